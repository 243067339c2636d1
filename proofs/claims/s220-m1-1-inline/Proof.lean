import JvmDerived
import JvmDerived.Pilot.@@N@@Statement
import JvmDerived.Pilot.@@N@@Code
set_option linter.unusedVariables false
set_option linter.unusedSimpArgs false
/- laws to paste: Road.backV, Road.lenW, Road.empW, Road.chN, Road.codOf, StrChars.narrow_ch, StrChars.lo8_mask (cut by pick.py; bodies as the Statement names them) -/
namespace Jvm.Pilot.@@N@@
namespace StrChars
open Jvm Sem ClassFile Op Lib Jvm.Stand Jvm.Free.XT Jvm.Free.ALB Jvm.Free.JM Jvm.Free
open Jvm.Lib.Cold (StaticIs)
/-- a char array whose places are chars -/
def Ch (a : Addr) (A : Cell) (U : State) : Prop := Arr .char a A U ∧ Typed .char A
theorem Ch.mv {a : Addr} {A : Cell} {U U' : State} (h : Ch a A U) (hal : U.vm.Alike U'.vm) (hh : U'.heap = U.heap) : Ch a A U' := ⟨h.1.mv hal hh, h.2⟩
theorem Ch.keep {a : Addr} {A : Cell} {U U' : State} (h : Ch a A U) (hal : U.vm.Alike U'.vm) (hk : U'.heap[a]? = some A) : Ch a A U' := ⟨h.1.keep hal hk, h.2⟩
/-- what place i of a char[]'s cell holds -/
def cv (A : Cell) (i : Nat) : Int32 := match A.slots[i]? with | some (.int x) => x | _ => 0
theorem Ch.get {a : Addr} {A : Cell} {U : State} (h : Ch a A U) {i : Nat} (hi : i < A.slots.size) : A.slots[i]? = some (.int (cv A i)) := by
  have e := Array.getElem?_eq_getElem hi
  have f := h.2 i _ e
  unfold cv; rw [e]
  generalize A.slots[i] = v at f
  cases v <;> simp [fits] at f ⊢
/-- the byte that i2b leaves of a char -/
def lo8 (x : Int32) : Int32 := x.toInt8.toInt32
theorem fits_lo8 (y : Int32) : fits .byte (.int (lo8 y)) = true := by
  have h1 := y.toInt8.le_toInt
  have h2 := y.toInt8.toInt_lt
  simp only [lo8, fits, Bool.and_eq_true, decide_eq_true_eq, Int32.le_iff_toInt_le, Int8.toInt_toInt32, show (-128 : Int32).toInt = -128 from by decide, show (127 : Int32).toInt = 127 from by decide]
  omega
/-- A' is A but that each place j of lo .. hi - 1 holds f j -/
def Laid (A A' : Cell) (lo hi : Nat) (f : Nat → Value) : Prop := A'.cls = A.cls ∧ A'.vm = A.vm ∧ A'.slots.size = A.slots.size ∧ ∀ i, A'.slots[i]? = if lo ≤ i ∧ i < hi then some (f i) else A.slots[i]?
theorem Laid.zero (A : Cell) (lo : Nat) (f : Nat → Value) : Laid A A lo (lo + 0) f := ⟨rfl, rfl, rfl, fun i => by rw [if_neg (by omega)]⟩
theorem Laid.step {A Ak : Cell} {lo k : Nat} {f : Nat → Value} {v : Value} (h : Laid A Ak lo k f) (hlo : lo ≤ k) (hk : k < Ak.slots.size) (hv : v = f k) : Laid A (Ak.setSlot k v) lo (k + 1) f := by
  refine ⟨h.1, h.2.1, by simpa [Cell.setSlot] using h.2.2.1, fun i => ?_⟩
  by_cases e : k = i
  · subst e; rw [Cell.slots_setSlot_self v hk, if_pos (by omega), hv]
  · rw [Cell.slots_setSlot_ne v e, h.2.2.2 i]
    by_cases q : lo ≤ i ∧ i < k
    · rw [if_pos q, if_pos (by omega)]
    · rw [if_neg q, if_neg (by omega)]
def U16 : String := "java/lang/StringUTF16"
namespace Cmp5
def yN : MethodName := ⟨"java/lang/StringUTF16", "compress", "([CI[BII)I"⟩
abbrev yB : ByteArray := jdk_52_method_21_code
theorem d0 : decode yB 0 = .ok (.iconst 0, 1) := by decide +kernel
theorem d1 : decode yB 1 = .ok (.istore 5, 2) := by decide +kernel
theorem d3 : decode yB 3 = .ok (.iload 5, 2) := by decide +kernel
theorem d5 : decode yB 5 = .ok (.iload 4, 2) := by decide +kernel
theorem d7 : decode yB 7 = .ok (.if_icmp (.ge) 37, 3) := by decide +kernel
theorem d10 : decode yB 10 = .ok (.aload_n 0, 1) := by decide +kernel
theorem d11 : decode yB 11 = .ok (.iload_n 1, 1) := by decide +kernel
theorem d12 : decode yB 12 = .ok (.caload, 1) := by decide +kernel
theorem d13 : decode yB 13 = .ok (.istore 6, 2) := by decide +kernel
theorem d15 : decode yB 15 = .ok (.iload 6, 2) := by decide +kernel
theorem d17 : decode yB 17 = .ok (.sipush 255, 3) := by decide +kernel
theorem d20 : decode yB 20 = .ok (.if_icmp (.le) 6, 3) := by decide +kernel
theorem d26 : decode yB 26 = .ok (.aload_n 2, 1) := by decide +kernel
theorem d27 : decode yB 27 = .ok (.iload_n 3, 1) := by decide +kernel
theorem d28 : decode yB 28 = .ok (.iload 6, 2) := by decide +kernel
theorem d30 : decode yB 30 = .ok (.i2b, 1) := by decide +kernel
theorem d31 : decode yB 31 = .ok (.bastore, 1) := by decide +kernel
theorem d32 : decode yB 32 = .ok (.iinc 1 1, 3) := by decide +kernel
theorem d35 : decode yB 35 = .ok (.iinc 3 1, 3) := by decide +kernel
theorem d38 : decode yB 38 = .ok (.iinc 5 1, 3) := by decide +kernel
theorem d41 : decode yB 41 = .ok (.goto (-38), 3) := by decide +kernel
theorem d44 : decode yB 44 = .ok (.iload 4, 2) := by decide +kernel
theorem d46 : decode yB 46 = .ok (.ireturn, 1) := by decide +kernel
def site : List Cond := []
def tab : Cond := tabOf yN yB 7 (some .int) site
def P (b : Addr) (A : Cell) (d : Addr) (B : Cell) (o q len : Nat) (args : Array Value) (s : State) : Prop := args = #[.ref b, .int (Int32.ofNat o), .ref d, .int (Int32.ofNat q), .int (Int32.ofNat len)] ∧ Ch b A s ∧ Arr .byte d B s ∧ b ≠ d ∧ o + len ≤ A.slots.size ∧ q + len ≤ B.slots.size ∧ ∀ i, i < len → ¬ 255 < cv A (o + i)
def E (b : Addr) (A : Cell) (d : Addr) (B : Cell) (o q len : Nat) (r : Option Value) (s u : State) : Prop := r = some (.int (Int32.ofNat len)) ∧ ∃ B', Put d B' s u ∧ Laid B B' q (q + len) (fun j => Value.int (lo8 (cv A (o + (j - q)))))
/-- no char of the range above 255: len; the places written hold each char's low byte -/
theorem law (l : Launch) (b : Addr) (A : Cell) (d : Addr) (B : Cell) (o q len : Nat) : Law l yN 5 5 0 0 yB 7 (some .int) site (P b A d B o q len) (E b A d B o q len) (copyLocs d q len) 0 0 := by
  refine Law.of_walk (plainFor_of_name (by decide +kernel)) (by decide +kernel) (by decide +kernel) (by decide) (fun _ _ h => by rw [h.1]; rfl) (fun _ U U' hal hh h => ⟨h.1, h.2.1.mv hal hh, h.2.2.1.mv hal hh, h.2.2.2⟩) (fun r U U' V V' h1 hal h2 h => ⟨h.1, h.2.elim fun B' q => ⟨B', q.1.mv h1 h2, q.2⟩⟩) ?_
  intro p e s m args below meth c s₁ X0 hexec hbytes hml hret hlk hnm hown hh0 W hP
  obtain ⟨rfl, hA, hB, hne, l1, l2, hp⟩ := hP
  have c1 : Steps p.tables e below (s₁.setTop (entryFrame m #[.ref b, .int (Int32.ofNat o), .ref d, .int (Int32.ofNat q), .int (Int32.ofNat len)] 7)) (s₁.setTop (mkF m 0 #[.val (.ref b), .val (.int (Int32.ofNat o)), .val (.ref d), .val (.int (Int32.ofNat q)), .val (.int (Int32.ofNat len)), .unset, .unset] [])) := entry rfl
  have hA0 := hA.1.mv X0.warmed.alike hh0
  have hB0 := hB.mv X0.warmed.alike hh0
  have a31 := hA.1.2.2.2
  have c2 : Steps p.tables e below (s₁.setTop (entryFrame m #[.ref b, .int (Int32.ofNat o), .ref d, .int (Int32.ofNat q), .int (Int32.ofNat len)] 7)) (s₁.setTop (mkF m 3 #[.val (.ref b), .val (.int (Int32.ofNat o)), .val (.ref d), .val (.int (Int32.ofNat q)), .val (.int (Int32.ofNat len)), .val (.int 0), .unset] [])) := c1.trans (by
    refine iconstV X0.here hexec rfl 0 (hb hbytes d0) (by decide) ?_
    refine XS.istore X0.here hexec rfl (hb hbytes d1) rfl rfl ?_
    exact Steps.refl _)
  have loop : ∀ (r i : Nat), i + r = len → ∀ (z : Slot), (z = .unset ∨ ∃ w, z = .val w ∧ w.category = 1) → ∀ (Tl : State) (Bk : Cell), Stand p l e { frames := 0, locals := 0, cells := 0, slots := 0 } s m #[.ref b, .int (Int32.ofNat o), .ref d, .int (Int32.ofNat q), .int (Int32.ofNat len)] below meth c Tl ([] ++ copyLocs d q i) 0 0 → Put d Bk s₁ Tl → Laid B Bk q (q + i) (fun j => Value.int (lo8 (cv A (o + (j - q))))) →
      Steps p.tables e below (s₁.setTop (entryFrame m #[.ref b, .int (Int32.ofNat o), .ref d, .int (Int32.ofNat q), .int (Int32.ofNat len)] 7)) (Tl.setTop (mkF m 3 #[.val (.ref b), .val (.int (Int32.ofNat (o + i))), .val (.ref d), .val (.int (Int32.ofNat (q + i))), .val (.int (Int32.ofNat len)), .val (.int (Int32.ofNat i)), z] [])) → ∃ (T' : State) (B' : Cell) (z' : Slot), Stand p l e { frames := 0, locals := 0, cells := 0, slots := 0 } s m #[.ref b, .int (Int32.ofNat o), .ref d, .int (Int32.ofNat q), .int (Int32.ofNat len)] below meth c T' ([] ++ copyLocs d q len) 0 0 ∧ Put d B' s₁ T' ∧ Laid B B' q (q + len) (fun j => Value.int (lo8 (cv A (o + (j - q))))) ∧
      Steps p.tables e below (s₁.setTop (entryFrame m #[.ref b, .int (Int32.ofNat o), .ref d, .int (Int32.ofNat q), .int (Int32.ofNat len)] 7)) (T'.setTop (mkF m 3 #[.val (.ref b), .val (.int (Int32.ofNat (o + len))), .val (.ref d), .val (.int (Int32.ofNat (q + len))), .val (.int (Int32.ofNat len)), .val (.int (Int32.ofNat len)), z'] [])) := by
    intro r
    induction r with
    | zero =>
      intro i hi z hz Tl Bk Xl pl fl cl
      have hil : i = len := by omega
      rw [hil] at Xl fl cl
      exact ⟨Tl, Bk, z, Xl, pl, fl, cl⟩
    | succ r ih =>
      intro i hi z hz Tl Bk Xl pl fl cl
      have all := X0.warmed.alike.symm.trans Xl.warmed.alike
      have hAl := hA0.keep all (pl.other hne hA0.1)
      have hBk := hB0.like all pl.1 fl.1 fl.2.1 fl.2.2.1
      have hlt : q + i < Bk.slots.size := by rw [fl.2.2.1]; omega
      have c3 : Steps p.tables e below (s₁.setTop (entryFrame m #[.ref b, .int (Int32.ofNat o), .ref d, .int (Int32.ofNat q), .int (Int32.ofNat len)] 7)) (Tl.setTop (mkF m 12 #[.val (.ref b), .val (.int (Int32.ofNat (o + i))), .val (.ref d), .val (.int (Int32.ofNat (q + i))), .val (.int (Int32.ofNat len)), .val (.int (Int32.ofNat i)), z] [.int (Int32.ofNat (o + i)), .ref b])) := cl.trans (by
        refine XS.iload Xl.here hexec rfl (hb hbytes d3) rfl ?_
        refine XS.iload Xl.here hexec rfl (hb hbytes d5) rfl ?_
        refine XS.icmpNo Xl.here hexec rfl (hb hbytes d7) rfl (ii_ge_f (lt32 (by omega) (by omega))) ?_
        refine XS.aloadN Xl.here hexec rfl (hb hbytes d10) rfl rfl ?_
        refine XS.iloadN Xl.here hexec rfl (hb hbytes d11) rfl ?_
        exact Steps.refl _)
      have c4 : Steps p.tables e below (s₁.setTop (entryFrame m #[.ref b, .int (Int32.ofNat o), .ref d, .int (Int32.ofNat q), .int (Int32.ofNat len)] 7)) (Tl.setTop (mkF m 13 #[.val (.ref b), .val (.int (Int32.ofNat (o + i))), .val (.ref d), .val (.int (Int32.ofNat (q + i))), .val (.int (Int32.ofNat len)), .val (.int (Int32.ofNat i)), z] [.int (cv A (o + i))])) := c3.trans (by
        refine Xl.aget hexec hAl rfl (hA.get (i := o + i) (by omega)) rfl rfl (hb hbytes d12) ?_
        exact Steps.refl _)
      have c5 : Steps p.tables e below (s₁.setTop (entryFrame m #[.ref b, .int (Int32.ofNat o), .ref d, .int (Int32.ofNat q), .int (Int32.ofNat len)] 7)) (Tl.setTop (mkF m 15 #[.val (.ref b), .val (.int (Int32.ofNat (o + i))), .val (.ref d), .val (.int (Int32.ofNat (q + i))), .val (.int (Int32.ofNat len)), .val (.int (Int32.ofNat i)), .val (.int (cv A (o + i)))] [])) := c4.trans (by
        refine XS.istoreS Xl.here hexec rfl (hb hbytes d13) rfl rfl hz ?_
        exact Steps.refl _)
      have c6 : Steps p.tables e below (s₁.setTop (entryFrame m #[.ref b, .int (Int32.ofNat o), .ref d, .int (Int32.ofNat q), .int (Int32.ofNat len)] 7)) (Tl.setTop (mkF m 31 #[.val (.ref b), .val (.int (Int32.ofNat (o + i))), .val (.ref d), .val (.int (Int32.ofNat (q + i))), .val (.int (Int32.ofNat len)), .val (.int (Int32.ofNat i)), .val (.int (cv A (o + i)))] [.int (lo8 (cv A (o + i))), .int (Int32.ofNat (q + i)), .ref d])) := c5.trans (by
        refine XS.iload Xl.here hexec rfl (hb hbytes d15) rfl ?_
        refine sipushV Xl.here hexec rfl 255 (hb hbytes d17) (by decide) ?_
        refine XS.icmpYes Xl.here hexec rfl (pc0 := 20) rfl (hb hbytes d20) rfl (ii_le_t (hp i (by omega))) (by decide) rfl ?_
        refine XS.aloadN Xl.here hexec rfl (hb hbytes d26) rfl rfl ?_
        refine XS.iloadN Xl.here hexec rfl (hb hbytes d27) rfl ?_
        refine XS.iload Xl.here hexec rfl (hb hbytes d28) rfl ?_
        refine i2b Xl.here hexec rfl (hb hbytes d30) rfl ?_
        exact Steps.refl _)
      obtain ⟨T7, X7, p7, st7⟩ := Xl.aput hexec hBk rfl hlt rfl (fits_lo8 (cv A (o + i))) (g := (mkF m 31 #[.val (.ref b), .val (.int (Int32.ofNat (o + i))), .val (.ref d), .val (.int (Int32.ofNat (q + i))), .val (.int (Int32.ofNat len)), .val (.int (Int32.ofNat i)), .val (.int (cv A (o + i)))] [.int (lo8 (cv A (o + i))), .int (Int32.ofNat (q + i)), .ref d])) rfl (rest := []) rfl (hb hbytes d31)
      have c8 : Steps p.tables e below (s₁.setTop (entryFrame m #[.ref b, .int (Int32.ofNat o), .ref d, .int (Int32.ofNat q), .int (Int32.ofNat len)] 7)) (T7.setTop (mkF m 32 #[.val (.ref b), .val (.int (Int32.ofNat (o + i))), .val (.ref d), .val (.int (Int32.ofNat (q + i))), .val (.int (Int32.ofNat len)), .val (.int (Int32.ofNat i)), .val (.int (cv A (o + i)))] [])) := c6.trans (st7 _ (Steps.refl _))
      have c9 : Steps p.tables e below (s₁.setTop (entryFrame m #[.ref b, .int (Int32.ofNat o), .ref d, .int (Int32.ofNat q), .int (Int32.ofNat len)] 7)) (T7.setTop (mkF m 3 #[.val (.ref b), .val (.int (Int32.ofNat (o + i) + 1)), .val (.ref d), .val (.int (Int32.ofNat (q + i) + 1)), .val (.int (Int32.ofNat len)), .val (.int (Int32.ofNat i + 1)), .val (.int (cv A (o + i)))] [])) := c8.trans (by
        refine iincV X7.here hexec rfl 1 (hb hbytes d32) (by decide) rfl rfl ?_
        refine iincV X7.here hexec rfl 1 (hb hbytes d35) (by decide) rfl rfl ?_
        refine iincV X7.here hexec rfl 1 (hb hbytes d38) (by decide) rfl rfl ?_
        refine XS.goto X7.here hexec rfl (pc0 := 41) rfl (hb hbytes d41) (by decide) rfl ?_
        exact Steps.refl _)
      have c10 : Steps p.tables e below (s₁.setTop (entryFrame m #[.ref b, .int (Int32.ofNat o), .ref d, .int (Int32.ofNat q), .int (Int32.ofNat len)] 7)) (T7.setTop (mkF m 3 #[.val (.ref b), .val (.int (Int32.ofNat (o + (i + 1)))), .val (.ref d), .val (.int (Int32.ofNat (q + (i + 1)))), .val (.int (Int32.ofNat len)), .val (.int (Int32.ofNat (i + 1))), .val (.int (cv A (o + i)))] [])) := by
        have := c9
        rw [succ32, succ32, succ32] at this
        exact this
      exact ih (i + 1) (by omega) _ (Or.inr ⟨_, rfl, rfl⟩) T7 _ (by rw [copyLocs_step, ← List.append_assoc]; exact X7) (pl.trans p7) (fl.step (by omega) hlt (by simp)) c10
  obtain ⟨T9, B9, z9, X9, p9, f9, g9⟩ := loop len 0 (by omega) .unset (Or.inl rfl) s₁ B (by simpa [copyLocs] using X0) ⟨hB0.1, fun _ _ => rfl, rfl⟩ (Laid.zero _ _ _) c2
  have c11 : Steps p.tables e below (s₁.setTop (entryFrame m #[.ref b, .int (Int32.ofNat o), .ref d, .int (Int32.ofNat q), .int (Int32.ofNat len)] 7)) (T9.setTop (mkF m 46 #[.val (.ref b), .val (.int (Int32.ofNat (o + len))), .val (.ref d), .val (.int (Int32.ofNat (q + len))), .val (.int (Int32.ofNat len)), .val (.int (Int32.ofNat len)), z9] [.int (Int32.ofNat len)])) := g9.trans (by
    refine XS.iload X9.here hexec rfl (hb hbytes d3) rfl ?_
    refine XS.iload X9.here hexec rfl (hb hbytes d5) rfl ?_
    refine XS.icmpYes X9.here hexec rfl (pc0 := 7) rfl (hb hbytes d7) rfl (ii_ge_t (nlt32 (by omega) (Nat.le_refl _))) (by decide) rfl ?_
    refine XS.iload X9.here hexec rfl (hb hbytes d44) rfl ?_
    exact Steps.refl _)
  exact ⟨T9, some (.int (Int32.ofNat len)), _, _, _, X9, by simp, rfl, rfl, (fun h => by cases h), ⟨rfl, B9, p9.from hh0, f9⟩, fun fs hl => c11.trans (X9.ireturnOut hexec hret rfl (Or.inl rfl) (hb hbytes d46) hl)⟩
end Cmp5
namespace Cmp3
def yN : MethodName := ⟨"java/lang/StringUTF16", "compress", "([CII)[B"⟩
abbrev yB : ByteArray := jdk_52_method_16_code
theorem d0 : decode yB 0 = .ok (.iload_n 2, 1) := by decide +kernel
theorem d1 : decode yB 1 = .ok (.newarray .byte, 2) := by decide +kernel
theorem d3 : decode yB 3 = .ok (.astore_n 3, 1) := by decide +kernel
theorem d4 : decode yB 4 = .ok (.aload_n 0, 1) := by decide +kernel
theorem d5 : decode yB 5 = .ok (.iload_n 1, 1) := by decide +kernel
theorem d6 : decode yB 6 = .ok (.aload_n 3, 1) := by decide +kernel
theorem d7 : decode yB 7 = .ok (.iconst 0, 1) := by decide +kernel
theorem d8 : decode yB 8 = .ok (.iload_n 2, 1) := by decide +kernel
theorem d9 : decode yB 9 = .ok (.invokestatic 115, 3) := by decide +kernel
theorem d12 : decode yB 12 = .ok (.istore 4, 2) := by decide +kernel
theorem d14 : decode yB 14 = .ok (.iload 4, 2) := by decide +kernel
theorem d16 : decode yB 16 = .ok (.iload_n 2, 1) := by decide +kernel
theorem d17 : decode yB 17 = .ok (.if_icmp (.eq) 40, 3) := by decide +kernel
theorem d57 : decode yB 57 = .ok (.aload_n 3, 1) := by decide +kernel
theorem d58 : decode yB 58 = .ok (.areturn, 1) := by decide +kernel
def site : List Cond := [.arrayClass .byte, Cmp5.tab] ++ staticW U16 115 Cmp5.yN
def tab : Cond := tabOf yN yB 6 (some (.array .byte)) site
def P (b : Addr) (A : Cell) (o len : Nat) (args : Array Value) (s : State) : Prop := args = #[.ref b, .int (Int32.ofNat o), .int (Int32.ofNat len)] ∧ Ch b A s ∧ o + len ≤ A.slots.size ∧ len ≤ 536870912 ∧ ∀ i, i < len → ¬ 255 < cv A (o + i)
def E (b : Addr) (A : Cell) (o len : Nat) (r : Option Value) (s u : State) : Prop := NewArr .byte "[B" len (fun j => .int (lo8 (cv A (o + j)))) r s u ∧ u.heap.size = s.heap.size + 1
/-- no char of the range above 255: a new byte[] of their low bytes -/
theorem law (l : Launch) (b : Addr) (A : Cell) (o len : Nat) : Law l yN 3 3 1 18 yB 6 (some (.array .byte)) site (P b A o len) (E b A o len) [] 1 len := by
  refine Law.of_walk (plainFor_of_name (by decide +kernel)) (by decide +kernel) (by decide +kernel) (by decide) (fun _ _ h => by rw [h.1]; rfl) (fun _ U U' hal hh h => ⟨h.1, h.2.1.mv hal hh, h.2.2⟩) (fun r U U' V V' h1 hal h2 h => ⟨NewArr.mv r U U' V V' h1 hal h2 h.1, by rw [h1, h2]; exact h.2⟩) ?_
  intro p e s m args below meth c s₁ X0 hexec hbytes hml hret hlk hnm hown hh0 W hP
  obtain ⟨rfl, hA, l1, l2, hp⟩ := hP
  have a31 := hA.1.2.2.2
  have c1 : Steps p.tables e below (s₁.setTop (entryFrame m #[.ref b, .int (Int32.ofNat o), .int (Int32.ofNat len)] 6)) (s₁.setTop (mkF m 0 #[.val (.ref b), .val (.int (Int32.ofNat o)), .val (.int (Int32.ofNat len)), .unset, .unset, .unset] [])) := entry rfl
  have c2 : Steps p.tables e below (s₁.setTop (entryFrame m #[.ref b, .int (Int32.ofNat o), .int (Int32.ofNat len)] 6)) (s₁.setTop (mkF m 1 #[.val (.ref b), .val (.int (Int32.ofNat o)), .val (.int (Int32.ofNat len)), .unset, .unset, .unset] [.int (Int32.ofNat len)])) := c1.trans (by
    refine XS.iloadN X0.here hexec rfl (hb hbytes d0) rfl ?_
    exact Steps.refl _)
  obtain ⟨T3, B3, X3, ba3, bs3, bv3, bh3, bf3, st3⟩ := X0.anew hexec (atype := .byte) (wk W (.arrayClass .byte)) rfl (by show len * 1 ≤ _; omega) (by omega) (g := (mkF m 1 #[.val (.ref b), .val (.int (Int32.ofNat o)), .val (.int (Int32.ofNat len)), .unset, .unset, .unset] [.int (Int32.ofNat len)])) rfl (hb hbytes d1) (rest := []) rfl (Nat.le_refl _) (by show 0 + len ≤ len; omega)
  rw [hh0] at ba3 st3
  have kp3 : XT.Kept s T3 := (XT.Kept.of_eq hh0).push bh3
  have hA3 := hA.keep X3.warmed.alike (kp3 _ _ hA.1.1)
  have hne : b ≠ s.heap.size := hA.1.ne
  have c4 : Steps p.tables e below (s₁.setTop (entryFrame m #[.ref b, .int (Int32.ofNat o), .int (Int32.ofNat len)] 6)) (T3.setTop (mkF m 3 #[.val (.ref b), .val (.int (Int32.ofNat o)), .val (.int (Int32.ofNat len)), .unset, .unset, .unset] [.ref s.heap.size])) := c2.trans (st3 _ (Steps.refl _))
  have c5 : Steps p.tables e below (s₁.setTop (entryFrame m #[.ref b, .int (Int32.ofNat o), .int (Int32.ofNat len)] 6)) (T3.setTop (mkF m 9 #[.val (.ref b), .val (.int (Int32.ofNat o)), .val (.int (Int32.ofNat len)), .val (.ref s.heap.size), .unset, .unset] [.int (Int32.ofNat len), .int 0, .ref s.heap.size, .int (Int32.ofNat o), .ref b])) := c4.trans (by
    refine XS.astoreN X3.here hexec rfl (hb hbytes d3) rfl rfl rfl ?_
    refine XS.aloadN X3.here hexec rfl (hb hbytes d4) rfl rfl ?_
    refine XS.iloadN X3.here hexec rfl (hb hbytes d5) rfl ?_
    refine XS.aloadN X3.here hexec rfl (hb hbytes d6) rfl rfl ?_
    refine iconstV X3.here hexec rfl 0 (hb hbytes d7) (by decide) ?_
    refine XS.iloadN X3.here hexec rfl (hb hbytes d8) rfl ?_
    exact Steps.refl _)
  obtain ⟨v6, T6, X6, E6, g6⟩ := X3.callS hexec (Cmp5.law l b A s.heap.size B3 o 0 len) hown (wks W (staticW U16 115 Cmp5.yN)) (wk W Cmp5.tab) (W := 0) (Nat.le_of_ble_eq_true rfl) (Nat.le_of_ble_eq_true rfl) (Nat.le_refl _) (by show 0 + len + 0 ≤ len; omega) (g := (mkF m 9 #[.val (.ref b), .val (.int (Int32.ofNat o)), .val (.int (Int32.ofNat len)), .val (.ref s.heap.size), .unset, .unset] [.int (Int32.ofNat len), .int (Int32.ofNat 0), .ref s.heap.size, .int (Int32.ofNat o), .ref b])) rfl (by rw [hml]; rfl) c5 (argsL := [.ref b, .int (Int32.ofNat o), .ref s.heap.size, .int (Int32.ofNat 0), .int (Int32.ofNat len)]) (rest := []) rfl rfl (by show 2 * 0 + 0 ≤ _; decide) (hb hbytes d9) (⟨rfl, hA3, ba3, hne, l1, by rw [bs3]; simp, hp⟩)
  obtain ⟨rfl, B6, p6, f6⟩ := E6
  have c7 : Steps p.tables e below (s₁.setTop (entryFrame m #[.ref b, .int (Int32.ofNat o), .int (Int32.ofNat len)] 6)) (T6.setTop (mkF m 12 #[.val (.ref b), .val (.int (Int32.ofNat o)), .val (.int (Int32.ofNat len)), .val (.ref s.heap.size), .unset, .unset] [.int (Int32.ofNat len)])) := g6
  have c8 : Steps p.tables e below (s₁.setTop (entryFrame m #[.ref b, .int (Int32.ofNat o), .int (Int32.ofNat len)] 6)) (T6.setTop (mkF m 58 #[.val (.ref b), .val (.int (Int32.ofNat o)), .val (.int (Int32.ofNat len)), .val (.ref s.heap.size), .val (.int (Int32.ofNat len)), .unset] [.ref s.heap.size])) := c7.trans (by
    refine XS.istore X6.here hexec rfl (hb hbytes d12) rfl rfl ?_
    refine XS.iload X6.here hexec rfl (hb hbytes d14) rfl ?_
    refine XS.iloadN X6.here hexec rfl (hb hbytes d16) rfl ?_
    refine XS.icmpYes X6.here hexec rfl (pc0 := 17) rfl (hb hbytes d17) rfl (ii_eq_t rfl) (by decide) rfl ?_
    refine XS.aloadN X6.here hexec rfl (hb hbytes d57) rfl rfl ?_
    exact Steps.refl _)
  have X8 := X6.wide (L' := []) (cells' := 1) (slots' := len) (fun x hx hlt => by
    simp only [List.nil_append, copyLocs, List.mem_map, List.mem_range] at hx
    obtain ⟨i, -, rfl⟩ := hx
    exact absurd hlt (Nat.lt_irrefl _)) (Nat.le_refl _) (by omega)
  exact ⟨T6, some (.ref s.heap.size), _, _, _, X8, rfl, rfl, rfl, (fun h => by cases h), ⟨⟨rfl, B6, ba3.like (X3.warmed.alike.symm.trans X6.warmed.alike) p6.1 f6.1 f6.2.1 f6.2.2.1, f6.2.1.trans bv3, by rw [X6.warmed.alike.findClass, f6.1]; exact bf3, by rw [f6.2.2.1, bs3]; simp, fun j hj => by rw [f6.2.2.2 j, if_pos (by omega)]; rfl, kp3.put p6 (Nat.le_refl _)⟩, by rw [p6.2.2, bh3, hh0]; simp⟩, fun fs hl => c8.trans (X8.areturnOut hexec rfl hret rfl (hb hbytes d58) hl)⟩
end Cmp3
namespace CodL
def yN : MethodName := ⟨"java/lang/StringUTF16", "coderFromArrayLen", "([BI)B"⟩
abbrev yB : ByteArray := jdk_52_method_15_code
theorem d0 : decode yB 0 = .ok (.iload_n 1, 1) := by decide +kernel
theorem d1 : decode yB 1 = .ok (.aload_n 0, 1) := by decide +kernel
theorem d2 : decode yB 2 = .ok (.arraylength, 1) := by decide +kernel
theorem d3 : decode yB 3 = .ok (.isub, 1) := by decide +kernel
theorem d4 : decode yB 4 = .ok (.bipush 31, 2) := by decide +kernel
theorem d6 : decode yB 6 = .ok (.iushr, 1) := by decide +kernel
theorem d7 : decode yB 7 = .ok (.i2b, 1) := by decide +kernel
theorem d8 : decode yB 8 = .ok (.ireturn, 1) := by decide +kernel
def site : List Cond := []
def tab : Cond := tabOf yN yB 2 (some .byte) site
def P (d : Addr) (B : Cell) (args : Array Value) (s : State) : Prop := args = #[.ref d, .int (Int32.ofNat B.slots.size)] ∧ Arr .byte d B s
def E (r : Option Value) (s u : State) : Prop := XT.PureE (some (.int 0)) r s u
/-- an array as long as the number of chars: LATIN1 -/
theorem law (l : Launch) (d : Addr) (B : Cell) : Law l yN 2 2 0 0 yB 2 (some .byte) site (P d B) E [] 0 0 := by
  refine Law.of_walk (plainFor_of_name (by decide +kernel)) (by decide +kernel) (by decide +kernel) (by decide) (fun _ _ h => by rw [h.1]; rfl) (fun _ U U' hal hh h => ⟨h.1, h.2.mv hal hh⟩) (fun r U U' V V' h1 hal h2 h => XT.PureE.mv r U U' V V' h1 hal h2 h) ?_
  intro p e s m args below meth c s₁ X0 hexec hbytes hml hret hlk hnm hown hh0 W hP
  obtain ⟨rfl, hB⟩ := hP
  have hB0 := hB.mv X0.warmed.alike hh0
  have c1 : Steps p.tables e below (s₁.setTop (entryFrame m #[.ref d, .int (Int32.ofNat B.slots.size)] 2)) (s₁.setTop (mkF m 0 #[.val (.ref d), .val (.int (Int32.ofNat B.slots.size))] [])) := entry rfl
  have c2 : Steps p.tables e below (s₁.setTop (entryFrame m #[.ref d, .int (Int32.ofNat B.slots.size)] 2)) (s₁.setTop (mkF m 2 #[.val (.ref d), .val (.int (Int32.ofNat B.slots.size))] [.ref d, .int (Int32.ofNat B.slots.size)])) := c1.trans (by
    refine XS.iloadN X0.here hexec rfl (hb hbytes d0) rfl ?_
    refine XS.aloadN X0.here hexec rfl (hb hbytes d1) rfl rfl ?_
    exact Steps.refl _)
  have c3 : Steps p.tables e below (s₁.setTop (entryFrame m #[.ref d, .int (Int32.ofNat B.slots.size)] 2)) (s₁.setTop (mkF m 8 #[.val (.ref d), .val (.int (Int32.ofNat B.slots.size))] [.int (lo8 (ushr (Int32.ofNat B.slots.size - Int32.ofNat B.slots.size) 31))])) := c2.trans (by
    refine X0.alen hexec hB0 rfl rfl (hb hbytes d2) ?_
    refine XS.isub X0.here hexec rfl (hb hbytes d3) rfl ?_
    refine bipushV X0.here hexec rfl 31 (hb hbytes d4) (by decide) ?_
    refine iushr X0.here hexec rfl (hb hbytes d6) rfl ?_
    refine i2b X0.here hexec rfl (hb hbytes d7) rfl ?_
    exact Steps.refl _)
  have e0 : lo8 (ushr (Int32.ofNat B.slots.size - Int32.ofNat B.slots.size) 31) = 0 := by rw [Int32.sub_self]; decide
  rw [e0] at c3
  exact ⟨s₁, some (.int 0), _, _, _, X0, rfl, rfl, rfl, (fun h => by cases h), ⟨rfl, hh0⟩, fun fs hl => c3.trans (X0.ireturnOut hexec hret rfl (Or.inr (Or.inr (Or.inl rfl))) (hb hbytes d8) hl)⟩
end CodL
/-- the String at a is Latin-1 over a new byte[] (the heap's one new cell): the low bytes of the len chars of A from o on; every cell but a is kept -/
def Got (a : Addr) (D : Cell) (fV fC : Field) (A : Cell) (o len : Nat) (r : Option Value) (s u : State) : Prop := r = none ∧ ∃ D' V : Cell, Blank "java/lang/String" a D' u ∧ Same D D' [fV.slot, fC.slot] ∧ D'.slots[fV.slot]? = some (.ref s.heap.size) ∧ D'.slots[fC.slot]? = some (.int 0) ∧ Arr .byte s.heap.size V u ∧ V.vm = .none ∧ u.vm.findClass "[B" = some V.cls ∧ V.slots.size = len ∧ (∀ j, j < len → V.slots[j]? = some (.int (lo8 (cv A (o + j))))) ∧ (∀ (y : Addr) (c : Cell), y ≠ a → s.heap[y]? = some c → u.heap[y]? = some c) ∧ u.heap.size = s.heap.size + 1
theorem Got.mv {a : Addr} {D A : Cell} {fV fC : Field} {o len : Nat} : ∀ r (U U' V V' : State), U'.heap = U.heap → V.vm.Alike V'.vm → V'.heap = V.heap → Got a D fV fC A o len r U V → Got a D fV fC A o len r U' V' :=
  fun r U U' V V' h1 hal h2 ⟨e0, D', X, a1, a2, a3, a4, a5, a6, a7, a8, a9, a10, a11⟩ => ⟨e0, D', X, a1.mv hal h2, a2, by rw [h1]; exact a3, a4, by rw [h1]; exact a5.mv hal h2, a6, by rw [hal.findClass]; exact a7, a8, a9, by rw [h1, h2]; exact a10, by rw [h1, h2]; exact a11⟩
namespace New4
def yN : MethodName := ⟨"java/lang/String", "<init>", "([CIILjava/lang/Void;)V"⟩
abbrev yB : ByteArray := jdk_42_method_149_code
theorem d0 : decode yB 0 = .ok (.aload_n 0, 1) := by decide +kernel
theorem d1 : decode yB 1 = .ok (.invokespecial 1, 3) := by decide +kernel
theorem d4 : decode yB 4 = .ok (.iload_n 3, 1) := by decide +kernel
theorem d5 : decode yB 5 = .ok (.ifCond (.ne) 22, 3) := by decide +kernel
theorem d27 : decode yB 27 = .ok (.getstatic 38, 3) := by decide +kernel
theorem d30 : decode yB 30 = .ok (.ifCond (.eq) 28, 3) := by decide +kernel
theorem d33 : decode yB 33 = .ok (.aload_n 1, 1) := by decide +kernel
theorem d34 : decode yB 34 = .ok (.iload_n 2, 1) := by decide +kernel
theorem d35 : decode yB 35 = .ok (.iload_n 3, 1) := by decide +kernel
theorem d36 : decode yB 36 = .ok (.invokestatic 177, 3) := by decide +kernel
theorem d39 : decode yB 39 = .ok (.astore 5, 2) := by decide +kernel
theorem d41 : decode yB 41 = .ok (.aload_n 0, 1) := by decide +kernel
theorem d42 : decode yB 42 = .ok (.aload 5, 2) := by decide +kernel
theorem d44 : decode yB 44 = .ok (.iload_n 3, 1) := by decide +kernel
theorem d45 : decode yB 45 = .ok (.invokestatic 47, 3) := by decide +kernel
theorem d48 : decode yB 48 = .ok (.putfield 15, 3) := by decide +kernel
theorem d51 : decode yB 51 = .ok (.aload_n 0, 1) := by decide +kernel
theorem d52 : decode yB 52 = .ok (.aload 5, 2) := by decide +kernel
theorem d54 : decode yB 54 = .ok (.putfield 9, 3) := by decide +kernel
theorem d57 : decode yB 57 = .ok (.return_, 1) := by decide +kernel
def site : List Cond := [.fieldLink "java/lang/String" 38 "java/lang/String" "COMPACT_STRINGS" "Z", Cmp3.tab, CodL.tab, .laysFinal "java/lang/String" "java/lang/String" "value" "[B", .fieldLink "java/lang/String" 9 "java/lang/String" "value" "[B", .laysFinal "java/lang/String" "java/lang/String" "coder" "B", .fieldLink "java/lang/String" 15 "java/lang/String" "coder" "B"] ++ objW "java/lang/String" 1 ++ staticW "java/lang/String" 177 Cmp3.yN ++ staticW "java/lang/String" 47 CodL.yN
def tab : Cond := tabOf yN yB 6 none site
def P (a : Addr) (D : Cell) (fV fC : Field) (b : Addr) (A : Cell) (z : Int32) (o len : Nat) (args : Array Value) (s : State) : Prop := args = #[.ref a, .ref b, .int (Int32.ofNat o), .int (Int32.ofNat len), .null] ∧ Blank "java/lang/String" a D s ∧ Found "java/lang/String" "value" "[B" fV s ∧ Found "java/lang/String" "coder" "B" fC s ∧ Ch b A s ∧ StaticIs s "java/lang/String" "COMPACT_STRINGS" "Z" (.int z) ∧ ¬ z = 0 ∧ 0 < len ∧ o + len ≤ A.slots.size ∧ len ≤ 536870912 ∧ ∀ i, i < len → ¬ 255 < cv A (o + i)
def E (a : Addr) (D : Cell) (fV fC : Field) (A : Cell) (o len : Nat) (r : Option Value) (s u : State) : Prop := Got a D fV fC A o len r s u
/-- len > 0, no char of the range above 255: a Latin-1 String of their low bytes -/
theorem law (l : Launch) (a : Addr) (D : Cell) (fV fC : Field) (b : Addr) (A : Cell) (z : Int32) (o len : Nat) : Law l yN 5 4 2 35 yB 6 none site (P a D fV fC b A z o len) (E a D fV fC A o len) [⟨a, fC.slot⟩, ⟨a, fV.slot⟩] 1 len := by
  refine Law.of_walk (plainFor_of_name (by decide +kernel)) (by decide +kernel) (by decide +kernel) (by decide) (fun _ _ h => by rw [h.1]; rfl) (fun _ U U' hal hh h => ⟨h.1, h.2.1.mv hal hh, h.2.2.1.al hal, h.2.2.2.1.al hal, h.2.2.2.2.1.mv hal hh, h.2.2.2.2.2.1.there hal hh, h.2.2.2.2.2.2⟩) (fun r U U' V V' h1 hal h2 h => Got.mv r U U' V V' h1 hal h2 h) ?_
  intro p e s m args below meth c s₁ X0 hexec hbytes hml hret hlk hnm hown hh0 W hP
  obtain ⟨rfl, hB, f1, f2, hA, s1, hz, l0, l1, l2, hp⟩ := hP
  have a31 := hA.1.2.2.2
  have c1 : Steps p.tables e below (s₁.setTop (entryFrame m #[.ref a, .ref b, .int (Int32.ofNat o), .int (Int32.ofNat len), .null] 6)) (s₁.setTop (mkF m 0 #[.val (.ref a), .val (.ref b), .val (.int (Int32.ofNat o)), .val (.int (Int32.ofNat len)), .val .null, .unset] [])) := entry rfl
  have c2 : Steps p.tables e below (s₁.setTop (entryFrame m #[.ref a, .ref b, .int (Int32.ofNat o), .int (Int32.ofNat len), .null] 6)) (s₁.setTop (mkF m 1 #[.val (.ref a), .val (.ref b), .val (.int (Int32.ofNat o)), .val (.int (Int32.ofNat len)), .val .null, .unset] [.ref a])) := c1.trans (by
    refine XS.aloadN X0.here hexec rfl (hb hbytes d0) rfl rfl ?_
    exact Steps.refl _)
  obtain ⟨T3, X3, q3, st3⟩ := X0.oinit hexec hown (wks W (objW "java/lang/String" 1)) (g := (mkF m 1 #[.val (.ref a), .val (.ref b), .val (.int (Int32.ofNat o)), .val (.int (Int32.ofNat len)), .val .null, .unset] [.ref a])) rfl (by rw [hml]; rfl) (rest := []) rfl (hb hbytes d1) (W := 0) (by show 2 * 0 + 0 ≤ _; decide) (Nat.le_of_ble_eq_true rfl) (Nat.le_of_ble_eq_true rfl)
  have hh3 := q3.trans hh0
  have c4 : Steps p.tables e below (s₁.setTop (entryFrame m #[.ref a, .ref b, .int (Int32.ofNat o), .int (Int32.ofNat len), .null] 6)) (T3.setTop (mkF m 27 #[.val (.ref a), .val (.ref b), .val (.int (Int32.ofNat o)), .val (.int (Int32.ofNat len)), .val .null, .unset] [])) := (c2.trans (st3 _ (Steps.refl _))).trans (by
    refine XS.iloadN X3.here hexec rfl (hb hbytes d4) rfl ?_
    refine XS.ifYes X3.here hexec rfl (pc0 := 5) rfl (hb hbytes d5) rfl (i0_ne_t (nz32 (by omega) l0)) (by decide) rfl ?_
    exact Steps.refl _)
  obtain ⟨T5, X5, q5, st5⟩ := X3.sget hexec hown (wk W (.fieldLink "java/lang/String" 38 "java/lang/String" "COMPACT_STRINGS" "Z")) s1 (fun _ _ h => by rw [hh3]; exact h) (g := (mkF m 27 #[.val (.ref a), .val (.ref b), .val (.int (Int32.ofNat o)), .val (.int (Int32.ofNat len)), .val .null, .unset] [])) rfl (hb hbytes d27)
  have hh5 := q5.trans hh3
  have c6 : Steps p.tables e below (s₁.setTop (entryFrame m #[.ref a, .ref b, .int (Int32.ofNat o), .int (Int32.ofNat len), .null] 6)) (T5.setTop (mkF m 30 #[.val (.ref a), .val (.ref b), .val (.int (Int32.ofNat o)), .val (.int (Int32.ofNat len)), .val .null, .unset] [.int z])) := c4.trans (st5 _ (Steps.refl _))
  have c7 : Steps p.tables e below (s₁.setTop (entryFrame m #[.ref a, .ref b, .int (Int32.ofNat o), .int (Int32.ofNat len), .null] 6)) (T5.setTop (mkF m 36 #[.val (.ref a), .val (.ref b), .val (.int (Int32.ofNat o)), .val (.int (Int32.ofNat len)), .val .null, .unset] [.int (Int32.ofNat len), .int (Int32.ofNat o), .ref b])) := c6.trans (by
    refine XS.ifNo X5.here hexec rfl (hb hbytes d30) rfl (i0_eq_f hz) ?_
    refine XS.aloadN X5.here hexec rfl (hb hbytes d33) rfl rfl ?_
    refine XS.iloadN X5.here hexec rfl (hb hbytes d34) rfl ?_
    refine XS.iloadN X5.here hexec rfl (hb hbytes d35) rfl ?_
    exact Steps.refl _)
  obtain ⟨v8, T8, X8, E8, g8⟩ := X5.callS hexec (Cmp3.law l b A o len) hown (wks W (staticW "java/lang/String" 177 Cmp3.yN)) (wk W Cmp3.tab) (W := 0) (Nat.le_of_ble_eq_true rfl) (Nat.le_of_ble_eq_true rfl) (Nat.le_refl _) (by show 0 + len ≤ len; omega) (g := (mkF m 36 #[.val (.ref a), .val (.ref b), .val (.int (Int32.ofNat o)), .val (.int (Int32.ofNat len)), .val .null, .unset] [.int (Int32.ofNat len), .int (Int32.ofNat o), .ref b])) rfl (by rw [hml]; rfl) c7 (argsL := [.ref b, .int (Int32.ofNat o), .int (Int32.ofNat len)]) (rest := []) rfl rfl (by show 2 * 0 + 0 ≤ _; decide) (hb hbytes d36) (⟨rfl, hA.mv X5.warmed.alike hh5, l1, l2, hp⟩)
  obtain ⟨e8, z8⟩ := E8
  obtain ⟨rfl, N, n1, n2, n3, n4, n5, n6⟩ := NewArr.mv _ T5 s _ _ hh5.symm (Vm.Alike.refl _) rfl e8
  rw [hh5] at z8
  have hB1 := hB.keep X8.warmed.alike (n6 _ _ hB.1)
  have hne : s.heap.size ≠ a := (Nat.ne_of_lt (Array.getElem?_eq_some_iff.mp hB.1).1).symm
  have c9 : Steps p.tables e below (s₁.setTop (entryFrame m #[.ref a, .ref b, .int (Int32.ofNat o), .int (Int32.ofNat len), .null] 6)) (T8.setTop (mkF m 39 #[.val (.ref a), .val (.ref b), .val (.int (Int32.ofNat o)), .val (.int (Int32.ofNat len)), .val .null, .unset] [.ref s.heap.size])) := g8
  have c10 : Steps p.tables e below (s₁.setTop (entryFrame m #[.ref a, .ref b, .int (Int32.ofNat o), .int (Int32.ofNat len), .null] 6)) (T8.setTop (mkF m 45 #[.val (.ref a), .val (.ref b), .val (.int (Int32.ofNat o)), .val (.int (Int32.ofNat len)), .val .null, .val (.ref s.heap.size)] [.int (Int32.ofNat N.slots.size), .ref s.heap.size, .ref a])) := by
    have hc : Steps p.tables e below (s₁.setTop (entryFrame m #[.ref a, .ref b, .int (Int32.ofNat o), .int (Int32.ofNat len), .null] 6)) (T8.setTop (mkF m 45 #[.val (.ref a), .val (.ref b), .val (.int (Int32.ofNat o)), .val (.int (Int32.ofNat len)), .val .null, .val (.ref s.heap.size)] [.int (Int32.ofNat len), .ref s.heap.size, .ref a])) := c9.trans (by
      refine XS.astore X8.here hexec rfl (hb hbytes d39) rfl rfl rfl ?_
      refine XS.aloadN X8.here hexec rfl (hb hbytes d41) rfl rfl ?_
      refine XS.aload X8.here hexec rfl (hb hbytes d42) rfl rfl ?_
      refine XS.iloadN X8.here hexec rfl (hb hbytes d44) rfl ?_
      exact Steps.refl _)
    rw [n4]; exact hc
  obtain ⟨v11, T11, X11, E11, g11⟩ := X8.callS hexec (CodL.law l s.heap.size N) hown (wks W (staticW "java/lang/String" 47 CodL.yN)) (wk W CodL.tab) (W := 1) (Nat.le_of_ble_eq_true rfl) (Nat.le_of_ble_eq_true rfl) (Nat.le_refl _) (by show 0 + len + 0 ≤ len; omega) (g := (mkF m 45 #[.val (.ref a), .val (.ref b), .val (.int (Int32.ofNat o)), .val (.int (Int32.ofNat len)), .val .null, .val (.ref s.heap.size)] [.int (Int32.ofNat N.slots.size), .ref s.heap.size, .ref a])) rfl (by rw [hml]; rfl) c10 (argsL := [.ref s.heap.size, .int (Int32.ofNat N.slots.size)]) (rest := [.ref a]) rfl rfl (by show 2 * 0 + (1 + 0) ≤ _; decide) (hb hbytes d45) (⟨rfl, n1⟩)
  obtain ⟨rfl, q11⟩ := E11
  have hB11 := hB1.mv (X8.warmed.alike.symm.trans X11.warmed.alike) q11
  have c12 : Steps p.tables e below (s₁.setTop (entryFrame m #[.ref a, .ref b, .int (Int32.ofNat o), .int (Int32.ofNat len), .null] 6)) (T11.setTop (mkF m 48 #[.val (.ref a), .val (.ref b), .val (.int (Int32.ofNat o)), .val (.int (Int32.ofNat len)), .val .null, .val (.ref s.heap.size)] [.int 0, .ref a])) := g11
  obtain ⟨T13, X13, p13, bl13, sl13, st13⟩ := X11.finit hexec hown (wk W (.fieldLink "java/lang/String" 15 "java/lang/String" "coder" "B")) (Or.inr ⟨_, (wk W (.laysFinal "java/lang/String" "java/lang/String" "coder" "B"))⟩) (Or.inl ⟨rfl, hnm⟩) f2 (Or.inl rfl) hB11 (t := .byte) (by decide +kernel) rfl (g := (mkF m 48 #[.val (.ref a), .val (.ref b), .val (.int (Int32.ofNat o)), .val (.int (Int32.ofNat len)), .val .null, .val (.ref s.heap.size)] [.int 0, .ref a])) rfl (rest := []) rfl (hb hbytes d48)
  have c14 : Steps p.tables e below (s₁.setTop (entryFrame m #[.ref a, .ref b, .int (Int32.ofNat o), .int (Int32.ofNat len), .null] 6)) (T13.setTop (mkF m 54 #[.val (.ref a), .val (.ref b), .val (.int (Int32.ofNat o)), .val (.int (Int32.ofNat len)), .val .null, .val (.ref s.heap.size)] [.ref s.heap.size, .ref a])) := (c12.trans (st13 _ (Steps.refl _))).trans (by
    refine XS.aloadN X13.here hexec rfl (hb hbytes d51) rfl rfl ?_
    refine XS.aload X13.here hexec rfl (hb hbytes d52) rfl rfl ?_
    exact Steps.refl _)
  obtain ⟨T15, X15, p15, bl15, sl15, st15⟩ := X13.finit hexec hown (wk W (.fieldLink "java/lang/String" 9 "java/lang/String" "value" "[B")) (Or.inr ⟨_, (wk W (.laysFinal "java/lang/String" "java/lang/String" "value" "[B"))⟩) (Or.inl ⟨rfl, hnm⟩) f1 (Or.inl rfl) bl13 (t := (.array .byte)) (by decide +kernel) rfl (g := (mkF m 54 #[.val (.ref a), .val (.ref b), .val (.int (Int32.ofNat o)), .val (.int (Int32.ofNat len)), .val .null, .val (.ref s.heap.size)] [.ref s.heap.size, .ref a])) rfl (rest := []) rfl (hb hbytes d54)
  have c16 : Steps p.tables e below (s₁.setTop (entryFrame m #[.ref a, .ref b, .int (Int32.ofNat o), .int (Int32.ofNat len), .null] 6)) (T15.setTop (mkF m 57 #[.val (.ref a), .val (.ref b), .val (.int (Int32.ofNat o)), .val (.int (Int32.ofNat len)), .val .null, .val (.ref s.heap.size)] [])) := c14.trans (st15 _ (Steps.refl _))
  have ap := apart (Or.inr ⟨_, (wk W (.laysFinal "java/lang/String" "java/lang/String" "value" "[B"))⟩) (Or.inr ⟨_, (wk W (.laysFinal "java/lang/String" "java/lang/String" "coder" "B"))⟩) f1 f2 (t₁ := .array .byte) (t₂ := .byte) (by decide +kernel) (by decide +kernel) (by decide)
  have al := X8.warmed.alike.symm.trans X15.warmed.alike
  have n7 : T11.heap[s.heap.size]? = some N := by rw [q11]; exact n1.1
  exact ⟨T15, none, _, _, _, X15, by simp, rfl, by omega, (fun _ => rfl), ⟨rfl, _, N, bl15, ((Same.refl D _).set _ (by simp)).set _ (by simp), sl15, (Cell.slots_setSlot_ne _ ap).trans sl13, n1.keep al (p15.other hne (p13.other hne n7)), n2, by rw [al.findClass]; exact n3, n4, n5, fun y c h1 h2 => p15.other h1 (p13.other h1 (by rw [q11]; exact n6 y c h2)), by rw [p15.2.2, p13.2.2, q11]; exact z8⟩, fun fs hl => c16.trans (X15.returnOut hexec hret (hb hbytes d57) hl)⟩
end New4
namespace New1
def yN : MethodName := ⟨"java/lang/String", "<init>", "([C)V"⟩
abbrev yB : ByteArray := jdk_42_method_3_code
theorem d0 : decode yB 0 = .ok (.aload_n 0, 1) := by decide +kernel
theorem d1 : decode yB 1 = .ok (.aload_n 1, 1) := by decide +kernel
theorem d2 : decode yB 2 = .ok (.iconst 0, 1) := by decide +kernel
theorem d3 : decode yB 3 = .ok (.aload_n 1, 1) := by decide +kernel
theorem d4 : decode yB 4 = .ok (.arraylength, 1) := by decide +kernel
theorem d5 : decode yB 5 = .ok (.aconst_null, 1) := by decide +kernel
theorem d6 : decode yB 6 = .ok (.invokespecial 27, 3) := by decide +kernel
theorem d9 : decode yB 9 = .ok (.return_, 1) := by decide +kernel
def site : List Cond := [New4.tab] ++ initW "java/lang/String" 27 New4.yN
def tab : Cond := tabOf yN yB 2 none site
def P (a : Addr) (D : Cell) (fV fC : Field) (b : Addr) (A : Cell) (z : Int32) (args : Array Value) (s : State) : Prop := args = #[.ref a, .ref b] ∧ Blank "java/lang/String" a D s ∧ Found "java/lang/String" "value" "[B" fV s ∧ Found "java/lang/String" "coder" "B" fC s ∧ Ch b A s ∧ StaticIs s "java/lang/String" "COMPACT_STRINGS" "Z" (.int z) ∧ ¬ z = 0 ∧ 0 < A.slots.size ∧ A.slots.size ≤ 536870912 ∧ ∀ i, i < A.slots.size → ¬ 255 < cv A i
def E (a : Addr) (D : Cell) (fV fC : Field) (A : Cell) (r : Option Value) (s u : State) : Prop := Got a D fV fC A 0 A.slots.size r s u
/-- new String(chars), not empty, no char above 255: a Latin-1 String of their low bytes -/
theorem law (l : Launch) (a : Addr) (D : Cell) (fV fC : Field) (b : Addr) (A : Cell) (z : Int32) : Law l yN 2 1 3 52 yB 2 none site (P a D fV fC b A z) (E a D fV fC A) [⟨a, fC.slot⟩, ⟨a, fV.slot⟩] 1 A.slots.size := by
  refine Law.of_walk (plainFor_of_name (by decide +kernel)) (by decide +kernel) (by decide +kernel) (by decide) (fun _ _ h => by rw [h.1]; rfl) (fun _ U U' hal hh h => ⟨h.1, h.2.1.mv hal hh, h.2.2.1.al hal, h.2.2.2.1.al hal, h.2.2.2.2.1.mv hal hh, h.2.2.2.2.2.1.there hal hh, h.2.2.2.2.2.2⟩) (fun r U U' V V' h1 hal h2 h => Got.mv r U U' V V' h1 hal h2 h) ?_
  intro p e s m args below meth c s₁ X0 hexec hbytes hml hret hlk hnm hown hh0 W hP
  obtain ⟨rfl, hB, f1, f2, hA, s1, hz, l0, l2, hp⟩ := hP
  have c1 : Steps p.tables e below (s₁.setTop (entryFrame m #[.ref a, .ref b] 2)) (s₁.setTop (mkF m 0 #[.val (.ref a), .val (.ref b)] [])) := entry rfl
  have c2 : Steps p.tables e below (s₁.setTop (entryFrame m #[.ref a, .ref b] 2)) (s₁.setTop (mkF m 6 #[.val (.ref a), .val (.ref b)] [.null, .int (Int32.ofNat A.slots.size), .int 0, .ref b, .ref a])) := c1.trans (by
    refine XS.aloadN X0.here hexec rfl (hb hbytes d0) rfl rfl ?_
    refine XS.aloadN X0.here hexec rfl (hb hbytes d1) rfl rfl ?_
    refine iconstV X0.here hexec rfl 0 (hb hbytes d2) (by decide) ?_
    refine XS.aloadN X0.here hexec rfl (hb hbytes d3) rfl rfl ?_
    refine X0.alen hexec (hA.1.mv X0.warmed.alike hh0) rfl rfl (hb hbytes d4) ?_
    refine XS.aconstNull X0.here hexec rfl (hb hbytes d5) ?_
    exact Steps.refl _)
  obtain ⟨v3, T3, X3, E3, g3⟩ := X0.callN hexec (New4.law l a D fV fC b A z 0 A.slots.size) rfl hown (wks W (initW "java/lang/String" 27 New4.yN)) (W New4.tab (by simp only [site, List.mem_cons, List.mem_append, true_or, or_true])) (W := 0) (Nat.le_of_ble_eq_true rfl) (Nat.le_of_ble_eq_true rfl) (Nat.le_refl _) (by show 0 + A.slots.size ≤ A.slots.size; omega) (g := (mkF m 6 #[.val (.ref a), .val (.ref b)] [.null, .int (Int32.ofNat A.slots.size), .int (Int32.ofNat 0), .ref b, .ref a])) rfl (by rw [hml]; rfl) c2 (argsL := [.ref b, .int (Int32.ofNat 0), .int (Int32.ofNat A.slots.size), .null]) (rest := []) rfl rfl (by show 2 * 0 + 0 ≤ _; decide) (hb hbytes d6) (⟨rfl, hB.mv X0.warmed.alike hh0, f1.al X0.warmed.alike, f2.al X0.warmed.alike, hA.mv X0.warmed.alike hh0, s1.there X0.warmed.alike hh0, hz, l0, by omega, l2, fun i hi => by rw [Nat.zero_add]; exact hp i hi⟩)
  have e0 := Got.mv _ s₁ s _ _ hh0.symm (Vm.Alike.refl _) rfl E3
  obtain rfl := e0.1
  have c4 : Steps p.tables e below (s₁.setTop (entryFrame m #[.ref a, .ref b] 2)) (T3.setTop (mkF m 9 #[.val (.ref a), .val (.ref b)] [])) := g3
  exact ⟨T3, none, _, _, _, X3, by simp, rfl, by omega, (fun _ => rfl), e0, fun fs hl => c4.trans (X3.returnOut hexec hret (hb hbytes d9) hl)⟩
theorem pays {l : Launch} {R : Room} {p : Program} {e : Env} {below : List Frame} {s : State} {sargs : Array Value} {len W : Nat} (a : Addr) (D : Cell) (fV fC : Field) (b : Addr) (A : Cell) (z : Int32) (htab : tab.before sargs s = true) (hfr : 4 ≤ R.frames) (hlo : W + 65 ≤ R.locals) :
    Back l R p e below s sargs yN len W (fun A₁ a₁ => A₁.cells + 1 ≤ R.cells ∧ A₁.slots + A.slots.size ≤ R.slots ∧ P a D fV fC b A z a₁ A₁.U) (fun A₁ _ v₁ B₁ => E a D fV fC A v₁ A₁.U B₁.U ∧ B₁.locs = A₁.locs ++ [⟨a, fC.slot⟩, ⟨a, fV.slot⟩] ∧ B₁.cells = A₁.cells + 1 ∧ B₁.slots = A₁.slots + A.slots.size) :=
  (law l a D fV fC b A z).pays htab hfr (by omega)
end New1
/-- the byte, read back as charAt reads it, is the char -/
theorem lo8_mask {x : Int32} (h0 : ¬ x < 0) (h1 : ¬ 255 < x) : lo8 x &&& 255 = x := by
  have t : ∀ k : Fin 256, lo8 (Int32.ofNat k.val) &&& 255 = Int32.ofNat k.val := by decide +kernel
  rw [Int32.lt_iff_toInt_lt] at h0 h1
  have e0 : (0 : Int32).toInt = 0 := rfl
  have e1 : (255 : Int32).toInt = 255 := rfl
  obtain ⟨k, hk⟩ : ∃ k : Nat, x.toInt = k := ⟨x.toInt.toNat, by omega⟩
  have hx : x = Int32.ofNat k := Int32.toInt_inj.mp (by rw [hk, Int32.toInt_ofNat_small (by omega)])
  rw [hx]
  exact t ⟨k, by omega⟩
end StrChars
namespace StrChars.Road
open Jvm Sem ClassFile Op Lib Jvm.Stand Jvm.Free Jvm.Free.XT
open Jvm.Lib.Cold (StaticIs)
abbrev ST : String := "java/lang/String"
/-- every table word that New1's law asks, flat -/
abbrev words : List Jvm.Cond := [.code New1.yN New1.yB 2 none, .initialized ST, .methodLink ST 27 New4.yN, .instanceMethod New4.yN,
  .code New4.yN New4.yB 6 none, .fieldLink ST 38 ST "COMPACT_STRINGS" "Z", .laysFinal ST ST "value" "[B", .fieldLink ST 9 ST "value" "[B", .laysFinal ST ST "coder" "B", .fieldLink ST 15 ST "coder" "B",
  .methodLink ST 1 Lib.objectInit, .instanceMethod Lib.objectInit, .code Lib.objectInit ⟨#[0xb1]⟩ 1 none, .methodLink ST 177 Cmp3.yN, .static Cmp3.yN, .methodLink ST 47 CodL.yN, .static CodL.yN,
  .code Cmp3.yN Cmp3.yB 6 (some (.array .byte)), .initialized U16, .arrayClass .byte, .methodLink U16 115 Cmp5.yN, .static Cmp5.yN, .code Cmp5.yN Cmp5.yB 7 (some .int), .code CodL.yN CodL.yB 2 (some .byte)]
theorem tab_of {a : Array Value} {s : State} (h : ∀ w ∈ words, w.before a s = true) : New1.tab.before a s = true := by
  have h5 : Cmp5.tab.before a s = true := unparts (wk h (.code Cmp5.yN Cmp5.yB 7 (some .int))) (wks h (.initialized Cmp5.yN.cls :: Cmp5.site))
  have hc : CodL.tab.before a s = true := unparts (wk h (.code CodL.yN CodL.yB 2 (some .byte))) (wks h (.initialized CodL.yN.cls :: CodL.site))
  have q5 : ∀ w ∈ Cmp5.tab :: words, w.before a s = true := fun w hw => (List.mem_cons.mp hw).elim (fun e => e ▸ h5) (h w)
  have h3 : Cmp3.tab.before a s = true := unparts (wk q5 (.code Cmp3.yN Cmp3.yB 6 (some (.array .byte)))) (wks q5 (.initialized Cmp3.yN.cls :: Cmp3.site))
  have q3 : ∀ w ∈ Cmp3.tab :: CodL.tab :: words, w.before a s = true := fun w hw => (List.mem_cons.mp hw).elim (fun e => e ▸ h3) fun hw => (List.mem_cons.mp hw).elim (fun e => e ▸ hc) (h w)
  have h4 : New4.tab.before a s = true := unparts (wk q3 (.code New4.yN New4.yB 6 none)) (wks q3 (.initialized New4.yN.cls :: New4.site))
  have q4 : ∀ w ∈ New4.tab :: words, w.before a s = true := fun w hw => (List.mem_cons.mp hw).elim (fun e => e ▸ h4) (h w)
  exact unparts (wk q4 (.code New1.yN New1.yB 2 none)) (wks q4 (.initialized New1.yN.cls :: New1.site))
/-- the words ride from the start Z to the walk's own state -/
theorem moved {Z s : State} {a0 args : Array Value} (hZ : Z.Warmed39 s.vm) (hw : ∀ d ∈ words, d.before a0 Z = true) : ∀ d ∈ words, d.before args s = true := fun d hd => by
  have q := hw d hd
  have t : ∀ d ∈ words, d = .arrayClass .byte ∨ (d.onTables && d.keepsFace) = true := by decide +kernel
  rcases t d hd with rfl | t
  · exact RoadKit.mvA hZ q
  · exact RoadKit.mv hZ q t
/-- WHAT COMES BACK, over the tables of the start Z: h the heap at the call, h' behind it -/
def Q (Z : State) (x : Addr) (A : Cell) (h : Heap) (v : Option Value) (h' : Heap) (L : List Loc) : Prop := v = none ∧ (∀ y ∈ L, y.base = x) ∧ RoadKit.Keep h h' [x] ∧ h'.size = h.size + 1 ∧ RoadKit.Exa Z h' x ST ∧ RoadKit.Fld Z h' x ST "value" "[B" (.ref h.size) ∧ RoadKit.Fld Z h' x ST "coder" "B" (.int 0) ∧
  (∃ V : Cell, RoadKit.Arr Z h' h.size V .byte ∧ V.vm = .none ∧ Z.vm.findClass "[B" = some V.cls ∧ V.slots.size = A.slots.size ∧ ∀ j, j < A.slots.size → V.slots[j]? = some (.int (lo8 (cv A j)))) ∧
  ∀ (O n d : String) (w : Value), RoadKit.Fld Z h x O n d w → RoadKit.slotOf Z O n d ≠ RoadKit.slotOf Z ST "value" "[B" → RoadKit.slotOf Z O n d ≠ RoadKit.slotOf Z ST "coder" "B" → RoadKit.Fld Z h' x O n d w
/-- **new String(chars) AT A CALL, IN THE ROAD'S FORM**: for specialBack behind newO: x the fresh String, b the char[] with the cell A -/
theorem back {p : Program} {l : Launch} {e : Env} {R : Room} {s : State} {args : Array Value} {below : List Frame} {len W : Nat} {Z : State} {a0 : Array Value} {h : Heap} (hZ : Z.Warmed39 s.vm) (hw : ∀ d ∈ words, d.before a0 Z = true) {kI : Nat} (wi : (Jvm.Cond.instantiable ST kI).before a0 Z = true)
    {x b : Addr} {A : Cell} {z : Int32} {v0 c0 : Value} (E : RoadKit.Exa Z h x ST) (V : RoadKit.Fld Z h x ST "value" "[B" v0) (C : RoadKit.Fld Z h x ST "coder" "B" c0) (K : RoadKit.Arr Z h b A .char) (hty : Typed .char A) (S : RoadKit.Sta Z h ST "COMPACT_STRINGS" "Z" (.int z)) (hz : ¬ z = 0)
    (l0 : 0 < A.slots.size) (l2 : A.slots.size ≤ 536870912) (hp : ∀ i, i < A.slots.size → ¬ 255 < cv A i) (hfr : 4 ≤ R.frames) (hlo : W + 65 ≤ R.locals) :
    Back l R p e below s args New1.yN len W (fun P a => a = #[.ref x, .ref b] ∧ P.U.heap = h ∧ P.cells + 1 ≤ R.cells ∧ P.slots + A.slots.size ≤ R.slots)
      (fun P _ v B => ∃ L, Q Z x A h v B.U.heap L ∧ B.locs = P.locs ++ L ∧ B.cells = P.cells + 1 ∧ B.slots = P.slots + A.slots.size) := by
  intro m meth c P g ig mk a X hg hsize hdg hW hn hp'
  obtain ⟨rfl, rfl, r1, r2⟩ := hp'
  have al : Z.vm.Alike P.U.vm := hZ.alike.trans X.warmed.alike
  obtain ⟨D, cfV, kV, iV, fV, hD, gV, stV, knV, obV, asV, slV⟩ := id V
  obtain ⟨D', cfC, kC, iC, fC, hD', gC, stC, -, -, asC, slC⟩ := id C
  cases hD.symm.trans hD'
  obtain ⟨D2, kD, e1, e2, e3, e4, e5⟩ := id E
  cases hD.symm.trans e1
  obtain ⟨c2, k2, i1, i2, i3, -⟩ := Cond.instantiable_spec wi
  cases e2.symm.trans i1
  cases e3.symm.trans i2
  obtain ⟨kU, u1, u2⟩ := al.2.2 _ _ e3
  have hB : Blank ST x D P.U := ⟨hD, ⟨knV, fun q hq => by rw [hq] at obV; cases obV⟩, by rw [al.findClass]; exact e2, kU, u1, by rw [u2]; exact i3, by rw [u2]; exact e5 i3⟩
  have F1 : Found ST "value" "[B" fV P.U := ⟨SBG.found_only al ⟨cfV, kV, iV, gV⟩, stV⟩
  have F2 : Found ST "coder" "B" fC P.U := ⟨SBG.found_only al ⟨cfC, kC, iC, gC⟩, stC⟩
  have hA : Ch b A P.U := ⟨⟨K.1, State.isArrayOf_alike al K.2.1, K.2.2, by omega⟩, hty⟩
  have hS : StaticIs P.U ST "COMPACT_STRINGS" "Z" (.int z) := by
    obtain ⟨cfS, iS, kS, fS, st, cS, t1, t2, t3, t4, t5, t6, t7⟩ := S
    exact StaticIs.there (s := { Z with heap := P.U.heap }) ⟨cfS, iS, kS, fS, st, cS, t1, t2, t3, t4, t5, (fun q => by rw [q] at t6; cases t6), t7⟩ al rfl
  obtain ⟨v, B, X', ⟨⟨hv, E', V', q1, q2, q3, q4, q5, q6, q7, q8, q9, q10, q11⟩, hl, hc, hs⟩, st⟩ := New1.pays x D fV fC b A z (tab_of (moved hZ hw)) hfr hlo m meth c P g ig mk _ X hg hsize hdg hW hn ⟨r1, r2, rfl, hB, F1, F2, hA, hS, hz, l0, l2, hp⟩
  have al' : Z.vm.Alike B.U.vm := hZ.alike.trans X'.warmed.alike
  have hsz : E'.slots.size = D.slots.size := by
    obtain ⟨-, -, -, kB, w1, w2, w3⟩ := q1
    obtain ⟨kB', y1, y2⟩ := al'.2.2 _ _ e3
    rw [q2.2.1] at w1
    cases w1.symm.trans y1
    rw [w3, e5 i3, y2]
  refine ⟨v, B, X', ⟨_, ⟨hv, ?_, ⟨by omega, fun y cy hy hn' => q10 y cy (by simpa using hn') hy, fun y cy hy => ?_⟩, q11, ⟨E', _, q1.1, by rw [q2.2.1]; exact e2, by rw [q2.2.1]; exact e3, by rw [q2.1]; exact obV, fun _ => by rw [hsz]; exact e5 i3⟩,
    ⟨E', cfV, kV, iV, fV, q1.1, gV, stV, by rw [q2.1]; exact knV, by rw [q2.1]; exact obV, by rw [q2.2.1]; exact asV, q3⟩, ⟨E', cfC, kC, iC, fC, q1.1, gC, stC, by rw [q2.1]; exact knV, by rw [q2.1]; exact obV, by rw [q2.2.1]; exact asC, q4⟩,
    ⟨V', ⟨q5.1, State.isArrayOf_alike al'.symm q5.2.1, q5.2.2.1⟩, q6, by rw [← al'.findClass]; exact q7, q8, fun j hj => by have := q9 j hj; rwa [Nat.zero_add] at this⟩, fun O n d w F n1 n2 => ?_⟩, hl, hc, hs⟩, st⟩
  · intro y hy
    simp only [List.mem_cons, List.not_mem_nil, or_false] at hy
    rcases hy with rfl | rfl <;> rfl
  · by_cases q : y = x
    · subst q
      cases hD.symm.trans hy
      exact ⟨E', q1.1, q2.2.1, q2.1, hsz⟩
    · exact ⟨cy, q10 y cy q hy, rfl, rfl, rfl⟩
  · obtain ⟨D3, cf, k, i, f, g1, g2, g3, g4, g5, g6, g7⟩ := F
    cases hD.symm.trans g1
    simp only [RoadKit.slotOf, g2, gV, gC, Option.map_some, Option.getD_some] at n1 n2
    exact ⟨E', cf, k, i, f, q1.1, g2, g3, by rw [q2.1]; exact g4, by rw [q2.1]; exact g5, by rw [q2.2.1]; exact g6, by rw [q2.2.2 f.slot (by simp [n1, n2])]; exact g7⟩
end StrChars.Road
namespace StrChars.Road
open Jvm Sem ClassFile Op Lib Jvm.Stand Jvm.Free Jvm.Free.XT
/-- WHAT COMES BACK, the byte[] as a list of values -/
def QA (Z : State) (x : Addr) (zn : Int32) (cs : List Int32) (h : Heap) (v : Option Value) (h' : Heap) (L : List Loc) : Prop := v = none ∧ (∀ y ∈ L, y.base = x) ∧ RoadKit.Keep h h' [x] ∧ h'.size = h.size + 1 ∧ RoadKit.Exa Z h' x ST ∧ RoadKit.Fld Z h' x ST "value" "[B" (.ref h.size) ∧ RoadKit.Fld Z h' x ST "coder" "B" (.int 0) ∧
  (∃ kb, Z.vm.findClass "[B" = some kb ∧ RoadKit.Arv Z h' h.size kb .byte zn (cs.map fun c => .int (lo8 c)) (.int 0)) ∧
  ∀ (O n d : String) (w : Value), RoadKit.Fld Z h x O n d w → RoadKit.slotOf Z O n d ≠ RoadKit.slotOf Z ST "value" "[B" → RoadKit.slotOf Z O n d ≠ RoadKit.slotOf Z ST "coder" "B" → RoadKit.Fld Z h' x O n d w
/-- **new String(chars) AT A CALL, THE ARRAYS AS LISTS**: the char[] at b holds cs, not empty, no char above 255 -/
theorem backArv {p : Program} {l : Launch} {e : Env} {R : Room} {s : State} {args : Array Value} {below : List Frame} {len W : Nat} {Z : State} {a0 : Array Value} {h : Heap} (hZ : Z.Warmed39 s.vm) (hw : ∀ d ∈ words, d.before a0 Z = true) {kI : Nat} (wi : (Jvm.Cond.instantiable ST kI).before a0 Z = true)
    {x b : Addr} {k : ClassId} {zn z : Int32} {cs : List Int32} {dv v0 c0 : Value} (E : RoadKit.Exa Z h x ST) (V : RoadKit.Fld Z h x ST "value" "[B" v0) (C : RoadKit.Fld Z h x ST "coder" "B" c0) (K : RoadKit.Arv Z h b k .char zn (cs.map Value.int) dv) (S : RoadKit.Sta Z h ST "COMPACT_STRINGS" "Z" (.int z)) (hz : ¬ z = 0)
    (hlen : zn.toNatClampNeg = cs.length) (h0 : 0 < cs.length) (hbig : cs.length ≤ 536870912) (hall : ∀ c ∈ cs, ¬ 255 < c) (hfr : 4 ≤ R.frames) (hlo : W + 65 ≤ R.locals) :
    Back l R p e below s args New1.yN len W (fun P a => a = #[.ref x, .ref b] ∧ P.U.heap = h ∧ P.cells + 1 ≤ R.cells ∧ P.slots + cs.length ≤ R.slots)
      (fun P _ v B => ∃ L, QA Z x zn cs h v B.U.heap L ∧ B.locs = P.locs ++ L ∧ B.cells = P.cells + 1 ∧ B.slots = P.slots + cs.length) := by
  obtain ⟨A, K1, K2, K3, K4, K5, K6⟩ := K
  have e : A.slots.size = cs.length := K3.trans hlen
  have hat : ∀ (i : Nat) (hi : i < cs.length), A.slots[i]? = some (.int cs[i]) := fun i hi => by rw [K5 i (by omega)]; simp [List.getD_eq_getElem?_getD, hi]
  have hcv : ∀ (i : Nat) (hi : i < cs.length), cv A i = cs[i] := fun i hi => by unfold cv; rw [hat i hi]
  have hty : Typed .char A := fun i v hv => by
    have hi : i < A.slots.size := (Array.getElem?_eq_some_iff.mp hv).1
    have q := K5 i hi
    rw [hv] at q
    rw [Option.some.inj q]
    exact K6 i hi
  refine Back.mono (back hZ hw wi E V C K1 hty S hz (by omega) (by omega) (fun i hi => by rw [hcv i (by omega)]; exact hall _ (List.getElem_mem _)) hfr hlo) (fun P a hp => ⟨hp.1, hp.2.1, hp.2.2.1, by rw [e]; exact hp.2.2.2⟩) (fun P a v B hp hq => ?_)
  obtain ⟨L, ⟨q1, q2, q3, q4, q5, q6, q7, ⟨V', v1, v2, v3, v4, v5⟩, q9⟩, hl, hc, hs⟩ := hq
  refine ⟨L, ⟨q1, q2, q3, q4, q5, q6, q7, ⟨V'.cls, v3, V', v1, rfl, by rw [v4, e, hlen], K4, fun i hi => ?_, fun i hi => ?_⟩, q9⟩, hl, hc, by rw [hs, e]⟩
  · have hi' : i < cs.length := by omega
    rw [v5 i (by omega), hcv i hi']; simp [List.getD_eq_getElem?_getD, hi']
  · have hi' : i < cs.length := by omega
    simp only [List.getD_eq_getElem?_getD, List.getElem?_map, List.getElem?_eq_getElem hi', Option.map_some, Option.getD_some]
    exact fits_lo8 _
end StrChars.Road
namespace StrChars.Road
open Jvm Sem ClassFile Op Lib Jvm.Stand Jvm.Free Jvm.Free.XT
/-- WHAT COMES BACK, in the writer's own shape -/
def QV (Z : State) (x : Addr) (N : Int32) (bs : List Int32) (h : Heap) (n0 : Nat) (v : Option Value) (h' : Heap) (L : List Loc) : Prop := v = none ∧ RoadKit.Fr n0 L ∧ RoadKit.Keep h h' [x] ∧ RoadKit.Exa Z h' x ST ∧ RoadKit.Fld Z h' x ST "coder" "B" (.int 0) ∧
  ∃ (t : Addr) (kb : ClassId), n0 ≤ t ∧ h.size ≤ t ∧ ¬ t = x ∧ RoadKit.Fld Z h' x ST "value" "[B" (.ref t) ∧ RoadKit.Arv Z h' t kb .byte N (bs.map Value.int) (.int 0)
/-- **new String(chars) AT A CALL, FOR THE WRITER**: a char[] of n known ints, each 0 to 255 -/
theorem backV {p : Program} {l : Launch} {e : Env} {R : Room} {s : State} {args : Array Value} {below : List Frame} {len W : Nat} {Z : State} {a0 : Array Value} {h : Heap} (hZ : Z.Warmed39 s.vm) (hw : ∀ d ∈ words, d.before a0 Z = true) {kI : Nat} (wi : (Jvm.Cond.instantiable ST kI).before a0 Z = true)
    {x b : Addr} {kC : ClassId} {cs bs : List Int32} {d v0 c0 : Value} {z N : Int32} {n n0 : Nat} (hx0 : n0 ≤ x) (hh0 : n0 ≤ h.size) (E : RoadKit.Exa Z h x ST) (V : RoadKit.Fld Z h x ST "value" "[B" v0) (C : RoadKit.Fld Z h x ST "coder" "B" c0) (K : RoadKit.Arv Z h b kC .char N (cs.map Value.int) d) (S : RoadKit.Sta Z h ST "COMPACT_STRINGS" "Z" (.int z)) (hz : ¬ z = 0)
    (hn : cs.length = n) (hN : N = Int32.ofNat n) (l0 : 0 < n) (l2 : n ≤ 4000) (hp : ∀ c ∈ cs, ¬ c < 0 ∧ ¬ (255 : Int32) < c) (hb : bs = cs.map (fun c => c.toInt8.toInt32)) (hfr : 4 ≤ R.frames) (hlo : W + 65 ≤ R.locals) :
    Back l R p e below s args (⟨"java/lang/String", "<init>", "([C)V"⟩ : MethodName) len W (fun P a => a = #[.ref x, .ref b] ∧ P.U.heap = h ∧ P.cells + 1 ≤ R.cells ∧ P.slots + n ≤ R.slots)
      (fun P _ v B => ∃ L, QV Z x N bs h n0 v B.U.heap L ∧ B.locs = P.locs ++ L ∧ B.cells = P.cells + 1 ∧ B.slots = P.slots + n) := by
  subst hn hN hb
  refine Back.mono (backArv hZ hw wi E V C K S hz (n32 (by omega)) l0 (by omega) (fun c hc => (hp c hc).2) hfr hlo) (fun P a hp => hp) (fun P a v B hp hq => ?_)
  obtain ⟨L, ⟨q1, q2, q3, q4, q5, q6, q7, ⟨kb, v1, v2⟩, q9⟩, hl, hc, hs⟩ := hq
  exact ⟨L, ⟨q1, fun y hy => by rw [q2 y hy]; exact hx0, q3, q5, q7, h.size, kb, hh0, Nat.le_refl _, Nat.ne_of_gt E.lt, q6, by rw [List.map_map]; exact v2⟩, hl, hc, hs⟩
end StrChars.Road
namespace StrChars
open Jvm Sem ClassFile Op Lib Jvm.Stand Jvm.Free.XT Jvm.Free.ALB Jvm.Free.JM Jvm.Free
open Jvm.Lib.Cold (StaticIs)
def hi8 (x : Int32) : Int32 := lo8 (x >>> ((8 : Int32) &&& 31))
/-- what StringUTF16.getChar makes of two bytes -/
def pairCh (u v : Int32) : Int32 := (((u &&& 255) <<< ((0 : Int32) &&& 31)) ||| ((v &&& 255) <<< ((8 : Int32) &&& 31))).toUInt32.toUInt16.toUInt32.toInt32
theorem shr0 (c : Int32) : c >>> ((0 : Int32) &&& 31) = c := by
  have e : ((0 : Int32) &&& 31) = 0 := by decide
  rw [e]
  apply Int32.toBitVec_inj.mp
  rw [Int32.toBitVec_shiftRight]
  have e1 : ((0 : Int32).toBitVec.smod 32) = 0#32 := by decide
  rw [e1, BitVec.sshiftRight_eq']
  exact BitVec.sshiftRight_zero
theorem lo8_and (x : Int32) : (lo8 x &&& 255).toBitVec.toNat = x.toBitVec.toNat % 256 := by
  have h : (lo8 x).toBitVec = (x.toBitVec.signExtend 8).signExtend 32 := by rw [lo8, Int8.toBitVec_toInt32, Int32.toBitVec_toInt8]
  rw [Int32.toBitVec_and, BitVec.toNat_and, h]
  have e : ((x.toBitVec.signExtend 8).signExtend 32).toNat % 256 = x.toBitVec.toNat % 256 := by
    rw [BitVec.toNat_signExtend]
    have hlt := x.toBitVec.isLt
    simp only [BitVec.toNat_setWidth, BitVec.toNat_signExtend]
    split <;> split <;> omega
  rw [← e]
  exact Nat.and_two_pow_sub_one_eq_mod _ 8
theorem pair_says {c : Int32} (h0 : ¬ c < 0) (h1 : ¬ 65535 < c) : pairCh (lo8 c) (hi8 c) = c := by
  rw [Int32.lt_iff_toInt_lt] at h0 h1
  have e0 : (0 : Int32).toInt = 0 := rfl
  have e1 : (65535 : Int32).toInt = 65535 := rfl
  have hc : c.toInt = c.toBitVec.toNat := by
    have := c.toBitVec.isLt
    have e : c.toInt = c.toBitVec.toInt := rfl
    rw [e] at h0 h1
    rw [e]
    rw [BitVec.toInt_eq_toNat_cond] at h0 h1 ⊢
    split at h0 <;> split <;> omega
  have hn : c.toBitVec.toNat < 65536 := by omega
  have a1 := lo8_and c
  have a2 : (hi8 c &&& 255).toBitVec.toNat = c.toBitVec.toNat / 256 := by
    rw [hi8, lo8_and]
    have e : ((8 : Int32) &&& 31) = 8 := by decide
    rw [e, Int32.toBitVec_shiftRight]
    have e2 : ((8 : Int32).toBitVec.smod 32) = 8#32 := by decide
    rw [e2, BitVec.sshiftRight_eq', BitVec.toNat_sshiftRight_of_msb_false (by rw [BitVec.msb_eq_false_iff_two_mul_lt]; omega)]
    show c.toBitVec.toNat >>> 8 % 256 = _
    rw [Nat.shiftRight_eq_div_pow]
    omega
  unfold pairCh
  apply Int32.toBitVec_inj.mp
  apply BitVec.eq_of_toNat_eq
  have f0 : ((0 : Int32) &&& 31) = 0 := by decide
  have f8 : ((8 : Int32) &&& 31) = 8 := by decide
  rw [f0, f8]
  have g : (((lo8 c &&& 255) <<< (0 : Int32)) ||| ((hi8 c &&& 255) <<< (8 : Int32))).toBitVec.toNat = c.toBitVec.toNat := by
    rw [Int32.toBitVec_or, Int32.toBitVec_shiftLeft, Int32.toBitVec_shiftLeft]
    have s0 : ((0 : Int32).toBitVec.smod 32) = 0#32 := by decide
    have s8 : ((8 : Int32).toBitVec.smod 32) = 8#32 := by decide
    rw [s0, s8, BitVec.toNat_or]
    simp only [BitVec.shiftLeft_eq', BitVec.toNat_shiftLeft, a1, a2]
    show (c.toBitVec.toNat % 256) <<< 0 % 2 ^ 32 ||| (c.toBitVec.toNat / 256) <<< 8 % 2 ^ 32 = _
    rw [Nat.shiftLeft_zero, Nat.mod_eq_of_lt (show c.toBitVec.toNat % 256 < 2 ^ 32 by omega), Nat.mod_eq_of_lt (show (c.toBitVec.toNat / 256) <<< 8 < 2 ^ 32 by rw [Nat.shiftLeft_eq]; omega), Nat.or_comm, ← Nat.shiftLeft_add_eq_or_of_lt (by omega), Nat.shiftLeft_eq]
    omega
  show BitVec.toNat (((((lo8 c &&& 255) <<< (0 : Int32)) ||| ((hi8 c &&& 255) <<< (8 : Int32))).toBitVec.setWidth 16).setWidth 32) = _
  rw [BitVec.toNat_setWidth, BitVec.toNat_setWidth, g]
  omega
end StrChars
namespace StrChars
open Jvm Sem ClassFile Op Lib Jvm.Stand Jvm.Free.XT Jvm.Free.ALB Jvm.Free.JM Jvm.Free
open Jvm.Lib.Cold (StaticIs)
theorem shr1 {n : Nat} (h : 2 * n < 2 ^ 31) : Int32.ofNat (2 * n) >>> ((1 : Int32) &&& 31) = Int32.ofNat n := by
  have e : ((1 : Int32) &&& 31) = 1 := by decide
  rw [e]
  apply Int32.toBitVec_inj.mp
  rw [Int32.toBitVec_shiftRight]
  have e1 : ((1 : Int32).toBitVec.smod 32) = 1#32 := by decide
  have hm : (BitVec.ofNat 32 (2 * n)).toNat = 2 * n := by rw [BitVec.toNat_ofNat, Nat.mod_eq_of_lt (by omega)]
  rw [e1, BitVec.sshiftRight_eq']
  apply BitVec.eq_of_toNat_eq
  show ((BitVec.ofNat 32 (2 * n)).sshiftRight 1).toNat = (BitVec.ofNat 32 n).toNat
  rw [BitVec.toNat_sshiftRight_of_msb_false (by rw [BitVec.msb_eq_false_iff_two_mul_lt, hm]; omega), hm, BitVec.toNat_ofNat, Nat.shiftRight_eq_div_pow]
  omega
/-- charAt's cast of a byte read back -/
def chr8 (u : Int32) : Int32 := (u &&& 255).toUInt32.toUInt16.toUInt32.toInt32
theorem chr8_lo8 {c : Int32} (h0 : ¬ c < 0) (h1 : ¬ 255 < c) : chr8 (lo8 c) = c := by
  have t : ∀ k : Fin 256, (Int32.ofNat k.val).toUInt32.toUInt16.toUInt32.toInt32 = Int32.ofNat k.val := by decide +kernel
  unfold chr8
  rw [lo8_mask h0 h1]
  rw [Int32.lt_iff_toInt_lt] at h0 h1
  have e0 : (0 : Int32).toInt = 0 := rfl
  have e1 : (255 : Int32).toInt = 255 := rfl
  obtain ⟨k, hk⟩ : ∃ k : Nat, c.toInt = k := ⟨c.toInt.toNat, by omega⟩
  have hx : c = Int32.ofNat k := Int32.toInt_inj.mp (by rw [hk, Int32.toInt_ofNat_small (by omega)])
  rw [hx]
  exact t ⟨k, by omega⟩
theorem narrow_ch {c : Int32} (h0 : ¬ c < 0) (h1 : ¬ 65535 < c) : narrow .char (.int c) = .int c := by
  have q : narrow .char (.int (pairCh (lo8 c) (hi8 c))) = .int (pairCh (lo8 c) (hi8 c)) := narrow_c _
  rwa [pair_says h0 h1] at q
/-- the array's cell V codes the n chars f 0 .. f (n - 1) by the coder cd, as the JDK does: coder 1 just where some char is above 255 -/
def Cod (cd : Int32) (n : Nat) (f : Nat → Int32) (V : Cell) : Prop := (cd = 0 ∧ V.slots.size = n ∧ ∀ j, j < n → V.slots[j]? = some (.int (lo8 (f j))) ∧ ¬ 255 < f j) ∨ (cd = 1 ∧ V.slots.size = 2 * n ∧ (∀ j, j < n → V.slots[2 * j]? = some (.int (lo8 (f j))) ∧ V.slots[2 * j + 1]? = some (.int (hi8 (f j)))) ∧ ∃ j, j < n ∧ 255 < f j)
theorem Cod.cd {cd : Int32} {n : Nat} {f : Nat → Int32} {V : Cell} (h : Cod cd n f V) : cd = 0 ∨ cd = 1 := h.imp (fun q => q.1) fun q => q.1
theorem Cod.len {cd : Int32} {n : Nat} {f : Nat → Int32} {V : Cell} (h : Cod cd n f V) (hs : V.slots.size < 2 ^ 31) : Int32.ofNat V.slots.size >>> (cd &&& 31) = Int32.ofNat n := by
  rcases h with ⟨rfl, h, -⟩ | ⟨rfl, h, -⟩
  · rw [shr0, h]
  · rw [h, shr1 (by omega)]
/-- **x is a String of the n chars f 0 .. f (n - 1)**, Latin-1 or UTF-16; its array at t has the cell V -/
def Txt (x t : Addr) (V : Cell) (cd : Int32) (n : Nat) (f : Nat → Int32) (U : State) : Prop := Exact "java/lang/String" x U ∧ Has x "java/lang/String" "value" "[B" (.ref t) U ∧ Has x "java/lang/String" "coder" "B" (.int cd) U ∧ XT.Arr .byte t V U ∧ Cod cd n f V ∧ ∀ j, j < n → ¬ f j < 0 ∧ ¬ 65535 < f j
theorem Txt.mv {x t : Addr} {V : Cell} {cd : Int32} {n : Nat} {f : Nat → Int32} {U U' : State} (h : Txt x t V cd n f U) (hal : U.vm.Alike U'.vm) (hh : U'.heap = U.heap) : Txt x t V cd n f U' := ⟨h.1.mv hal hh, h.2.1.mv hal hh, h.2.2.1.mv hal hh, h.2.2.2.1.mv hal hh, h.2.2.2.2⟩
namespace Cdr
def yN : MethodName := ⟨"java/lang/String", "coder", "()B"⟩
abbrev yB : ByteArray := jdk_42_method_152_code
theorem d0 : decode yB 0 = .ok (.getstatic 38, 3) := by decide +kernel
theorem d3 : decode yB 3 = .ok (.ifCond (.eq) 10, 3) := by decide +kernel
theorem d6 : decode yB 6 = .ok (.aload_n 0, 1) := by decide +kernel
theorem d7 : decode yB 7 = .ok (.getfield 15, 3) := by decide +kernel
theorem d10 : decode yB 10 = .ok (.goto 4, 3) := by decide +kernel
theorem d14 : decode yB 14 = .ok (.ireturn, 1) := by decide +kernel
def site : List Cond := [.fieldLink "java/lang/String" 38 "java/lang/String" "COMPACT_STRINGS" "Z", .fieldLink "java/lang/String" 15 "java/lang/String" "coder" "B"]
def tab : Cond := tabOf yN yB 1 (some .byte) site
def P (x : Addr) (cd z : Int32) (args : Array Value) (s : State) : Prop := args = #[.ref x] ∧ Has x "java/lang/String" "coder" "B" (.int cd) s ∧ (cd = 0 ∨ cd = 1) ∧ StaticIs s "java/lang/String" "COMPACT_STRINGS" "Z" (.int z) ∧ ¬ z = 0
def E (cd : Int32) (r : Option Value) (s u : State) : Prop := XT.PureE (some (.int cd)) r s u
theorem law (l : Launch) (x : Addr) (cd z : Int32) : Law l yN 1 0 0 0 yB 1 (some .byte) site (P x cd z) (E cd) [] 0 0 := by
  refine Law.of_walk (plainFor_of_name (by decide +kernel)) (by decide +kernel) (by decide +kernel) (by decide) (fun _ _ h => by rw [h.1]; rfl) (fun _ U U' hal hh h => ⟨h.1, h.2.1.mv hal hh, h.2.2.1, h.2.2.2.1.there hal hh, h.2.2.2.2⟩) (fun r U U' V V' h1 hal h2 h => XT.PureE.mv r U U' V V' h1 hal h2 h) ?_
  intro p e s m args below meth c s₁ X0 hexec hbytes hml hret hlk hnm hown hh0 W hP
  obtain ⟨rfl, hx, hc, s1, hz⟩ := hP
  have c1 : Steps p.tables e below (s₁.setTop (entryFrame m #[.ref x] 1)) (s₁.setTop (mkF m 0 #[.val (.ref x)] [])) := entry rfl
  obtain ⟨T2, X2, q2, st2⟩ := X0.sget hexec hown (wk W (.fieldLink "java/lang/String" 38 "java/lang/String" "COMPACT_STRINGS" "Z")) s1 (fun _ _ h => by rw [hh0]; exact h) (g := (mkF m 0 #[.val (.ref x)] [])) rfl (hb hbytes d0)
  have hh2 := q2.trans hh0
  have c3 : Steps p.tables e below (s₁.setTop (entryFrame m #[.ref x] 1)) (T2.setTop (mkF m 7 #[.val (.ref x)] [.ref x])) := (c1.trans (st2 _ (Steps.refl _))).trans (by
    refine XS.ifNo X2.here hexec rfl (hb hbytes d3) rfl (i0_eq_f hz) ?_
    refine XS.aloadN X2.here hexec rfl (hb hbytes d6) rfl rfl ?_
    exact Steps.refl _)
  obtain ⟨T4, X4, q4, st4⟩ := X2.hget hexec hown (wk W (.fieldLink "java/lang/String" 15 "java/lang/String" "coder" "B")) (hx.mv X2.warmed.alike hh2) (g := (mkF m 7 #[.val (.ref x)] [.ref x])) rfl (rest := []) rfl (hb hbytes d7)
  have c5 : Steps p.tables e below (s₁.setTop (entryFrame m #[.ref x] 1)) (T4.setTop (mkF m 14 #[.val (.ref x)] [.int cd])) := (c3.trans (st4 _ (Steps.refl _))).trans (by
    refine XS.goto X4.here hexec rfl (pc0 := 10) rfl (hb hbytes d10) (by decide) rfl ?_
    exact Steps.refl _)
  exact ⟨T4, some (.int cd), _, _, _, X4, rfl, rfl, rfl, (fun h => by cases h), ⟨rfl, q4.trans hh2⟩, fun fs hl => c5.trans (X4.ireturnOut hexec hret (by rcases hc with rfl | rfl <;> rfl) (Or.inr (Or.inr (Or.inl rfl))) (hb hbytes d14) hl)⟩
end Cdr
namespace Len
def yN : MethodName := ⟨"java/lang/String", "length", "()I"⟩
abbrev yB : ByteArray := jdk_42_method_54_code
theorem d0 : decode yB 0 = .ok (.aload_n 0, 1) := by decide +kernel
theorem d1 : decode yB 1 = .ok (.getfield 9, 3) := by decide +kernel
theorem d4 : decode yB 4 = .ok (.arraylength, 1) := by decide +kernel
theorem d5 : decode yB 5 = .ok (.aload_n 0, 1) := by decide +kernel
theorem d6 : decode yB 6 = .ok (.invokevirtual 335, 3) := by decide +kernel
theorem d9 : decode yB 9 = .ok (.ishr, 1) := by decide +kernel
theorem d10 : decode yB 10 = .ok (.ireturn, 1) := by decide +kernel
def site : List Cond := [.fieldLink "java/lang/String" 9 "java/lang/String" "value" "[B", Cdr.tab] ++ virtW "java/lang/String" 335 "java/lang/String" Cdr.yN Cdr.yN
def tab : Cond := tabOf yN yB 1 (some .int) site
def P (x t : Addr) (V : Cell) (cd : Int32) (n : Nat) (f : Nat → Int32) (z : Int32) (args : Array Value) (s : State) : Prop := args = #[.ref x] ∧ Txt x t V cd n f s ∧ StaticIs s "java/lang/String" "COMPACT_STRINGS" "Z" (.int z) ∧ ¬ z = 0
def E (n : Nat) (r : Option Value) (s u : State) : Prop := XT.PureE (some (.int (Int32.ofNat n))) r s u
/-- length() of a String of n chars, in either coding -/
theorem law (l : Launch) (x t : Addr) (V : Cell) (cd : Int32) (n : Nat) (f : Nat → Int32) (z : Int32) : Law l yN 1 0 1 13 yB 1 (some .int) site (P x t V cd n f z) (E n) [] 0 0 := by
  refine Law.of_walk (plainFor_of_name (by decide +kernel)) (by decide +kernel) (by decide +kernel) (by decide) (fun _ _ h => by rw [h.1]; rfl) (fun _ U U' hal hh h => ⟨h.1, h.2.1.mv hal hh, h.2.2.1.there hal hh, h.2.2.2⟩) (fun r U U' V V' h1 hal h2 h => XT.PureE.mv r U U' V V' h1 hal h2 h) ?_
  intro p e s m args below meth c s₁ X0 hexec hbytes hml hret hlk hnm hown hh0 W hP
  obtain ⟨rfl, hx, s1, hz⟩ := hP
  have v31 := hx.2.2.2.1.2.2.2
  have c1 : Steps p.tables e below (s₁.setTop (entryFrame m #[.ref x] 1)) (s₁.setTop (mkF m 1 #[.val (.ref x)] [.ref x])) := Steps.trans (entry rfl) (by
    show Steps p.tables e below (s₁.setTop (mkF m 0 #[.val (.ref x)] [])) _
    refine XS.aloadN X0.here hexec rfl (hb hbytes d0) rfl rfl ?_
    exact Steps.refl _)
  obtain ⟨T2, X2, q2, st2⟩ := X0.hget hexec hown (wk W (.fieldLink "java/lang/String" 9 "java/lang/String" "value" "[B")) (hx.mv X0.warmed.alike hh0).2.1 (g := (mkF m 1 #[.val (.ref x)] [.ref x])) rfl (rest := []) rfl (hb hbytes d1)
  have hh2 := q2.trans hh0
  have hx2 := hx.mv X2.warmed.alike hh2
  have c3 : Steps p.tables e below (s₁.setTop (entryFrame m #[.ref x] 1)) (T2.setTop (mkF m 6 #[.val (.ref x)] [.ref x, .int (Int32.ofNat V.slots.size)])) := (c1.trans (st2 _ (Steps.refl _))).trans (by
    refine X2.alen hexec hx2.2.2.2.1 rfl rfl (hb hbytes d4) ?_
    refine XS.aloadN X2.here hexec rfl (hb hbytes d5) rfl rfl ?_
    exact Steps.refl _)
  obtain ⟨v4, T4, X4, E4, g4⟩ := X2.callV hexec (Cdr.law l x cd z) hown (wks W (virtW "java/lang/String" 335 "java/lang/String" Cdr.yN Cdr.yN)) rfl (by decide) (wk W Cdr.tab) (W := 1) (Nat.le_of_ble_eq_true rfl) (Nat.le_of_ble_eq_true rfl) (Nat.le_refl _) (Nat.le_refl _) (hx2.1.fc X2.warmed.alike) hx2.1.is (g := (mkF m 6 #[.val (.ref x)] [.ref x, .int (Int32.ofNat V.slots.size)])) rfl (by rw [hml]; rfl) c3 (argsL := []) (rest := [.int (Int32.ofNat V.slots.size)]) rfl rfl (by show 2 * 0 + (1 + 0) ≤ _; decide) (hb hbytes d6) (⟨rfl, hx2.2.2.1, hx.2.2.2.2.1.cd, s1.there X2.warmed.alike hh2, hz⟩)
  obtain ⟨rfl, q4⟩ := E4
  have c5 : Steps p.tables e below (s₁.setTop (entryFrame m #[.ref x] 1)) (T4.setTop (mkF m 10 #[.val (.ref x)] [.int (Int32.ofNat V.slots.size >>> (cd &&& 31))])) := Steps.trans g4 (by
    refine ishr X4.here hexec rfl (hb hbytes d9) rfl ?_
    exact Steps.refl _)
  rw [hx.2.2.2.2.1.len v31] at c5
  exact ⟨T4, some (.int (Int32.ofNat n)), _, _, _, X4, rfl, rfl, rfl, (fun h => by cases h), ⟨rfl, q4.trans hh2⟩, fun fs hl => c5.trans (X4.ireturnOut hexec hret rfl (Or.inl rfl) (hb hbytes d10) hl)⟩
theorem pays {l : Launch} {R : Room} {p : Program} {e : Env} {below : List Frame} {s : State} {sargs : Array Value} {len W : Nat} (x t : Addr) (V : Cell) (cd : Int32) (n : Nat) (f : Nat → Int32) (z : Int32) (htab : tab.before sargs s = true) (hfr : 2 ≤ R.frames) (hlo : W + 25 ≤ R.locals) :
    Back l R p e below s sargs yN len W (fun A₁ a₁ => A₁.cells + 0 ≤ R.cells ∧ A₁.slots + 0 ≤ R.slots ∧ P x t V cd n f z a₁ A₁.U) (fun A₁ _ v₁ B₁ => E n v₁ A₁.U B₁.U ∧ B₁.locs = A₁.locs ++ [] ∧ B₁.cells = A₁.cells + 0 ∧ B₁.slots = A₁.slots + 0) :=
  (law l x t V cd n f z).pays htab hfr (by omega)
end Len
namespace IsL
def yN : MethodName := ⟨"java/lang/String", "isLatin1", "()Z"⟩
abbrev yB : ByteArray := jdk_42_method_154_code
theorem d0 : decode yB 0 = .ok (.getstatic 38, 3) := by decide +kernel
theorem d3 : decode yB 3 = .ok (.ifCond (.eq) 14, 3) := by decide +kernel
theorem d6 : decode yB 6 = .ok (.aload_n 0, 1) := by decide +kernel
theorem d7 : decode yB 7 = .ok (.getfield 15, 3) := by decide +kernel
theorem d10 : decode yB 10 = .ok (.ifCond (.ne) 7, 3) := by decide +kernel
theorem d13 : decode yB 13 = .ok (.iconst 1, 1) := by decide +kernel
theorem d14 : decode yB 14 = .ok (.goto 4, 3) := by decide +kernel
theorem d17 : decode yB 17 = .ok (.iconst 0, 1) := by decide +kernel
theorem d18 : decode yB 18 = .ok (.ireturn, 1) := by decide +kernel
def site : List Cond := [.fieldLink "java/lang/String" 38 "java/lang/String" "COMPACT_STRINGS" "Z", .fieldLink "java/lang/String" 15 "java/lang/String" "coder" "B"]
def tab : Cond := tabOf yN yB 1 (some .boolean) site
def P (x : Addr) (cd z : Int32) (args : Array Value) (s : State) : Prop := args = #[.ref x] ∧ Has x "java/lang/String" "coder" "B" (.int cd) s ∧ (cd = 0 ∨ cd = 1) ∧ StaticIs s "java/lang/String" "COMPACT_STRINGS" "Z" (.int z) ∧ ¬ z = 0
def E (cd : Int32) (r : Option Value) (s u : State) : Prop := XT.PureE (some (.int (1 - cd))) r s u
theorem law (l : Launch) (x : Addr) (cd z : Int32) : Law l yN 1 0 0 0 yB 1 (some .boolean) site (P x cd z) (E cd) [] 0 0 := by
  refine Law.of_walk (plainFor_of_name (by decide +kernel)) (by decide +kernel) (by decide +kernel) (by decide) (fun _ _ h => by rw [h.1]; rfl) (fun _ U U' hal hh h => ⟨h.1, h.2.1.mv hal hh, h.2.2.1, h.2.2.2.1.there hal hh, h.2.2.2.2⟩) (fun r U U' V V' h1 hal h2 h => XT.PureE.mv r U U' V V' h1 hal h2 h) ?_
  intro p e s m args below meth c s₁ X0 hexec hbytes hml hret hlk hnm hown hh0 W hP
  obtain ⟨rfl, hx, hc, s1, hz⟩ := hP
  have c1 : Steps p.tables e below (s₁.setTop (entryFrame m #[.ref x] 1)) (s₁.setTop (mkF m 0 #[.val (.ref x)] [])) := entry rfl
  obtain ⟨T2, X2, q2, st2⟩ := X0.sget hexec hown (wk W (.fieldLink "java/lang/String" 38 "java/lang/String" "COMPACT_STRINGS" "Z")) s1 (fun _ _ h => by rw [hh0]; exact h) (g := (mkF m 0 #[.val (.ref x)] [])) rfl (hb hbytes d0)
  have hh2 := q2.trans hh0
  have c3 : Steps p.tables e below (s₁.setTop (entryFrame m #[.ref x] 1)) (T2.setTop (mkF m 7 #[.val (.ref x)] [.ref x])) := (c1.trans (st2 _ (Steps.refl _))).trans (by
    refine XS.ifNo X2.here hexec rfl (hb hbytes d3) rfl (i0_eq_f hz) ?_
    refine XS.aloadN X2.here hexec rfl (hb hbytes d6) rfl rfl ?_
    exact Steps.refl _)
  obtain ⟨T4, X4, q4, st4⟩ := X2.hget hexec hown (wk W (.fieldLink "java/lang/String" 15 "java/lang/String" "coder" "B")) (hx.mv X2.warmed.alike hh2) (g := (mkF m 7 #[.val (.ref x)] [.ref x])) rfl (rest := []) rfl (hb hbytes d7)
  have c5 : Steps p.tables e below (s₁.setTop (entryFrame m #[.ref x] 1)) (T4.setTop (mkF m 10 #[.val (.ref x)] [.int cd])) := c3.trans (st4 _ (Steps.refl _))
  have c6 : Steps p.tables e below (s₁.setTop (entryFrame m #[.ref x] 1)) (T4.setTop (mkF m 18 #[.val (.ref x)] [.int (1 - cd)])) := by
    rcases hc with rfl | rfl
    · exact c5.trans (by
        refine XS.ifNo X4.here hexec rfl (hb hbytes d10) rfl (i0_ne_f rfl) ?_
        refine iconstV X4.here hexec rfl 1 (hb hbytes d13) (by decide) ?_
        refine XS.goto X4.here hexec rfl (pc0 := 14) rfl (hb hbytes d14) (by decide) rfl ?_
        exact Steps.refl _)
    · exact c5.trans (by
        refine XS.ifYes X4.here hexec rfl (pc0 := 10) rfl (hb hbytes d10) rfl (i0_ne_t (by decide)) (by decide) rfl ?_
        refine iconstV X4.here hexec rfl 0 (hb hbytes d17) (by decide) ?_
        exact Steps.refl _)
  exact ⟨T4, some (.int (1 - cd)), _, _, _, X4, rfl, rfl, rfl, (fun h => by cases h), ⟨rfl, q4.trans hh2⟩, fun fs hl => c6.trans (X4.ireturnOut hexec hret (by rcases hc with rfl | rfl <;> rfl) (Or.inr (Or.inl rfl)) (hb hbytes d18) hl)⟩
end IsL
namespace LChA
def yN : MethodName := ⟨"java/lang/StringLatin1", "charAt", "([BI)C"⟩
abbrev yB : ByteArray := jdk_43_method_2_code
theorem d0 : decode yB 0 = .ok (.iload_n 1, 1) := by decide +kernel
theorem d1 : decode yB 1 = .ok (.aload_n 0, 1) := by decide +kernel
theorem d2 : decode yB 2 = .ok (.arraylength, 1) := by decide +kernel
theorem d3 : decode yB 3 = .ok (.invokestatic 9, 3) := by decide +kernel
theorem d6 : decode yB 6 = .ok (.aload_n 0, 1) := by decide +kernel
theorem d7 : decode yB 7 = .ok (.iload_n 1, 1) := by decide +kernel
theorem d8 : decode yB 8 = .ok (.baload, 1) := by decide +kernel
theorem d9 : decode yB 9 = .ok (.sipush 255, 3) := by decide +kernel
theorem d12 : decode yB 12 = .ok (.iand, 1) := by decide +kernel
theorem d13 : decode yB 13 = .ok (.i2c, 1) := by decide +kernel
theorem d14 : decode yB 14 = .ok (.ireturn, 1) := by decide +kernel
def site : List Cond := [JO.Str_checkIndex.tab] ++ staticW "java/lang/StringLatin1" 9 JO.Str_checkIndex.yN
def tab : Cond := tabOf yN yB 2 (some .char) site
def P (t : Addr) (V : Cell) (i : Nat) (u : Int32) (fm : Value) (args : Array Value) (s : State) : Prop := args = #[.ref t, .int (Int32.ofNat i)] ∧ XT.Arr .byte t V s ∧ V.slots[i]? = some (.int u) ∧ (StaticIs s "jdk/internal/util/Preconditions" "SIOOBE_FORMATTER" "Ljava/util/function/BiFunction;" fm ∧ fm.isRef = true)
def E (u : Int32) (r : Option Value) (s w : State) : Prop := XT.PureE (some (.int (chr8 u))) r s w
theorem law (l : Launch) (t : Addr) (V : Cell) (i : Nat) (u : Int32) (fm : Value) : Law l yN 2 2 2 27 yB 2 (some .char) site (P t V i u fm) (E u) [] 0 0 := by
  refine Law.of_walk (plainFor_of_name (by decide +kernel)) (by decide +kernel) (by decide +kernel) (by decide) (fun _ _ h => by rw [h.1]; rfl) (fun _ U U' hal hh h => ⟨h.1, h.2.1.mv hal hh, h.2.2.1, h.2.2.2.1.there hal hh, h.2.2.2.2⟩) (fun r U U' V V' h1 hal h2 h => XT.PureE.mv r U U' V V' h1 hal h2 h) ?_
  intro p e s m args below meth c s₁ X0 hexec hbytes hml hret hlk hnm hown hh0 W hP
  obtain ⟨rfl, hV, hu, s1, rf⟩ := hP
  have v31 := hV.2.2.2
  have hi : i < V.slots.size := (Array.getElem?_eq_some_iff.mp hu).1
  have c1 : Steps p.tables e below (s₁.setTop (entryFrame m #[.ref t, .int (Int32.ofNat i)] 2)) (s₁.setTop (mkF m 0 #[.val (.ref t), .val (.int (Int32.ofNat i))] [])) := entry rfl
  have c2 : Steps p.tables e below (s₁.setTop (entryFrame m #[.ref t, .int (Int32.ofNat i)] 2)) (s₁.setTop (mkF m 3 #[.val (.ref t), .val (.int (Int32.ofNat i))] [.int (Int32.ofNat V.slots.size), .int (Int32.ofNat i)])) := c1.trans (by
    refine XS.iloadN X0.here hexec rfl (hb hbytes d0) rfl ?_
    refine XS.aloadN X0.here hexec rfl (hb hbytes d1) rfl rfl ?_
    refine X0.alen hexec (hV.mv X0.warmed.alike hh0) rfl rfl (hb hbytes d2) ?_
    exact Steps.refl _)
  obtain ⟨v3, T3, X3, E3, g3⟩ := X0.callS hexec (JO.Str_checkIndex.law l (Int32.ofNat i) (Int32.ofNat V.slots.size) fm) hown (wks W (staticW "java/lang/StringLatin1" 9 JO.Str_checkIndex.yN)) (wk W JO.Str_checkIndex.tab) (W := 0) (Nat.le_of_ble_eq_true rfl) (Nat.le_of_ble_eq_true rfl) (Nat.le_refl _) (Nat.le_refl _) (g := (mkF m 3 #[.val (.ref t), .val (.int (Int32.ofNat i))] [.int (Int32.ofNat V.slots.size), .int (Int32.ofNat i)])) rfl (by rw [hml]; rfl) c2 (argsL := [.int (Int32.ofNat i), .int (Int32.ofNat V.slots.size)]) (rest := []) rfl rfl (by show 2 * 0 + 0 ≤ _; decide) (hb hbytes d3) (⟨rfl, rf, s1.there X0.warmed.alike hh0, Int32.ofNat_not_neg (by omega), lt32 v31 hi⟩)
  obtain ⟨rfl, q3⟩ := E3
  have hh3 := q3.trans hh0
  have c4 : Steps p.tables e below (s₁.setTop (entryFrame m #[.ref t, .int (Int32.ofNat i)] 2)) (T3.setTop (mkF m 14 #[.val (.ref t), .val (.int (Int32.ofNat i))] [.int (chr8 u)])) := Steps.trans g3 (by
    refine XS.aloadN X3.here hexec rfl (hb hbytes d6) rfl rfl ?_
    refine XS.iloadN X3.here hexec rfl (hb hbytes d7) rfl ?_
    refine X3.aget hexec (hV.mv X3.warmed.alike hh3) rfl hu rfl rfl (hb hbytes d8) ?_
    refine sipushV X3.here hexec rfl 255 (hb hbytes d9) (by decide) ?_
    refine XS.iand X3.here hexec rfl (hb hbytes d12) rfl ?_
    refine i2c X3.here hexec rfl (hb hbytes d13) rfl ?_
    exact Steps.refl _)
  exact ⟨T3, some (.int (chr8 u)), _, _, _, X3, rfl, rfl, rfl, (fun h => by cases h), ⟨rfl, hh3⟩, fun fs hl => c4.trans (X3.ireturnOut hexec hret (narrow_c _) (Or.inr (Or.inr (Or.inr (Or.inl rfl)))) (hb hbytes d14) hl)⟩
end LChA
end StrChars
namespace StrChars.Road
open Jvm Sem ClassFile Op Lib Jvm.Stand Jvm.Free Jvm.Free.XT
open Jvm.Lib.Cold (StaticIs)
theorem consq {a : Array Value} {s : State} {c : Jvm.Cond} {L : List Jvm.Cond} (h0 : c.before a s = true) (h : ∀ w ∈ L, w.before a s = true) : ∀ w ∈ c :: L, w.before a s = true := fun w hw => (List.mem_cons.mp hw).elim (fun e => e ▸ h0) (h w)
/-- the words of String.length(), either coding -/
abbrev wordsLen : List Jvm.Cond := [.code Len.yN Len.yB 1 (some .int), .initialized ST, .fieldLink ST 9 ST "value" "[B", .fieldLink ST 38 ST "COMPACT_STRINGS" "Z", .fieldLink ST 15 ST "coder" "B", .code Cdr.yN Cdr.yB 1 (some .byte), .methodLink ST 335 Cdr.yN, .declares Cdr.yN, .selects ST Cdr.yN Cdr.yN, .instanceMethod Cdr.yN]
theorem tabLen_of {a : Array Value} {s : State} (h : ∀ w ∈ wordsLen, w.before a s = true) : Len.tab.before a s = true := by
  have hc : Cdr.tab.before a s = true := unparts (wk h (.code Cdr.yN Cdr.yB 1 (some .byte))) (wks h (.initialized Cdr.yN.cls :: Cdr.site))
  have q := consq hc h
  exact unparts (wk q (.code Len.yN Len.yB 1 (some .int))) (wks q (.initialized Len.yN.cls :: Len.site))
theorem movedLen {Z s : State} {a0 args : Array Value} (hZ : Z.Warmed39 s.vm) (hw : ∀ d ∈ wordsLen, d.before a0 Z = true) : ∀ d ∈ wordsLen, d.before args s = true := fun d hd => by
  have q := hw d hd
  have t : ∀ d ∈ wordsLen, d = .arrayClass .byte ∨ (d.onTables && d.keepsFace) = true := by decide +kernel
  rcases t d hd with rfl | t
  · exact RoadKit.mvA hZ q
  · exact RoadKit.mv hZ q t
/-- the bytes of the chars cs, low before high -/
def wideBytes : List Int32 → List Value
  | [] => []
  | c :: cs => .int (lo8 c) :: .int (hi8 c) :: wideBytes cs
theorem wide_lo (d : Value) : ∀ (cs : List Int32) (j : Nat), j < cs.length → (wideBytes cs).getD (2 * j) d = .int (lo8 (cs.getD j 0))
  | [], j, h => absurd h (Nat.not_lt_zero j)
  | c :: cs, 0, _ => rfl
  | c :: cs, j + 1, h => by
    have q := wide_lo d cs j (by simpa using h)
    rw [show 2 * (j + 1) = 2 * j + 1 + 1 from by omega]
    simpa [wideBytes] using q
theorem wide_hi (d : Value) : ∀ (cs : List Int32) (j : Nat), j < cs.length → (wideBytes cs).getD (2 * j + 1) d = .int (hi8 (cs.getD j 0))
  | [], j, h => absurd h (Nat.not_lt_zero j)
  | c :: cs, 0, _ => rfl
  | c :: cs, j + 1, h => by
    have q := wide_hi d cs j (by simpa using h)
    rw [show 2 * (j + 1) + 1 = 2 * j + 1 + 1 + 1 from by omega]
    simpa [wideBytes] using q
theorem low_at (d : Value) (cs : List Int32) (j : Nat) (h : j < cs.length) : (cs.map fun c => Value.int (lo8 c)).getD j d = .int (lo8 (cs.getD j 0)) := by
  simp [List.getD_eq_getElem?_getD, h]
/-- an array of N2 bytes vs codes the chars cs by the coder cd -/
def CodA (cs : List Int32) (cd N2 : Int32) (vs : List Value) : Prop := (cd = 0 ∧ N2 = Int32.ofNat cs.length ∧ vs = (cs.map fun c => Value.int (lo8 c)) ∧ ∀ c ∈ cs, ¬ 255 < c) ∨ (cd = 1 ∧ N2 = Int32.ofNat (2 * cs.length) ∧ vs = wideBytes cs ∧ ∃ c ∈ cs, 255 < c)
theorem CodA.cod {cs : List Int32} {cd N2 : Int32} {vs : List Value} {V : Cell} (h : CodA cs cd N2 vs) (hn : 2 * cs.length < 2 ^ 31) (hs : V.slots.size = N2.toNatClampNeg) (hv : RoadKit.Has V vs (.int 0)) : Cod cd cs.length (fun j => cs.getD j 0) V := by
  rcases h with ⟨rfl, rfl, rfl, h⟩ | ⟨rfl, rfl, rfl, c, hc, hw⟩
  · rw [n32 (by omega)] at hs
    exact Or.inl ⟨rfl, hs, fun j hj => ⟨by rw [hv j (by omega), low_at _ _ _ hj], by
      have e : cs.getD j 0 = cs[j] := by simp [List.getD_eq_getElem?_getD, hj]
      show ¬ 255 < cs.getD j 0
      rw [e]; exact h _ (List.getElem_mem _)⟩⟩
  · rw [n32 (by omega)] at hs
    obtain ⟨j, hj, rfl⟩ := List.getElem_of_mem hc
    exact Or.inr ⟨rfl, hs, fun j hj => ⟨by rw [hv _ (by omega), wide_lo _ _ _ hj], by rw [hv _ (by omega), wide_hi _ _ _ hj]⟩, j, hj, by
      have e : cs.getD j 0 = cs[j] := by simp [List.getD_eq_getElem?_getD, hj]
      show 255 < cs.getD j 0
      rw [e]; exact hw⟩
/-- an object of exactly java/lang/String, its two fields found: as the laws ask it -/
theorem strObj {Z U : State} {a0 : Array Value} {kI : Nat} (wi : (Jvm.Cond.instantiable ST kI).before a0 Z = true) (al : Z.vm.Alike U.vm) {x : Addr} {v0 c0 : Value} (E : RoadKit.Exa Z U.heap x ST) (V : RoadKit.Fld Z U.heap x ST "value" "[B" v0) (C : RoadKit.Fld Z U.heap x ST "coder" "B" c0) :
    ∃ (D : Cell) (fV fC : Field), Blank ST x D U ∧ Found ST "value" "[B" fV U ∧ Found ST "coder" "B" fC U ∧ D.slots[fV.slot]? = some v0 ∧ D.slots[fC.slot]? = some c0 ∧ RoadKit.slotOf Z ST "value" "[B" = fV.slot ∧ RoadKit.slotOf Z ST "coder" "B" = fC.slot := by
  obtain ⟨D, cfV, kV, iV, fV, hD, gV, stV, knV, obV, asV, slV⟩ := V
  obtain ⟨D', cfC, kC, iC, fC, hD', gC, stC, -, -, asC, slC⟩ := C
  cases hD.symm.trans hD'
  obtain ⟨D2, kD, e1, e2, e3, e4, e5⟩ := E
  cases hD.symm.trans e1
  obtain ⟨c2, k2, i1, i2, i3, -⟩ := Cond.instantiable_spec wi
  cases e2.symm.trans i1
  cases e3.symm.trans i2
  obtain ⟨kU, u1, u2⟩ := al.2.2 _ _ e3
  exact ⟨D, fV, fC, ⟨hD, ⟨knV, fun q hq => by rw [hq] at obV; cases obV⟩, by rw [al.findClass]; exact e2, kU, u1, by rw [u2]; exact i3, by rw [u2]; exact e5 i3⟩, ⟨SBG.found_only al ⟨cfV, kV, iV, gV⟩, stV⟩, ⟨SBG.found_only al ⟨cfC, kC, iC, gC⟩, stC⟩, slV, slC, by simp [RoadKit.slotOf, gV], by simp [RoadKit.slotOf, gC]⟩
theorem sta_is {Z U : State} (al : Z.vm.Alike U.vm) {C n d : String} {v : Value} (S : RoadKit.Sta Z U.heap C n d v) : StaticIs U C n d v := by
  obtain ⟨cfS, iS, kS, fS, st, cS, t1, t2, t3, t4, t5, t6, t7⟩ := S
  exact StaticIs.there (s := { Z with heap := U.heap }) ⟨cfS, iS, kS, fS, st, cS, t1, t2, t3, t4, t5, (fun q => by rw [q] at t6; cases t6), t7⟩ al rfl
/-- **length() OF SUCH A STRING** -/
theorem lenW {p : Program} {l : Launch} {e : Env} {R : Room} {s : State} {args : Array Value} {below : List Frame} {len W : Nat} {Z : State} {a0 : Array Value} {h : Heap} (hZ : Z.Warmed39 s.vm) (hw : ∀ d ∈ wordsLen, d.before a0 Z = true) {kI : Nat} (wi : (Jvm.Cond.instantiable ST kI).before a0 Z = true)
    {x t : Addr} {kb : ClassId} {cs : List Int32} {cd N2 z : Int32} {vs : List Value} (E : RoadKit.Exa Z h x ST) (V : RoadKit.Fld Z h x ST "value" "[B" (.ref t)) (C : RoadKit.Fld Z h x ST "coder" "B" (.int cd)) (K : RoadKit.Arv Z h t kb .byte N2 vs (.int 0)) (hc : CodA cs cd N2 vs) (hb : ∀ c ∈ cs, ¬ c < 0 ∧ ¬ (65535 : Int32) < c)
    (S : RoadKit.Sta Z h ST "COMPACT_STRINGS" "Z" (.int z)) (hz : ¬ z = 0) (l2 : cs.length ≤ 4000) (hfr : 2 ≤ R.frames) (hlo : W + 25 ≤ R.locals) :
    Back l R p e below s args (⟨"java/lang/String", "length", "()I"⟩ : MethodName) len W (fun P a => a = #[.ref x] ∧ P.U.heap = h ∧ P.cells + 0 ≤ R.cells ∧ P.slots + 0 ≤ R.slots)
      (fun P _ v B => ∃ L, (v = some (.int (Int32.ofNat cs.length)) ∧ L = [] ∧ B.U.heap = h) ∧ B.locs = P.locs ++ L ∧ B.cells = P.cells + 0 ∧ B.slots = P.slots + 0) := by
  obtain ⟨A, K1, K2, K3, K4, K5, K6⟩ := K
  have hcod := hc.cod (by omega) K3 K5
  intro m meth c P g ig mk a X hg hsize hdg hW hn hp'
  obtain ⟨rfl, rfl, r1, r2⟩ := hp'
  have al : Z.vm.Alike P.U.vm := hZ.alike.trans X.warmed.alike
  obtain ⟨D, fV, fC, hB, F1, F2, g1, g2, -, -⟩ := strObj wi al E V C
  have hx : Txt x t A cd cs.length (fun j => cs.getD j 0) P.U := ⟨⟨_, hB.2.2.1, D, hB.1, rfl, by cases q : D.vm <;> first | rfl | exact absurd q (hB.2.1.2 _)⟩, Has.of hB F1 g1, Has.of hB F2 g2, ⟨K1.1, State.isArrayOf_alike al K1.2.1, K1.2.2, by rcases hcod with ⟨-, q, -⟩ | ⟨-, q, -⟩ <;> omega⟩, hcod, fun j hj => by
    have e : cs.getD j 0 = cs[j] := by simp [List.getD_eq_getElem?_getD, hj]
    show ¬ cs.getD j 0 < 0 ∧ ¬ 65535 < cs.getD j 0
    rw [e]; exact hb _ (List.getElem_mem _)⟩
  obtain ⟨v, B, X', ⟨⟨hv, hh⟩, hl, hk, hs⟩, st⟩ := Len.pays x t A cd cs.length (fun j => cs.getD j 0) z (tabLen_of (movedLen hZ hw)) hfr hlo m meth c P g ig mk _ X hg hsize hdg hW hn ⟨r1, r2, rfl, hx, sta_is al S, hz⟩
  exact ⟨v, B, X', ⟨[], ⟨hv, rfl, hh⟩, hl, hk, hs⟩, st⟩
end StrChars.Road
namespace StrChars
open Jvm Sem ClassFile Op Lib Jvm.Stand Jvm.Free.XT Jvm.Free.ALB Jvm.Free.JM Jvm.Free
open Jvm.Lib.Cold (StaticIs)
namespace Emp
def yN : MethodName := ⟨"java/lang/String", "isEmpty", "()Z"⟩
abbrev yB : ByteArray := jdk_42_method_55_code
theorem d0 : decode yB 0 = .ok (.aload_n 0, 1) := by decide +kernel
theorem d1 : decode yB 1 = .ok (.getfield 9, 3) := by decide +kernel
theorem d4 : decode yB 4 = .ok (.arraylength, 1) := by decide +kernel
theorem d5 : decode yB 5 = .ok (.ifCond (.ne) 7, 3) := by decide +kernel
theorem d8 : decode yB 8 = .ok (.iconst 1, 1) := by decide +kernel
theorem d9 : decode yB 9 = .ok (.goto 4, 3) := by decide +kernel
theorem d12 : decode yB 12 = .ok (.iconst 0, 1) := by decide +kernel
theorem d13 : decode yB 13 = .ok (.ireturn, 1) := by decide +kernel
def site : List Cond := [.fieldLink "java/lang/String" 9 "java/lang/String" "value" "[B"]
def tab : Cond := tabOf yN yB 1 (some .boolean) site
def P (x t : Addr) (V : Cell) (cd : Int32) (n : Nat) (f : Nat → Int32) (args : Array Value) (s : State) : Prop := args = #[.ref x] ∧ Txt x t V cd n f s
def E (n : Nat) (r : Option Value) (s u : State) : Prop := XT.PureE (some (.int (if n = 0 then 1 else 0))) r s u
/-- isEmpty() of a String of n chars -/
theorem law (l : Launch) (x t : Addr) (V : Cell) (cd : Int32) (n : Nat) (f : Nat → Int32) : Law l yN 1 0 0 0 yB 1 (some .boolean) site (P x t V cd n f) (E n) [] 0 0 := by
  refine Law.of_walk (plainFor_of_name (by decide +kernel)) (by decide +kernel) (by decide +kernel) (by decide) (fun _ _ h => by rw [h.1]; rfl) (fun _ U U' hal hh h => ⟨h.1, h.2.mv hal hh⟩) (fun r U U' V V' h1 hal h2 h => XT.PureE.mv r U U' V V' h1 hal h2 h) ?_
  intro p e s m args below meth c s₁ X0 hexec hbytes hml hret hlk hnm hown hh0 W hP
  obtain ⟨rfl, hx⟩ := hP
  have v31 := hx.2.2.2.1.2.2.2
  have c1 : Steps p.tables e below (s₁.setTop (entryFrame m #[.ref x] 1)) (s₁.setTop (mkF m 1 #[.val (.ref x)] [.ref x])) := Steps.trans (entry rfl) (by
    show Steps p.tables e below (s₁.setTop (mkF m 0 #[.val (.ref x)] [])) _
    refine XS.aloadN X0.here hexec rfl (hb hbytes d0) rfl rfl ?_
    exact Steps.refl _)
  obtain ⟨T2, X2, q2, st2⟩ := X0.hget hexec hown (wk W (.fieldLink "java/lang/String" 9 "java/lang/String" "value" "[B")) (hx.mv X0.warmed.alike hh0).2.1 (g := (mkF m 1 #[.val (.ref x)] [.ref x])) rfl (rest := []) rfl (hb hbytes d1)
  have hh2 := q2.trans hh0
  have hx2 := hx.mv X2.warmed.alike hh2
  have c3 : Steps p.tables e below (s₁.setTop (entryFrame m #[.ref x] 1)) (T2.setTop (mkF m 5 #[.val (.ref x)] [.int (Int32.ofNat V.slots.size)])) := (c1.trans (st2 _ (Steps.refl _))).trans (by
    refine X2.alen hexec hx2.2.2.2.1 rfl rfl (hb hbytes d4) ?_
    exact Steps.refl _)
  have hz : V.slots.size = 0 ↔ n = 0 := by
    rcases hx.2.2.2.2.1 with ⟨-, q, -⟩ | ⟨-, q, -⟩ <;> omega
  by_cases h0 : n = 0
  · have c4 : Steps p.tables e below (s₁.setTop (entryFrame m #[.ref x] 1)) (T2.setTop (mkF m 13 #[.val (.ref x)] [.int 1])) := c3.trans (by
      refine XS.ifNo X2.here hexec rfl (hb hbytes d5) rfl (i0_ne_f (by rw [hz.mpr h0]; rfl)) ?_
      refine iconstV X2.here hexec rfl 1 (hb hbytes d8) (by decide) ?_
      refine XS.goto X2.here hexec rfl (pc0 := 9) rfl (hb hbytes d9) (by decide) rfl ?_
      exact Steps.refl _)
    exact ⟨T2, some (.int 1), _, _, _, X2, rfl, rfl, rfl, (fun h => by cases h), ⟨by rw [if_pos h0], hh2⟩, fun fs hl => c4.trans (X2.ireturnOut hexec hret rfl (Or.inr (Or.inl rfl)) (hb hbytes d13) hl)⟩
  · have c4 : Steps p.tables e below (s₁.setTop (entryFrame m #[.ref x] 1)) (T2.setTop (mkF m 13 #[.val (.ref x)] [.int 0])) := c3.trans (by
      refine XS.ifYes X2.here hexec rfl (pc0 := 5) rfl (hb hbytes d5) rfl (i0_ne_t (nz32 v31 (by omega))) (by decide) rfl ?_
      refine iconstV X2.here hexec rfl 0 (hb hbytes d12) (by decide) ?_
      exact Steps.refl _)
    exact ⟨T2, some (.int 0), _, _, _, X2, rfl, rfl, rfl, (fun h => by cases h), ⟨by rw [if_neg h0], hh2⟩, fun fs hl => c4.trans (X2.ireturnOut hexec hret rfl (Or.inr (Or.inl rfl)) (hb hbytes d13) hl)⟩
theorem pays {l : Launch} {R : Room} {p : Program} {e : Env} {below : List Frame} {s : State} {sargs : Array Value} {len W : Nat} (x t : Addr) (V : Cell) (cd : Int32) (n : Nat) (f : Nat → Int32) (htab : tab.before sargs s = true) (hfr : 1 ≤ R.frames) (hlo : W + 12 ≤ R.locals) :
    Back l R p e below s sargs yN len W (fun A₁ a₁ => A₁.cells + 0 ≤ R.cells ∧ A₁.slots + 0 ≤ R.slots ∧ P x t V cd n f a₁ A₁.U) (fun A₁ _ v₁ B₁ => E n v₁ A₁.U B₁.U ∧ B₁.locs = A₁.locs ++ [] ∧ B₁.cells = A₁.cells + 0 ∧ B₁.slots = A₁.slots + 0) :=
  (law l x t V cd n f).pays htab hfr (by omega)
end Emp
end StrChars
namespace StrChars.Road
open Jvm Sem ClassFile Op Lib Jvm.Stand Jvm.Free Jvm.Free.XT
open Jvm.Lib.Cold (StaticIs)
/-- the words of String.isEmpty() -/
abbrev wordsEmp : List Jvm.Cond := [.code Emp.yN Emp.yB 1 (some .boolean), .initialized ST, .fieldLink ST 9 ST "value" "[B"]
theorem tabEmp_of {a : Array Value} {s : State} (h : ∀ w ∈ wordsEmp, w.before a s = true) : Emp.tab.before a s = true := unparts (wk h (.code Emp.yN Emp.yB 1 (some .boolean))) (wks h (.initialized Emp.yN.cls :: Emp.site))
theorem movedEmp {Z s : State} {a0 args : Array Value} (hZ : Z.Warmed39 s.vm) (hw : ∀ d ∈ wordsEmp, d.before a0 Z = true) : ∀ d ∈ wordsEmp, d.before args s = true := fun d hd => by
  have t : ∀ d ∈ wordsEmp, (d.onTables && d.keepsFace) = true := by decide +kernel
  exact RoadKit.mv hZ (hw d hd) (t d hd)
/-- the road's facts of a String, as the laws ask it -/
theorem txt_of {Z U : State} {a0 : Array Value} {kI : Nat} (wi : (Jvm.Cond.instantiable ST kI).before a0 Z = true) (al : Z.vm.Alike U.vm) {x t : Addr} {kb : ClassId} {cs : List Int32} {cd N2 : Int32} {vs : List Value} (E : RoadKit.Exa Z U.heap x ST) (V : RoadKit.Fld Z U.heap x ST "value" "[B" (.ref t)) (C : RoadKit.Fld Z U.heap x ST "coder" "B" (.int cd)) (K : RoadKit.Arv Z U.heap t kb .byte N2 vs (.int 0)) (hc : CodA cs cd N2 vs) (hb : ∀ c ∈ cs, ¬ c < 0 ∧ ¬ (65535 : Int32) < c) (l2 : cs.length ≤ 4000) :
    ∃ A, Txt x t A cd cs.length (fun j => cs.getD j 0) U := by
  obtain ⟨A, K1, K2, K3, K4, K5, K6⟩ := K
  have hcod := hc.cod (by omega) K3 K5
  obtain ⟨D, fV, fC, hB, F1, F2, g1, g2, -, -⟩ := strObj wi al E V C
  exact ⟨A, ⟨_, hB.2.2.1, D, hB.1, rfl, by cases q : D.vm <;> first | rfl | exact absurd q (hB.2.1.2 _)⟩, Has.of hB F1 g1, Has.of hB F2 g2, ⟨K1.1, State.isArrayOf_alike al K1.2.1, K1.2.2, by rcases hcod with ⟨-, q, -⟩ | ⟨-, q, -⟩ <;> omega⟩, hcod, fun j hj => by
    have e : cs.getD j 0 = cs[j] := by simp [List.getD_eq_getElem?_getD, hj]
    show ¬ cs.getD j 0 < 0 ∧ ¬ 65535 < cs.getD j 0
    rw [e]; exact hb _ (List.getElem_mem _)⟩
/-- **isEmpty() OF SUCH A STRING** -/
theorem empW {p : Program} {l : Launch} {e : Env} {R : Room} {s : State} {args : Array Value} {below : List Frame} {len W : Nat} {Z : State} {a0 : Array Value} {h : Heap} (hZ : Z.Warmed39 s.vm) (hw : ∀ d ∈ wordsEmp, d.before a0 Z = true) {kI : Nat} (wi : (Jvm.Cond.instantiable ST kI).before a0 Z = true)
    {x t : Addr} {kb : ClassId} {cs : List Int32} {cd N2 : Int32} {vs : List Value} (E : RoadKit.Exa Z h x ST) (V : RoadKit.Fld Z h x ST "value" "[B" (.ref t)) (C : RoadKit.Fld Z h x ST "coder" "B" (.int cd)) (K : RoadKit.Arv Z h t kb .byte N2 vs (.int 0)) (hc : CodA cs cd N2 vs) (hb : ∀ c ∈ cs, ¬ c < 0 ∧ ¬ (65535 : Int32) < c) (l2 : cs.length ≤ 4000) (hfr : 1 ≤ R.frames) (hlo : W + 12 ≤ R.locals) :
    Back l R p e below s args (⟨"java/lang/String", "isEmpty", "()Z"⟩ : MethodName) len W (fun P a => a = #[.ref x] ∧ P.U.heap = h ∧ P.cells + 0 ≤ R.cells ∧ P.slots + 0 ≤ R.slots)
      (fun P _ v B => ∃ L, (v = some (.int (if cs.length = 0 then 1 else 0)) ∧ L = [] ∧ B.U.heap = h) ∧ B.locs = P.locs ++ L ∧ B.cells = P.cells + 0 ∧ B.slots = P.slots + 0) := by
  intro m meth c P g ig mk a X hg hsize hdg hW hn hp'
  obtain ⟨rfl, rfl, r1, r2⟩ := hp'
  have al : Z.vm.Alike P.U.vm := hZ.alike.trans X.warmed.alike
  obtain ⟨A, hx⟩ := txt_of wi al E V C K hc hb l2
  obtain ⟨v, B, X', ⟨⟨hv, hh⟩, hl, hk, hs⟩, st⟩ := Emp.pays x t A cd cs.length (fun j => cs.getD j 0) (tabEmp_of (movedEmp hZ hw)) hfr hlo m meth c P g ig mk _ X hg hsize hdg hW hn ⟨r1, r2, rfl, hx⟩
  exact ⟨v, B, X', ⟨[], ⟨hv, rfl, hh⟩, hl, hk, hs⟩, st⟩
end StrChars.Road
namespace StrChars
open Jvm Sem ClassFile Op Lib Jvm.Stand Jvm.Free.XT Jvm.Free.ALB Jvm.Free.JM Jvm.Free
open Jvm.Lib.Cold (StaticIs)
namespace ChN
def yN : MethodName := ⟨"java/lang/String", "charAt", "(I)C"⟩
abbrev yB : ByteArray := jdk_42_method_56_code
theorem d0 : decode yB 0 = .ok (.aload_n 0, 1) := by decide +kernel
theorem d1 : decode yB 1 = .ok (.invokevirtual 492, 3) := by decide +kernel
theorem d4 : decode yB 4 = .ok (.ifCond (.eq) 12, 3) := by decide +kernel
theorem d7 : decode yB 7 = .ok (.aload_n 0, 1) := by decide +kernel
theorem d8 : decode yB 8 = .ok (.getfield 9, 3) := by decide +kernel
theorem d11 : decode yB 11 = .ok (.iload_n 1, 1) := by decide +kernel
theorem d12 : decode yB 12 = .ok (.invokestatic 495, 3) := by decide +kernel
theorem d15 : decode yB 15 = .ok (.ireturn, 1) := by decide +kernel
def site : List Cond := [.fieldLink "java/lang/String" 9 "java/lang/String" "value" "[B", IsL.tab, LChA.tab] ++ virtW "java/lang/String" 492 "java/lang/String" IsL.yN IsL.yN ++ staticW "java/lang/String" 495 LChA.yN
def tab : Cond := tabOf yN yB 2 (some .char) site
def P (x t : Addr) (V : Cell) (n : Nat) (f : Nat → Int32) (z : Int32) (fm : Value) (i : Nat) (args : Array Value) (s : State) : Prop := args = #[.ref x, .int (Int32.ofNat i)] ∧ Txt x t V 0 n f s ∧ i < n ∧ StaticIs s "java/lang/String" "COMPACT_STRINGS" "Z" (.int z) ∧ ¬ z = 0 ∧ StaticIs s "jdk/internal/util/Preconditions" "SIOOBE_FORMATTER" "Ljava/util/function/BiFunction;" fm ∧ fm.isRef = true
def E (f : Nat → Int32) (i : Nat) (r : Option Value) (s u : State) : Prop := XT.PureE (some (.int (f i))) r s u
/-- charAt(i) of a Latin-1 String of n chars, i < n: f i -/
theorem law (l : Launch) (x t : Addr) (V : Cell) (n : Nat) (f : Nat → Int32) (z : Int32) (fm : Value) (i : Nat) : Law l yN 2 1 3 40 yB 2 (some .char) site (P x t V n f z fm i) (E f i) [] 0 0 := by
  refine Law.of_walk (plainFor_of_name (by decide +kernel)) (by decide +kernel) (by decide +kernel) (by decide) (fun _ _ h => by rw [h.1]; rfl) (fun _ U U' hal hh h => ⟨h.1, h.2.1.mv hal hh, h.2.2.1, h.2.2.2.1.there hal hh, h.2.2.2.2.1, h.2.2.2.2.2.1.there hal hh, h.2.2.2.2.2.2⟩) (fun r U U' V V' h1 hal h2 h => XT.PureE.mv r U U' V V' h1 hal h2 h) ?_
  intro p e s m args below meth c s₁ X0 hexec hbytes hml hret hlk hnm hown hh0 W hP
  obtain ⟨rfl, hx, hi, s1, hz, s3, rf⟩ := hP
  have v31 := hx.2.2.2.1.2.2.2
  have hr := hx.2.2.2.2.2 i hi
  have hx0 := hx.mv X0.warmed.alike hh0
  have c1 : Steps p.tables e below (s₁.setTop (entryFrame m #[.ref x, .int (Int32.ofNat i)] 2)) (s₁.setTop (mkF m 1 #[.val (.ref x), .val (.int (Int32.ofNat i))] [.ref x])) := Steps.trans (entry rfl) (by
    show Steps p.tables e below (s₁.setTop (mkF m 0 #[.val (.ref x), .val (.int (Int32.ofNat i))] [])) _
    refine XS.aloadN X0.here hexec rfl (hb hbytes d0) rfl rfl ?_
    exact Steps.refl _)
  obtain ⟨v2, T2, X2, E2, g2⟩ := X0.callV hexec (IsL.law l x 0 z) hown (wks W (virtW "java/lang/String" 492 "java/lang/String" IsL.yN IsL.yN)) rfl (by decide) (wk W IsL.tab) (W := 0) (Nat.le_of_ble_eq_true rfl) (Nat.le_of_ble_eq_true rfl) (Nat.le_refl _) (Nat.le_refl _) (hx0.1.fc X0.warmed.alike) hx0.1.is (g := (mkF m 1 #[.val (.ref x), .val (.int (Int32.ofNat i))] [.ref x])) rfl (by rw [hml]; rfl) c1 (argsL := []) (rest := []) rfl rfl (by show 2 * 0 + 0 ≤ _; decide) (hb hbytes d1) (⟨rfl, hx0.2.2.1, hx.2.2.2.2.1.cd, s1.there X0.warmed.alike hh0, hz⟩)
  obtain ⟨rfl, q2⟩ := E2
  have hh2 := q2.trans hh0
  have hx2 := hx.mv X2.warmed.alike hh2
  obtain ⟨-, k1, k2⟩ | ⟨k0, -⟩ := hx.2.2.2.2.1
  · have c3 : Steps p.tables e below (s₁.setTop (entryFrame m #[.ref x, .int (Int32.ofNat i)] 2)) (T2.setTop (mkF m 8 #[.val (.ref x), .val (.int (Int32.ofNat i))] [.ref x])) := Steps.trans g2 (by
      refine XS.ifNo X2.here hexec rfl (hb hbytes d4) rfl (i0_eq_f (by decide)) ?_
      refine XS.aloadN X2.here hexec rfl (hb hbytes d7) rfl rfl ?_
      exact Steps.refl _)
    obtain ⟨T4, X4, q4, st4⟩ := X2.hget hexec hown (wk W (.fieldLink "java/lang/String" 9 "java/lang/String" "value" "[B")) hx2.2.1 (g := (mkF m 8 #[.val (.ref x), .val (.int (Int32.ofNat i))] [.ref x])) rfl (rest := []) rfl (hb hbytes d8)
    have hh4 := q4.trans hh2
    have c5 : Steps p.tables e below (s₁.setTop (entryFrame m #[.ref x, .int (Int32.ofNat i)] 2)) (T4.setTop (mkF m 12 #[.val (.ref x), .val (.int (Int32.ofNat i))] [.int (Int32.ofNat i), .ref t])) := (c3.trans (st4 _ (Steps.refl _))).trans (by
      refine XS.iloadN X4.here hexec rfl (hb hbytes d11) rfl ?_
      exact Steps.refl _)
    obtain ⟨v6, T6, X6, E6, g6⟩ := X4.callS hexec (LChA.law l t V i (lo8 (f i)) fm) hown (wks W (staticW "java/lang/String" 495 LChA.yN)) (wk W LChA.tab) (W := 0) (Nat.le_of_ble_eq_true rfl) (Nat.le_of_ble_eq_true rfl) (Nat.le_refl _) (Nat.le_refl _) (g := (mkF m 12 #[.val (.ref x), .val (.int (Int32.ofNat i))] [.int (Int32.ofNat i), .ref t])) rfl (by rw [hml]; rfl) c5 (argsL := [.ref t, .int (Int32.ofNat i)]) (rest := []) rfl rfl (by show 2 * 0 + 0 ≤ _; decide) (hb hbytes d12) (⟨rfl, hx.2.2.2.1.mv X4.warmed.alike hh4, (k2 i hi).1, s3.there X4.warmed.alike hh4, rf⟩)
    obtain ⟨rfl, q6⟩ := E6
    rw [chr8_lo8 hr.1 (k2 i hi).2] at g6
    exact ⟨T6, some (.int (f i)), _, _, _, X6, rfl, rfl, rfl, (fun h => by cases h), ⟨rfl, q6.trans hh4⟩, fun fs hl => Steps.trans g6 (X6.ireturnOut hexec hret (narrow_ch hr.1 hr.2) (Or.inr (Or.inr (Or.inr (Or.inl rfl)))) (hb hbytes d15) hl)⟩
  · exact absurd k0 (by decide)
theorem pays {l : Launch} {R : Room} {p : Program} {e : Env} {below : List Frame} {s : State} {sargs : Array Value} {len W : Nat} (x t : Addr) (V : Cell) (n : Nat) (f : Nat → Int32) (z : Int32) (fm : Value) (i : Nat) (htab : tab.before sargs s = true) (hfr : 4 ≤ R.frames) (hlo : W + 53 ≤ R.locals) :
    Back l R p e below s sargs yN len W (fun A₁ a₁ => A₁.cells + 0 ≤ R.cells ∧ A₁.slots + 0 ≤ R.slots ∧ P x t V n f z fm i a₁ A₁.U) (fun A₁ _ v₁ B₁ => E f i v₁ A₁.U B₁.U ∧ B₁.locs = A₁.locs ++ [] ∧ B₁.cells = A₁.cells + 0 ∧ B₁.slots = A₁.slots + 0) :=
  (law l x t V n f z fm i).pays htab hfr (by omega)
end ChN
end StrChars
namespace StrChars.Road
open Jvm Sem ClassFile Op Lib Jvm.Stand Jvm.Free Jvm.Free.XT
open Jvm.Lib.Cold (StaticIs)
/-- the words of String.charAt(int), the Latin-1 road alone -/
abbrev wordsChN : List Jvm.Cond := [.code ChN.yN ChN.yB 2 (some .char), .initialized ST, .fieldLink ST 9 ST "value" "[B", .fieldLink ST 38 ST "COMPACT_STRINGS" "Z", .fieldLink ST 15 ST "coder" "B", .code IsL.yN IsL.yB 1 (some .boolean), .methodLink ST 492 IsL.yN, .declares IsL.yN, .selects ST IsL.yN IsL.yN, .instanceMethod IsL.yN,
  .methodLink ST 495 LChA.yN, .static LChA.yN, .code LChA.yN LChA.yB 2 (some .char), .initialized "java/lang/StringLatin1", .methodLink "java/lang/StringLatin1" 9 JO.Str_checkIndex.yN, .static JO.Str_checkIndex.yN, .code JO.Str_checkIndex.yN JO.Str_checkIndex.yB 2 none,
  .fieldLink ST 1053 "jdk/internal/util/Preconditions" "SIOOBE_FORMATTER" "Ljava/util/function/BiFunction;", .methodLink ST 1059 JC.PreCheck.yN, .static JC.PreCheck.yN, .code JC.PreCheck.yN JC.PreCheck.yB 3 (some .int), .initialized "jdk/internal/util/Preconditions"]
theorem tabChN_of {a : Array Value} {s : State} (h : ∀ w ∈ wordsChN, w.before a s = true) : ChN.tab.before a s = true := by
  have hp : JC.PreCheck.tab.before a s = true := unparts (wk h (.code JC.PreCheck.yN JC.PreCheck.yB 3 (some .int))) (wks h (.initialized JC.PreCheck.yN.cls :: JC.PreCheck.site))
  have qk := consq hp h
  have hk : JO.Str_checkIndex.tab.before a s = true := unparts (wk qk (.code JO.Str_checkIndex.yN JO.Str_checkIndex.yB 2 none)) (wks qk (.initialized JO.Str_checkIndex.yN.cls :: JO.Str_checkIndex.site))
  have ql := consq hk h
  have hl : LChA.tab.before a s = true := unparts (wk ql (.code LChA.yN LChA.yB 2 (some .char))) (wks ql (.initialized LChA.yN.cls :: LChA.site))
  have hi : IsL.tab.before a s = true := unparts (wk h (.code IsL.yN IsL.yB 1 (some .boolean))) (wks h (.initialized IsL.yN.cls :: IsL.site))
  have q := consq hi (consq hl h)
  exact unparts (wk q (.code ChN.yN ChN.yB 2 (some .char))) (wks q (.initialized ChN.yN.cls :: ChN.site))
theorem movedChN {Z s : State} {a0 args : Array Value} (hZ : Z.Warmed39 s.vm) (hw : ∀ d ∈ wordsChN, d.before a0 Z = true) : ∀ d ∈ wordsChN, d.before args s = true := fun d hd => by
  have t : ∀ d ∈ wordsChN, (d.onTables && d.keepsFace) = true := by decide +kernel
  exact RoadKit.mv hZ (hw d hd) (t d hd)
/-- **charAt(i) OF A LATIN-1 STRING**, i < n: the char -/
theorem chN {p : Program} {l : Launch} {e : Env} {R : Room} {s : State} {args : Array Value} {below : List Frame} {len W : Nat} {Z : State} {a0 : Array Value} {h : Heap} (hZ : Z.Warmed39 s.vm) (hw : ∀ d ∈ wordsChN, d.before a0 Z = true) {kI : Nat} (wi : (Jvm.Cond.instantiable ST kI).before a0 Z = true)
    {x t : Addr} {kb : ClassId} {cs : List Int32} {N2 z : Int32} {vs : List Value} {fm : Value} {i : Nat} {j : Int32} (E : RoadKit.Exa Z h x ST) (V : RoadKit.Fld Z h x ST "value" "[B" (.ref t)) (C : RoadKit.Fld Z h x ST "coder" "B" (.int 0)) (K : RoadKit.Arv Z h t kb .byte N2 vs (.int 0)) (hc : CodA cs 0 N2 vs) (hb : ∀ c ∈ cs, ¬ c < 0 ∧ ¬ (65535 : Int32) < c)
    (S : RoadKit.Sta Z h ST "COMPACT_STRINGS" "Z" (.int z)) (hz : ¬ z = 0) (F : RoadKit.Sta Z h "jdk/internal/util/Preconditions" "SIOOBE_FORMATTER" "Ljava/util/function/BiFunction;" fm) (rf : fm.isRef = true) (l2 : cs.length ≤ 4000) (hi : i < cs.length) (hj : j = Int32.ofNat i) (hfr : 4 ≤ R.frames) (hlo : W + 53 ≤ R.locals) :
    Back l R p e below s args (⟨"java/lang/String", "charAt", "(I)C"⟩ : MethodName) len W (fun P a => a = #[.ref x, .int j] ∧ P.U.heap = h ∧ P.cells + 0 ≤ R.cells ∧ P.slots + 0 ≤ R.slots)
      (fun P _ v B => ∃ L, (v = some (.int (cs.getD i 0)) ∧ L = [] ∧ B.U.heap = h) ∧ B.locs = P.locs ++ L ∧ B.cells = P.cells + 0 ∧ B.slots = P.slots + 0) := by
  subst hj
  intro m meth c P g ig mk a X hg hsize hdg hW hn hp'
  obtain ⟨rfl, rfl, r1, r2⟩ := hp'
  have al : Z.vm.Alike P.U.vm := hZ.alike.trans X.warmed.alike
  obtain ⟨A, hx⟩ := txt_of wi al E V C K hc hb l2
  obtain ⟨v, B, X', ⟨⟨hv, hh⟩, hl, hk, hs⟩, st⟩ := ChN.pays x t A cs.length (fun j => cs.getD j 0) z fm i (tabChN_of (movedChN hZ hw)) hfr hlo m meth c P g ig mk _ X hg hsize hdg hW hn ⟨r1, r2, rfl, hx, hi, sta_is al S, hz, sta_is al F, rf⟩
  exact ⟨v, B, X', ⟨[], ⟨hv, rfl, hh⟩, hl, hk, hs⟩, st⟩
/-- what backV says of its String, as the contracts of this text ask it: cs's low bytes, coder 0 -/
theorem codOf {cs : List Int32} {n : Nat} (hn : cs.length = n) (hb : ∀ c ∈ cs, ¬ 255 < c) : CodA cs 0 (Int32.ofNat n) ((cs.map lo8).map Value.int) := Or.inl ⟨rfl, by rw [hn], by simp [List.map_map, Function.comp_def], hb⟩
end StrChars.Road
end Jvm.Pilot.@@N@@
namespace Jvm.Pilot.@@N@@
open Jvm Jvm.ClassFile Sem Op Lib Jvm.Free Jvm.Free.XT Jvm.Stand Jvm.LawKit Jvm.RoadKit Bundle Jvm.Pilot.@@N@@.Jvm.D
theorem own_d {c : Code} {code : ByteArray} (h : c.code = code) {pc : Nat} {r : Except DecodeError (Instr × Nat)} (h2 : decode code pc = r) : decode c.code pc = r := h ▸ h2
theorem own_pn0 : plainName "com/example/firm_roles/firmroles/RoleRangeToStringPinLaw" = true := by first | (simp [plainName, overriddenIn]; done) | decide +kernel
theorem own_pn1 : plainName "com/example/firm_roles/firmroles/Name" = true := by first | (simp [plainName, overriddenIn]; done) | decide +kernel
theorem own_pn2 : plainName "java/lang/Record" = true := by first | (simp [plainName, overriddenIn]; done) | decide +kernel
theorem own_pn3 : plainName "java/util/Objects" = true := by first | (simp [plainName, overriddenIn]; done) | decide +kernel
theorem own_pn4 : plainName "java/lang/StringLatin1" = true := by first | (simp [plainName, overriddenIn]; done) | decide +kernel
theorem own_pn5 : plainName "java/lang/String" = true := by first | (simp [plainName, overriddenIn]; done) | decide +kernel
theorem own_pd0 : parseMethodDescriptor "(C)Z" = some ⟨[.char], some .boolean⟩ := by decide +kernel
theorem own_pd1 : parseMethodDescriptor "(C)[B" = some ⟨[.char], some (.array .byte)⟩ := by decide +kernel
theorem own_pd2 : parseMethodDescriptor "([BB)V" = some ⟨[(.array .byte), .byte], none⟩ := by decide +kernel
theorem own_pd3 : parseMethodDescriptor "()V" = some ⟨[], none⟩ := by decide +kernel
theorem own_pd4 : parseMethodDescriptor "(Ljava/lang/Object;Ljava/lang/String;)Ljava/lang/Object;" = some ⟨[(.object "java/lang/Object"), (.object "java/lang/String")], some (.object "java/lang/Object")⟩ := by decide +kernel
theorem own_pd5 : parseMethodDescriptor "()Z" = some ⟨[], some .boolean⟩ := by decide +kernel
theorem own_pd6 : parseMethodDescriptor "()I" = some ⟨[], some .int⟩ := by decide +kernel
theorem own_pd7 : parseMethodDescriptor "(I)C" = some ⟨[.int], some .char⟩ := by decide +kernel
theorem own_pn6 : plainName "com/example/firm_roles/firmroles/RoleRange" = true := by first | (simp [plainName, overriddenIn]; done) | decide +kernel
theorem own_pn7 : plainName "java/lang/AbstractStringBuilder" = true := by first | (simp [plainName, overriddenIn]; done) | decide +kernel
theorem own_pd8 : parseMethodDescriptor "(I)V" = some ⟨[.int], none⟩ := by decide +kernel
theorem own_pn8 : plainName "java/lang/StringBuilder" = true := by first | (simp [plainName, overriddenIn]; done) | decide +kernel
theorem own_pd9 : parseMethodDescriptor "()B" = some ⟨[], some .byte⟩ := by decide +kernel
theorem own_pd10 : parseMethodDescriptor "(Ljava/lang/String;)V" = some ⟨[(.object "java/lang/String")], none⟩ := by decide +kernel
theorem own_pd11 : parseMethodDescriptor "([BIB)V" = some ⟨[(.array .byte), .int, .byte], none⟩ := by decide +kernel
theorem own_pd12 : parseMethodDescriptor "(ILjava/lang/String;)V" = some ⟨[.int, (.object "java/lang/String")], none⟩ := by decide +kernel
theorem own_pd13 : parseMethodDescriptor "(Ljava/lang/String;)Ljava/lang/AbstractStringBuilder;" = some ⟨[(.object "java/lang/String")], some (.object "java/lang/AbstractStringBuilder")⟩ := by decide +kernel
theorem own_pn9 : plainName "java/util/Arrays" = true := by first | (simp [plainName, overriddenIn]; done) | decide +kernel
theorem own_pd14 : parseMethodDescriptor "(II)V" = some ⟨[.int, .int], none⟩ := by decide +kernel
theorem own_pd15 : parseMethodDescriptor "(II)I" = some ⟨[.int, .int], some .int⟩ := by decide +kernel
theorem own_pd16 : parseMethodDescriptor "([BII)[B" = some ⟨[(.array .byte), .int, .int], some (.array .byte)⟩ := by decide +kernel
theorem own_pd17 : parseMethodDescriptor "()[B" = some ⟨[], some (.array .byte)⟩ := by decide +kernel
theorem own_pd18 : parseMethodDescriptor "(Ljava/lang/AbstractStringBuilder;Ljava/lang/Void;)V" = some ⟨[(.object "java/lang/AbstractStringBuilder"), (.object "java/lang/Void")], none⟩ := by decide +kernel
theorem own_pd19 : parseMethodDescriptor "(Ljava/lang/StringBuilder;)V" = some ⟨[(.object "java/lang/StringBuilder")], none⟩ := by decide +kernel
theorem own_pn10 : plainName "jdk/internal/util/Preconditions" = true := by first | (simp [plainName, overriddenIn]; done) | decide +kernel
theorem own_pd20 : parseMethodDescriptor "(IILjava/util/function/BiFunction;)I" = some ⟨[.int, .int, (.object "java/util/function/BiFunction")], some .int⟩ := by decide +kernel
theorem own_pd21 : parseMethodDescriptor "([BI)C" = some ⟨[(.array .byte), .int], some .char⟩ := by decide +kernel
theorem own_pd22 : parseMethodDescriptor "(Ljava/lang/String;)Ljava/lang/StringBuilder;" = some ⟨[(.object "java/lang/String")], some (.object "java/lang/StringBuilder")⟩ := by decide +kernel
theorem own_pd23 : parseMethodDescriptor "()Ljava/lang/String;" = some ⟨[], some (.object "java/lang/String")⟩ := by decide +kernel
theorem own_pd24 : parseMethodDescriptor "(C)Ljava/lang/String;" = some ⟨[.char], some (.object "java/lang/String")⟩ := by decide +kernel
theorem own_pd25 : parseMethodDescriptor "(Lcom/example/firm_roles/firmroles/Name;ZLcom/example/firm_roles/firmroles/Name;Z)V" = some ⟨[(.object "com/example/firm_roles/firmroles/Name"), .boolean, (.object "com/example/firm_roles/firmroles/Name"), .boolean], none⟩ := by decide +kernel
theorem own_pd26 : parseMethodDescriptor "([C)V" = some ⟨[(.array .char)], none⟩ := by decide +kernel
abbrev EL : List (String × Nat) := [("com/example/firm_roles/firmroles/Name", 7), ("com/example/firm_roles/firmroles/RoleRange", 82), ("com/example/firm_roles/firmroles/RoleRange", 84), ("com/example/firm_roles/firmroles/RoleRange", 90), ("com/example/firm_roles/firmroles/RoleRange", 92), ("com/example/firm_roles/firmroles/RoleRange", 94)]
theorem own_EW {Z : State} {a0 : Array Value} (hw : ∀ d ∈ tables_1, d.before a0 Z = true) : EW Z a0 EL := (EW.cons (hw _ (List.mem_of_getElem? (i := 46) rfl)) (by decide +kernel) (EW.cons (hw _ (List.mem_of_getElem? (i := 240) rfl)) (by decide +kernel) (EW.cons (hw _ (List.mem_of_getElem? (i := 129) rfl)) (by decide +kernel) (EW.cons (hw _ (List.mem_of_getElem? (i := 173) rfl)) (by decide +kernel) (EW.cons (hw _ (List.mem_of_getElem? (i := 241) rfl)) (by decide +kernel) (EW.cons (hw _ (List.mem_of_getElem? (i := 174) rfl)) (by decide +kernel) EW.nil))))))
theorem own_arv_eq {Z : State} {h : Heap} {a : Addr} {k : ClassId} {ty : FieldType} {z : Int32} {vs vs' : List Value} {dv : Value} (F : Arv Z h a k ty z vs dv) (e : vs = vs') : Arv Z h a k ty z vs' dv := e ▸ F
/-- the bytes of Latin-1 chars -/
abbrev own_by (cs : List Int32) : List Value := (cs.map fun c => c.toInt8.toInt32).map Value.int
/-- x is a Latin-1 String of the chars cs -/
def own_Lat (Z : State) (h : Heap) (x : Addr) (cs : List Int32) : Prop := Exa Z h x "java/lang/String" ∧ Fld Z h x "java/lang/String" "coder" "B" (.int (0 : Int32)) ∧ (∀ c ∈ cs, ¬ c < 0 ∧ ¬ (255 : Int32) < c) ∧ cs.length ≤ 4000 ∧ ∃ (t : Addr) (kb : ClassId), Fld Z h x "java/lang/String" "value" "[B" (.ref t) ∧ Arv Z h t kb .byte (Int32.ofNat cs.length) (own_by cs) (.int (0 : Int32))
theorem own_Lat.keep0 {Z : State} {h h' : Heap} {x : Addr} {cs : List Int32} (H : own_Lat Z h x cs) (K : Keep h h' []) : own_Lat Z h' x cs := by
  obtain ⟨E, C, p, l, t, kb, V, A⟩ := H
  exact ⟨E.keep K, C.keep K nin0, p, l, t, kb, V.keep K nin0, A.keep K nin0⟩
theorem own_up (cs : List Int32) (h : ∀ c ∈ cs, ¬ c < 0 ∧ ¬ (255 : Int32) < c) : ∀ c ∈ cs, ¬ c < 0 ∧ ¬ (65535 : Int32) < c := fun c hc => ⟨(h c hc).1, fun q => (h c hc).2 (by rw [Int32.lt_iff_toInt_lt] at q ⊢; have e1 : (65535 : Int32).toInt = 65535 := rfl; have e2 : (255 : Int32).toInt = 255 := rfl; omega)⟩
theorem own_sameM {Z : State} {a0 : Array Value} {C : String} {y u z : MethodName} (wi : (Jvm.Cond.instanceMethod y).before a0 Z = true) (ws : (Jvm.Cond.selects C u z).before a0 Z = true) (hz : z.cls = y.cls) (hy : y.cls ≠ "java/lang/invoke/MethodHandle" ∧ y.cls ≠ "java/lang/invoke/VarHandle") : (Jvm.Cond.sameMethod y.cls y.cls y.name y.desc).before a0 Z = true := by
  obtain ⟨mk, methM, hnamed, hmethM, -, -⟩ := Cond.instanceMethod_spec wi
  obtain ⟨c2, r2, m2, q1, q2, q3, q4, kP, hkP, hkPi⟩ := Cond.selects_spec ws
  have h1 := findClass_of_methodNamed hnamed
  have h2 := findClass_of_methodNamed q3
  rw [hz, h1] at h2
  rw [← Option.some.inj h2] at hkP
  have h3 := State.methodFound?_of_named hnamed hy
  simp [Cond.before, Cond.holds, Cond.value, h1, h3, hnamed, hkP, hkPi]
theorem own_selP {Z s : State} {a0 args : Array Value} {C : String} {y : MethodName} (hZ : Z.Warmed39 s.vm) (ws : (Jvm.Cond.selects C y y).before a0 Z = true) (wp : (Jvm.Cond.privateMethod y).before a0 Z = true) (wi : (Jvm.Cond.instanceMethod y).before a0 Z = true) (hy : y.cls ≠ "java/lang/invoke/MethodHandle" ∧ y.cls ≠ "java/lang/invoke/VarHandle") : (Jvm.Cond.selects y.cls y y).before args s = true := by
  have wi' : (Jvm.Cond.instanceMethod y).before args s = true := mvT hZ wi
  have ws' : (Jvm.Cond.selects C y y).before args s = true := mvT hZ ws
  obtain ⟨mk, methM, hnamed, hmethM, -, -⟩ := Cond.instanceMethod_spec wi'
  obtain ⟨c2, r2, m2, q1, q2, q3, q4, kP, hkP, hkPi⟩ := Cond.selects_spec ws'
  cases hnamed.symm.trans q3
  have h1 := findClass_of_methodNamed hnamed
  have h3 := State.methodFound?_of_named hnamed hy
  have hp := Cond.privateMethod_at (mvP hZ wp (args := args)) mk methM hnamed hmethM
  have h4 : selectMethod {} s.vm mk.cls mk = .method mk := selectMethod_private hmethM hp
  simp [Cond.before, Cond.holds, Cond.value, h1, h3, hnamed, h4, hkP, hkPi]
theorem own_nf {Z s : State} {a0 : Array Value} {C : String} {y u z : MethodName} (hZ : Z.Warmed39 s.vm) (ws : (Jvm.Cond.selects C u z).before a0 Z = true) (hz : z.cls = y.cls) : NotFace s y := fun r0 h0 => by
  have ws' : (Jvm.Cond.selects C u z).before #[] s = true := mvT hZ ws
  obtain ⟨c2, r2, m2, q1, q2, q3, q4, kP, hkP, hkPi⟩ := Cond.selects_spec ws'
  have h1 := findClass_of_methodNamed h0
  have h2 := findClass_of_methodNamed q3
  rw [hz, h1] at h2
  rw [← Option.some.inj h2] at hkP
  exact ⟨kP, hkP, hkPi⟩
def own_ok (c : Int32) : Prop := (¬ c < 97 ∧ ¬ (122 : Int32) < c) ∨ (¬ c < 65 ∧ ¬ (90 : Int32) < c) ∨ (¬ c < 48 ∧ ¬ (57 : Int32) < c) ∨ c = 46 ∨ c = 95 ∨ c = 45 ∨ c = 58 ∨ c = 64
instance (c : Int32) : Decidable (own_ok c) := by unfold own_ok; infer_instance
theorem own_ok_lat {c : Int32} (h : own_ok c) : ¬ c < 0 ∧ ¬ (255 : Int32) < c := by
  unfold own_ok at h
  simp only [Int32.lt_iff_toInt_lt] at h ⊢
  have e0 : (0 : Int32).toInt = 0 := rfl
  have e1 : (255 : Int32).toInt = 255 := rfl
  have e2 : (97 : Int32).toInt = 97 := rfl
  have e3 : (122 : Int32).toInt = 122 := rfl
  have e4 : (65 : Int32).toInt = 65 := rfl
  have e5 : (90 : Int32).toInt = 90 := rfl
  have e6 : (48 : Int32).toInt = 48 := rfl
  have e7 : (57 : Int32).toInt = 57 := rfl
  rw [e2, e3, e4, e5, e6, e7] at h
  rw [e0, e1]
  rcases h with h | h | h | rfl | rfl | rfl | rfl | rfl
  · omega
  · omega
  · omega
  all_goals decide
theorem own_nar {x : Int32} (h : ¬ x < 0 ∧ ¬ (255 : Int32) < x) : nar .char x = x := by
  have q : narrow .char (.int x) = .int x := StrChars.narrow_ch h.1 (fun q => h.2 (by rw [Int32.lt_iff_toInt_lt] at q ⊢; have e1 : (65535 : Int32).toInt = 65535 := rfl; have e2 : (255 : Int32).toInt = 255 := rfl; omega))
  have q2 : narrow .char (.int x) = .int (nar .char x) := rfl
  rw [q2] at q
  exact Value.int.inj q
theorem own_rem (x : Int32) : ∃ k : Fin 67, (x &&& (2147483647 : Int32)) - (x &&& (2147483647 : Int32)) / 67 * 67 = Int32.ofNat k.val := by
  rw [irem_eq_mod]
  have h0 : 0 ≤ (x &&& (2147483647 : Int32)).toInt := by
    have hm : (x &&& (2147483647 : Int32)).toBitVec.msb = false := by
      rw [Int32.toBitVec_and, BitVec.msb_and]
      have : (2147483647 : Int32).toBitVec.msb = false := by decide
      rw [this, Bool.and_false]
    have e : (x &&& (2147483647 : Int32)).toInt = ((x &&& (2147483647 : Int32)).toBitVec.toNat : Int) := BitVec.toInt_eq_toNat_of_msb hm
    rw [e]; omega
  have e : ((x &&& (2147483647 : Int32)) % 67).toInt = (x &&& (2147483647 : Int32)).toInt.tmod 67 := by
    rw [Int32.toInt_mod]; rfl
  have h1 : 0 ≤ ((x &&& (2147483647 : Int32)) % 67).toInt := by rw [e]; exact Int.tmod_nonneg _ h0
  have h2 : ((x &&& (2147483647 : Int32)) % 67).toInt < 67 := by rw [e]; exact Int.tmod_lt_of_pos _ (by decide)
  refine ⟨⟨((x &&& (2147483647 : Int32)) % 67).toInt.toNat, by omega⟩, ?_⟩
  apply Int32.toInt_inj.mp
  rw [Int32.toInt_ofNat_of_lt (by omega)]
  exact (Int.toNat_of_nonneg h1).symm
theorem d0_0 : decode method_3_code 0 = .ok (.iload_n 0, 1) := by decide +kernel
theorem d0_1 : decode method_3_code 1 = .ok (.ldc 43, 2) := by decide +kernel
theorem d0_3 : decode method_3_code 3 = .ok (.iand, 1) := by decide +kernel
theorem d0_4 : decode method_3_code 4 = .ok (.bipush 67, 2) := by decide +kernel
theorem d0_6 : decode method_3_code 6 = .ok (.irem, 1) := by decide +kernel
theorem d0_7 : decode method_3_code 7 = .ok (.istore_n 1, 1) := by decide +kernel
theorem d0_8 : decode method_3_code 8 = .ok (.iload_n 1, 1) := by decide +kernel
theorem d0_9 : decode method_3_code 9 = .ok (.bipush 26, 2) := by decide +kernel
theorem d0_11 : decode method_3_code 11 = .ok (.if_icmp .ge 9, 3) := by decide +kernel
theorem d0_14 : decode method_3_code 14 = .ok (.bipush 97, 2) := by decide +kernel
theorem d0_16 : decode method_3_code 16 = .ok (.iload_n 1, 1) := by decide +kernel
theorem d0_17 : decode method_3_code 17 = .ok (.iadd, 1) := by decide +kernel
theorem d0_18 : decode method_3_code 18 = .ok (.i2c, 1) := by decide +kernel
theorem d0_19 : decode method_3_code 19 = .ok (.ireturn, 1) := by decide +kernel
theorem d0_20 : decode method_3_code 20 = .ok (.iload_n 1, 1) := by decide +kernel
theorem d0_21 : decode method_3_code 21 = .ok (.bipush 52, 2) := by decide +kernel
theorem d0_23 : decode method_3_code 23 = .ok (.if_icmp .ge 12, 3) := by decide +kernel
theorem d0_26 : decode method_3_code 26 = .ok (.bipush 65, 2) := by decide +kernel
theorem d0_28 : decode method_3_code 28 = .ok (.iload_n 1, 1) := by decide +kernel
theorem d0_29 : decode method_3_code 29 = .ok (.bipush 26, 2) := by decide +kernel
theorem d0_31 : decode method_3_code 31 = .ok (.isub, 1) := by decide +kernel
theorem d0_32 : decode method_3_code 32 = .ok (.iadd, 1) := by decide +kernel
theorem d0_33 : decode method_3_code 33 = .ok (.i2c, 1) := by decide +kernel
theorem d0_34 : decode method_3_code 34 = .ok (.ireturn, 1) := by decide +kernel
theorem d0_35 : decode method_3_code 35 = .ok (.iload_n 1, 1) := by decide +kernel
theorem d0_36 : decode method_3_code 36 = .ok (.bipush 62, 2) := by decide +kernel
theorem d0_38 : decode method_3_code 38 = .ok (.if_icmp .ge 12, 3) := by decide +kernel
theorem d0_41 : decode method_3_code 41 = .ok (.bipush 48, 2) := by decide +kernel
theorem d0_43 : decode method_3_code 43 = .ok (.iload_n 1, 1) := by decide +kernel
theorem d0_44 : decode method_3_code 44 = .ok (.bipush 52, 2) := by decide +kernel
theorem d0_46 : decode method_3_code 46 = .ok (.isub, 1) := by decide +kernel
theorem d0_47 : decode method_3_code 47 = .ok (.iadd, 1) := by decide +kernel
theorem d0_48 : decode method_3_code 48 = .ok (.i2c, 1) := by decide +kernel
theorem d0_49 : decode method_3_code 49 = .ok (.ireturn, 1) := by decide +kernel
theorem d0_50 : decode method_3_code 50 = .ok (.iload_n 1, 1) := by decide +kernel
theorem d0_51 : decode method_3_code 51 = .ok (.bipush 62, 2) := by decide +kernel
theorem d0_53 : decode method_3_code 53 = .ok (.if_icmp .ne 6, 3) := by decide +kernel
theorem d0_56 : decode method_3_code 56 = .ok (.bipush 46, 2) := by decide +kernel
theorem d0_58 : decode method_3_code 58 = .ok (.ireturn, 1) := by decide +kernel
theorem d0_59 : decode method_3_code 59 = .ok (.iload_n 1, 1) := by decide +kernel
theorem d0_60 : decode method_3_code 60 = .ok (.bipush 63, 2) := by decide +kernel
theorem d0_62 : decode method_3_code 62 = .ok (.if_icmp .ne 6, 3) := by decide +kernel
theorem d0_65 : decode method_3_code 65 = .ok (.bipush 95, 2) := by decide +kernel
theorem d0_67 : decode method_3_code 67 = .ok (.ireturn, 1) := by decide +kernel
theorem d0_68 : decode method_3_code 68 = .ok (.iload_n 1, 1) := by decide +kernel
theorem d0_69 : decode method_3_code 69 = .ok (.bipush 64, 2) := by decide +kernel
theorem d0_71 : decode method_3_code 71 = .ok (.if_icmp .ne 6, 3) := by decide +kernel
theorem d0_74 : decode method_3_code 74 = .ok (.bipush 45, 2) := by decide +kernel
theorem d0_76 : decode method_3_code 76 = .ok (.ireturn, 1) := by decide +kernel
theorem d0_77 : decode method_3_code 77 = .ok (.iload_n 1, 1) := by decide +kernel
theorem d0_78 : decode method_3_code 78 = .ok (.bipush 65, 2) := by decide +kernel
theorem d0_80 : decode method_3_code 80 = .ok (.if_icmp .ne 6, 3) := by decide +kernel
theorem d0_83 : decode method_3_code 83 = .ok (.bipush 58, 2) := by decide +kernel
theorem d0_85 : decode method_3_code 85 = .ok (.ireturn, 1) := by decide +kernel
theorem d0_86 : decode method_3_code 86 = .ok (.bipush 64, 2) := by decide +kernel
theorem d0_88 : decode method_3_code 88 = .ok (.ireturn, 1) := by decide +kernel
def Q_own_nch (Z : State) (q : Int32) (h0 : Heap) (n0 : Nat) (v : Option Value) (h : Heap) (L : List Loc) : Prop := ∃ c : Int32, v = some (.int c) ∧ Fr n0 L ∧ h = h0 ∧ own_ok c
set_option maxRecDepth 65536 in
set_option maxHeartbeats 40000000 in
theorem own_nch (l : Launch) (Z : State) (a0 : Array Value) (hw : ∀ d ∈ tables_1, d.before a0 Z = true) (q : Int32) (h0 : Heap) (n0 : Nat) (Z0 : n0 ≤ h0.size)  :
    MetFree l (⟨"com/example/firm_roles/firmroles/RoleRangeToStringPinLaw", "nameChar", "(I)C"⟩ : MethodName) (head1 [Jvm.Cond.code (⟨"com/example/firm_roles/firmroles/RoleRangeToStringPinLaw", "nameChar", "(I)C"⟩ : MethodName) method_3_code 2 (some .char)] ({ frames := 0, cells := 0, slots := 0, locals := 0 } : Room)) (fun a_ U_ => a_ = #[(.int q)] ∧ Z.Warmed39 U_.vm ∧ U_.heap = h0) (fun _ _ _ _ _ => True) (fun _ U_ o_ V_ => ∃ v_ L_, o_ = .returned v_ ∧ Q_own_nch Z q h0 n0 v_ V_.heap L_ ∧ FrameEnd U_ o_ V_ L_ ({ frames := 0, cells := 0, slots := 0, locals := 0 } : Room).cells ({ frames := 0, cells := 0, slots := 0, locals := 0 } : Room).slots) := by
  refine MetFree.of_bodySF (plainFor_of_name own_pn0) hisR ?_
  intro p e s m args below meth c s₁ Bd hml0 hP hK
  obtain ⟨rfl, hZ, hh⟩ := hP
  have hx := Bd.exec
  have hby := Bd.bytes
  have hml : c.maxLocals = 2 := hml0
  have hown : s.vm.findClass "com/example/firm_roles/firmroles/RoleRangeToStringPinLaw" = some m.cls := findClass_of_methodNamed Bd.named
  have hnm := (name_of_methodNamed Bd.named Bd.method).1
  have X0 : Stand p l e ({ frames := 0, cells := 0, slots := 0, locals := 0 } : Room) s m #[(.int q)] below meth c s₁ [] 0 0 := Stand.of_body Bd
  have e0 : s₁.heap = h0 := by rw [← hh, Bd.state]; rfl
  have N0 := Fr.nil n0
  have KK0 := Keep.refl h0 ([] : List Addr)
  have cc0 : Steps p.tables e below (s₁.setTop (entryFrame m #[(.int q)] 2)) (s₁.setTop (mkF m 0 #[.val (.int q), .unset] [])) := XT.entry rfl
  obtain ⟨S0', hS0'⟩ : ∃ S, S = (s₁.setTop (entryFrame m #[(.int q)] 2)) := ⟨_, rfl⟩
  rw [← hS0'] at cc0
  have cc21 : Steps p.tables e below S0' (s₁.setTop (mkF m 7 #[.val (.int q), .unset] [(.int ((q &&& (2147483647 : Int32)) - (q &&& (2147483647 : Int32)) / (67 : Int32) * (67 : Int32)))])) := Steps.trans cc0 (by
    refine XS.iloadN X0.here hx rfl (own_d hby d0_0) rfl ?_
    refine X0.ldcI hx hown (mvT hZ (hw _ (List.mem_of_getElem? (i := 4) rfl))) rfl (own_d hby d0_1) ?_
    refine XS.iand X0.here hx rfl (own_d hby d0_3) rfl ?_
    refine bipushV X0.here hx rfl 67 (own_d hby d0_4) (by decide) ?_
    refine XS.irem X0.here hx rfl (own_d hby d0_6) rfl (by decide) ?_
    exact Steps.refl _)
  obtain ⟨k, ek⟩ := own_rem q
  have cz22 : Steps p.tables e below S0' (s₁.setTop (mkF m 7 #[.val (.int q), .unset] [(.int (Int32.ofNat k.val))])) := by
    have := cc21
    rw [ek] at this
    exact this
  have cc23 : Steps p.tables e below S0' (s₁.setTop (mkF m 11 #[.val (.int q), .val (.int (Int32.ofNat k.val))] [(.int 26), (.int (Int32.ofNat k.val))])) := Steps.trans cz22 (by
    refine XS.istoreN X0.here hx rfl (own_d hby d0_7) rfl rfl ?_
    refine XS.iloadN X0.here hx rfl (own_d hby d0_8) rfl ?_
    refine bipushV X0.here hx rfl 26 (own_d hby d0_9) (by decide) ?_
    exact Steps.refl _)
  by_cases q26 : Int32.ofNat k.val < (26 : Int32)
  · skip
    have cc24 : Steps p.tables e below S0' (s₁.setTop (mkF m 19 #[.val (.int q), .val (.int (Int32.ofNat k.val))] [(.int (((97 : Int32) + (Int32.ofNat k.val)).toUInt32.toUInt16.toUInt32.toInt32))])) := Steps.trans cc23 (by
      refine XS.icmpNo X0.here hx rfl (own_d hby d0_11) rfl (ii_ge_f q26) ?_
      refine bipushV X0.here hx rfl 97 (own_d hby d0_14) (by decide) ?_
      refine XS.iloadN X0.here hx rfl (own_d hby d0_16) rfl ?_
      refine XS.iadd X0.here hx rfl (own_d hby d0_17) rfl ?_
      refine XT.i2c X0.here hx rfl (own_d hby d0_18) rfl ?_
      exact Steps.refl _)
    have ok : own_ok (((97 : Int32) + (Int32.ofNat k.val)).toUInt32.toUInt16.toUInt32.toInt32) := (by decide +kernel : ∀ k : Fin 67, Int32.ofNat k.val < (26 : Int32) →  own_ok (((97 : Int32) + (Int32.ofNat k.val)).toUInt32.toUInt16.toUInt32.toInt32)) k q26
    have cE := cc24
    rw [hS0'] at cE
    obtain ⟨fs, hr_, hrun, hended, hW, hsame⟩ := X0.leave (v := some (.int (((97 : Int32) + (Int32.ofNat k.val)).toUInt32.toUInt16.toUInt32.toInt32))) (fun h => by rw [Bd.returns] at h; cases h)
    refine ⟨_, _, cE.trans (X0.ireturnOut hx Bd.returns (narrow_c _) (by simp) (own_d hby d0_19) hr_), hrun, hended, _, _, rfl, ?_, ⟨_, rfl⟩, hW, hsame.mono (by first | decide | omega) (by first | decide | omega)⟩
    show Q_own_nch Z q h0 n0 _ s₁.heap _
    rw [e0]
    exact ⟨_, rfl, N0, rfl, ok⟩
  · skip
    have cc24 : Steps p.tables e below S0' (s₁.setTop (mkF m 23 #[.val (.int q), .val (.int (Int32.ofNat k.val))] [(.int 52), (.int (Int32.ofNat k.val))])) := Steps.trans cc23 (by
      refine XS.icmpYes X0.here hx rfl (pc0 := 11) rfl (own_d hby d0_11) rfl (ii_ge_t q26) (by decide) rfl ?_
      refine XS.iloadN X0.here hx rfl (own_d hby d0_20) rfl ?_
      refine bipushV X0.here hx rfl 52 (own_d hby d0_21) (by decide) ?_
      exact Steps.refl _)
    by_cases q52 : Int32.ofNat k.val < (52 : Int32)
    · skip
      have cc25 : Steps p.tables e below S0' (s₁.setTop (mkF m 34 #[.val (.int q), .val (.int (Int32.ofNat k.val))] [(.int (((65 : Int32) + ((Int32.ofNat k.val) - (26 : Int32))).toUInt32.toUInt16.toUInt32.toInt32))])) := Steps.trans cc24 (by
        refine XS.icmpNo X0.here hx rfl (own_d hby d0_23) rfl (ii_ge_f q52) ?_
        refine bipushV X0.here hx rfl 65 (own_d hby d0_26) (by decide) ?_
        refine XS.iloadN X0.here hx rfl (own_d hby d0_28) rfl ?_
        refine bipushV X0.here hx rfl 26 (own_d hby d0_29) (by decide) ?_
        refine XS.isub X0.here hx rfl (own_d hby d0_31) rfl ?_
        refine XS.iadd X0.here hx rfl (own_d hby d0_32) rfl ?_
        refine XT.i2c X0.here hx rfl (own_d hby d0_33) rfl ?_
        exact Steps.refl _)
      have ok : own_ok (((65 : Int32) + ((Int32.ofNat k.val) - (26 : Int32))).toUInt32.toUInt16.toUInt32.toInt32) := (by decide +kernel : ∀ k : Fin 67, ¬ Int32.ofNat k.val < (26 : Int32) → Int32.ofNat k.val < (52 : Int32) →  own_ok (((65 : Int32) + ((Int32.ofNat k.val) - (26 : Int32))).toUInt32.toUInt16.toUInt32.toInt32)) k q26 q52
      have cE := cc25
      rw [hS0'] at cE
      obtain ⟨fs, hr_, hrun, hended, hW, hsame⟩ := X0.leave (v := some (.int (((65 : Int32) + ((Int32.ofNat k.val) - (26 : Int32))).toUInt32.toUInt16.toUInt32.toInt32))) (fun h => by rw [Bd.returns] at h; cases h)
      refine ⟨_, _, cE.trans (X0.ireturnOut hx Bd.returns (narrow_c _) (by simp) (own_d hby d0_34) hr_), hrun, hended, _, _, rfl, ?_, ⟨_, rfl⟩, hW, hsame.mono (by first | decide | omega) (by first | decide | omega)⟩
      show Q_own_nch Z q h0 n0 _ s₁.heap _
      rw [e0]
      exact ⟨_, rfl, N0, rfl, ok⟩
    · skip
      have cc25 : Steps p.tables e below S0' (s₁.setTop (mkF m 38 #[.val (.int q), .val (.int (Int32.ofNat k.val))] [(.int 62), (.int (Int32.ofNat k.val))])) := Steps.trans cc24 (by
        refine XS.icmpYes X0.here hx rfl (pc0 := 23) rfl (own_d hby d0_23) rfl (ii_ge_t q52) (by decide) rfl ?_
        refine XS.iloadN X0.here hx rfl (own_d hby d0_35) rfl ?_
        refine bipushV X0.here hx rfl 62 (own_d hby d0_36) (by decide) ?_
        exact Steps.refl _)
      by_cases q62 : Int32.ofNat k.val < (62 : Int32)
      · skip
        have cc26 : Steps p.tables e below S0' (s₁.setTop (mkF m 49 #[.val (.int q), .val (.int (Int32.ofNat k.val))] [(.int (((48 : Int32) + ((Int32.ofNat k.val) - (52 : Int32))).toUInt32.toUInt16.toUInt32.toInt32))])) := Steps.trans cc25 (by
          refine XS.icmpNo X0.here hx rfl (own_d hby d0_38) rfl (ii_ge_f q62) ?_
          refine bipushV X0.here hx rfl 48 (own_d hby d0_41) (by decide) ?_
          refine XS.iloadN X0.here hx rfl (own_d hby d0_43) rfl ?_
          refine bipushV X0.here hx rfl 52 (own_d hby d0_44) (by decide) ?_
          refine XS.isub X0.here hx rfl (own_d hby d0_46) rfl ?_
          refine XS.iadd X0.here hx rfl (own_d hby d0_47) rfl ?_
          refine XT.i2c X0.here hx rfl (own_d hby d0_48) rfl ?_
          exact Steps.refl _)
        have ok : own_ok (((48 : Int32) + ((Int32.ofNat k.val) - (52 : Int32))).toUInt32.toUInt16.toUInt32.toInt32) := (by decide +kernel : ∀ k : Fin 67, ¬ Int32.ofNat k.val < (26 : Int32) → ¬ Int32.ofNat k.val < (52 : Int32) → Int32.ofNat k.val < (62 : Int32) →  own_ok (((48 : Int32) + ((Int32.ofNat k.val) - (52 : Int32))).toUInt32.toUInt16.toUInt32.toInt32)) k q26 q52 q62
        have cE := cc26
        rw [hS0'] at cE
        obtain ⟨fs, hr_, hrun, hended, hW, hsame⟩ := X0.leave (v := some (.int (((48 : Int32) + ((Int32.ofNat k.val) - (52 : Int32))).toUInt32.toUInt16.toUInt32.toInt32))) (fun h => by rw [Bd.returns] at h; cases h)
        refine ⟨_, _, cE.trans (X0.ireturnOut hx Bd.returns (narrow_c _) (by simp) (own_d hby d0_49) hr_), hrun, hended, _, _, rfl, ?_, ⟨_, rfl⟩, hW, hsame.mono (by first | decide | omega) (by first | decide | omega)⟩
        show Q_own_nch Z q h0 n0 _ s₁.heap _
        rw [e0]
        exact ⟨_, rfl, N0, rfl, ok⟩
      · skip
        have cc26 : Steps p.tables e below S0' (s₁.setTop (mkF m 53 #[.val (.int q), .val (.int (Int32.ofNat k.val))] [(.int 62), (.int (Int32.ofNat k.val))])) := Steps.trans cc25 (by
          refine XS.icmpYes X0.here hx rfl (pc0 := 38) rfl (own_d hby d0_38) rfl (ii_ge_t q62) (by decide) rfl ?_
          refine XS.iloadN X0.here hx rfl (own_d hby d0_50) rfl ?_
          refine bipushV X0.here hx rfl 62 (own_d hby d0_51) (by decide) ?_
          exact Steps.refl _)
        by_cases e62 : Int32.ofNat k.val = (62 : Int32)
        · skip
          have cc27 : Steps p.tables e below S0' (s₁.setTop (mkF m 58 #[.val (.int q), .val (.int (Int32.ofNat k.val))] [(.int 46)])) := Steps.trans cc26 (by
            refine XS.icmpNo X0.here hx rfl (own_d hby d0_53) rfl (ii_ne_f e62) ?_
            refine bipushV X0.here hx rfl 46 (own_d hby d0_56) (by decide) ?_
            exact Steps.refl _)
          have ok : own_ok ((46 : Int32)) := (by decide +kernel : ∀ k : Fin 67, ¬ Int32.ofNat k.val < (26 : Int32) → ¬ Int32.ofNat k.val < (52 : Int32) → ¬ Int32.ofNat k.val < (62 : Int32) → Int32.ofNat k.val = (62 : Int32) →  own_ok ((46 : Int32))) k q26 q52 q62 e62
          have cE := cc27
          rw [hS0'] at cE
          obtain ⟨fs, hr_, hrun, hended, hW, hsame⟩ := X0.leave (v := some (.int 46)) (fun h => by rw [Bd.returns] at h; cases h)
          refine ⟨_, _, cE.trans (X0.ireturnOut hx Bd.returns (rfl) (by simp) (own_d hby d0_58) hr_), hrun, hended, _, _, rfl, ?_, ⟨_, rfl⟩, hW, hsame.mono (by first | decide | omega) (by first | decide | omega)⟩
          show Q_own_nch Z q h0 n0 _ s₁.heap _
          rw [e0]
          exact ⟨_, rfl, N0, rfl, ok⟩
        · skip
          have cc27 : Steps p.tables e below S0' (s₁.setTop (mkF m 62 #[.val (.int q), .val (.int (Int32.ofNat k.val))] [(.int 63), (.int (Int32.ofNat k.val))])) := Steps.trans cc26 (by
            refine XS.icmpYes X0.here hx rfl (pc0 := 53) rfl (own_d hby d0_53) rfl (ii_ne_t e62) (by decide) rfl ?_
            refine XS.iloadN X0.here hx rfl (own_d hby d0_59) rfl ?_
            refine bipushV X0.here hx rfl 63 (own_d hby d0_60) (by decide) ?_
            exact Steps.refl _)
          by_cases e63 : Int32.ofNat k.val = (63 : Int32)
          · skip
            have cc28 : Steps p.tables e below S0' (s₁.setTop (mkF m 67 #[.val (.int q), .val (.int (Int32.ofNat k.val))] [(.int 95)])) := Steps.trans cc27 (by
              refine XS.icmpNo X0.here hx rfl (own_d hby d0_62) rfl (ii_ne_f e63) ?_
              refine bipushV X0.here hx rfl 95 (own_d hby d0_65) (by decide) ?_
              exact Steps.refl _)
            have ok : own_ok ((95 : Int32)) := (by decide +kernel : ∀ k : Fin 67, ¬ Int32.ofNat k.val < (26 : Int32) → ¬ Int32.ofNat k.val < (52 : Int32) → ¬ Int32.ofNat k.val < (62 : Int32) → ¬ Int32.ofNat k.val = (62 : Int32) → Int32.ofNat k.val = (63 : Int32) →  own_ok ((95 : Int32))) k q26 q52 q62 e62 e63
            have cE := cc28
            rw [hS0'] at cE
            obtain ⟨fs, hr_, hrun, hended, hW, hsame⟩ := X0.leave (v := some (.int 95)) (fun h => by rw [Bd.returns] at h; cases h)
            refine ⟨_, _, cE.trans (X0.ireturnOut hx Bd.returns (rfl) (by simp) (own_d hby d0_67) hr_), hrun, hended, _, _, rfl, ?_, ⟨_, rfl⟩, hW, hsame.mono (by first | decide | omega) (by first | decide | omega)⟩
            show Q_own_nch Z q h0 n0 _ s₁.heap _
            rw [e0]
            exact ⟨_, rfl, N0, rfl, ok⟩
          · skip
            have cc28 : Steps p.tables e below S0' (s₁.setTop (mkF m 71 #[.val (.int q), .val (.int (Int32.ofNat k.val))] [(.int 64), (.int (Int32.ofNat k.val))])) := Steps.trans cc27 (by
              refine XS.icmpYes X0.here hx rfl (pc0 := 62) rfl (own_d hby d0_62) rfl (ii_ne_t e63) (by decide) rfl ?_
              refine XS.iloadN X0.here hx rfl (own_d hby d0_68) rfl ?_
              refine bipushV X0.here hx rfl 64 (own_d hby d0_69) (by decide) ?_
              exact Steps.refl _)
            by_cases e64 : Int32.ofNat k.val = (64 : Int32)
            · skip
              have cc29 : Steps p.tables e below S0' (s₁.setTop (mkF m 76 #[.val (.int q), .val (.int (Int32.ofNat k.val))] [(.int 45)])) := Steps.trans cc28 (by
                refine XS.icmpNo X0.here hx rfl (own_d hby d0_71) rfl (ii_ne_f e64) ?_
                refine bipushV X0.here hx rfl 45 (own_d hby d0_74) (by decide) ?_
                exact Steps.refl _)
              have ok : own_ok ((45 : Int32)) := (by decide +kernel : ∀ k : Fin 67, ¬ Int32.ofNat k.val < (26 : Int32) → ¬ Int32.ofNat k.val < (52 : Int32) → ¬ Int32.ofNat k.val < (62 : Int32) → ¬ Int32.ofNat k.val = (62 : Int32) → ¬ Int32.ofNat k.val = (63 : Int32) → Int32.ofNat k.val = (64 : Int32) →  own_ok ((45 : Int32))) k q26 q52 q62 e62 e63 e64
              have cE := cc29
              rw [hS0'] at cE
              obtain ⟨fs, hr_, hrun, hended, hW, hsame⟩ := X0.leave (v := some (.int 45)) (fun h => by rw [Bd.returns] at h; cases h)
              refine ⟨_, _, cE.trans (X0.ireturnOut hx Bd.returns (rfl) (by simp) (own_d hby d0_76) hr_), hrun, hended, _, _, rfl, ?_, ⟨_, rfl⟩, hW, hsame.mono (by first | decide | omega) (by first | decide | omega)⟩
              show Q_own_nch Z q h0 n0 _ s₁.heap _
              rw [e0]
              exact ⟨_, rfl, N0, rfl, ok⟩
            · skip
              have cc29 : Steps p.tables e below S0' (s₁.setTop (mkF m 80 #[.val (.int q), .val (.int (Int32.ofNat k.val))] [(.int 65), (.int (Int32.ofNat k.val))])) := Steps.trans cc28 (by
                refine XS.icmpYes X0.here hx rfl (pc0 := 71) rfl (own_d hby d0_71) rfl (ii_ne_t e64) (by decide) rfl ?_
                refine XS.iloadN X0.here hx rfl (own_d hby d0_77) rfl ?_
                refine bipushV X0.here hx rfl 65 (own_d hby d0_78) (by decide) ?_
                exact Steps.refl _)
              by_cases e65 : Int32.ofNat k.val = (65 : Int32)
              · skip
                have cc30 : Steps p.tables e below S0' (s₁.setTop (mkF m 85 #[.val (.int q), .val (.int (Int32.ofNat k.val))] [(.int 58)])) := Steps.trans cc29 (by
                  refine XS.icmpNo X0.here hx rfl (own_d hby d0_80) rfl (ii_ne_f e65) ?_
                  refine bipushV X0.here hx rfl 58 (own_d hby d0_83) (by decide) ?_
                  exact Steps.refl _)
                have ok : own_ok ((58 : Int32)) := (by decide +kernel : ∀ k : Fin 67, ¬ Int32.ofNat k.val < (26 : Int32) → ¬ Int32.ofNat k.val < (52 : Int32) → ¬ Int32.ofNat k.val < (62 : Int32) → ¬ Int32.ofNat k.val = (62 : Int32) → ¬ Int32.ofNat k.val = (63 : Int32) → ¬ Int32.ofNat k.val = (64 : Int32) → Int32.ofNat k.val = (65 : Int32) →  own_ok ((58 : Int32))) k q26 q52 q62 e62 e63 e64 e65
                have cE := cc30
                rw [hS0'] at cE
                obtain ⟨fs, hr_, hrun, hended, hW, hsame⟩ := X0.leave (v := some (.int 58)) (fun h => by rw [Bd.returns] at h; cases h)
                refine ⟨_, _, cE.trans (X0.ireturnOut hx Bd.returns (rfl) (by simp) (own_d hby d0_85) hr_), hrun, hended, _, _, rfl, ?_, ⟨_, rfl⟩, hW, hsame.mono (by first | decide | omega) (by first | decide | omega)⟩
                show Q_own_nch Z q h0 n0 _ s₁.heap _
                rw [e0]
                exact ⟨_, rfl, N0, rfl, ok⟩
              · skip
                have cc30 : Steps p.tables e below S0' (s₁.setTop (mkF m 88 #[.val (.int q), .val (.int (Int32.ofNat k.val))] [(.int 64)])) := Steps.trans cc29 (by
                  refine XS.icmpYes X0.here hx rfl (pc0 := 80) rfl (own_d hby d0_80) rfl (ii_ne_t e65) (by decide) rfl ?_
                  refine bipushV X0.here hx rfl 64 (own_d hby d0_86) (by decide) ?_
                  exact Steps.refl _)
                have ok : own_ok ((64 : Int32)) := (by decide +kernel : ∀ k : Fin 67,  own_ok ((64 : Int32))) k 
                have cE := cc30
                rw [hS0'] at cE
                obtain ⟨fs, hr_, hrun, hended, hW, hsame⟩ := X0.leave (v := some (.int 64)) (fun h => by rw [Bd.returns] at h; cases h)
                refine ⟨_, _, cE.trans (X0.ireturnOut hx Bd.returns (rfl) (by simp) (own_d hby d0_88) hr_), hrun, hended, _, _, rfl, ?_, ⟨_, rfl⟩, hW, hsame.mono (by first | decide | omega) (by first | decide | omega)⟩
                show Q_own_nch Z q h0 n0 _ s₁.heap _
                rw [e0]
                exact ⟨_, rfl, N0, rfl, ok⟩
theorem d1_0 : decode prog_19_method_2_code 0 = .ok (.iload_n 0, 1) := by decide +kernel
theorem d1_1 : decode prog_19_method_2_code 1 = .ok (.bipush 97, 2) := by decide +kernel
theorem d1_3 : decode prog_19_method_2_code 3 = .ok (.if_icmp .lt 9, 3) := by decide +kernel
theorem d1_6 : decode prog_19_method_2_code 6 = .ok (.iload_n 0, 1) := by decide +kernel
theorem d1_7 : decode prog_19_method_2_code 7 = .ok (.bipush 122, 2) := by decide +kernel
theorem d1_9 : decode prog_19_method_2_code 9 = .ok (.if_icmp .le 57, 3) := by decide +kernel
theorem d1_12 : decode prog_19_method_2_code 12 = .ok (.iload_n 0, 1) := by decide +kernel
theorem d1_13 : decode prog_19_method_2_code 13 = .ok (.bipush 65, 2) := by decide +kernel
theorem d1_15 : decode prog_19_method_2_code 15 = .ok (.if_icmp .lt 9, 3) := by decide +kernel
theorem d1_18 : decode prog_19_method_2_code 18 = .ok (.iload_n 0, 1) := by decide +kernel
theorem d1_19 : decode prog_19_method_2_code 19 = .ok (.bipush 90, 2) := by decide +kernel
theorem d1_21 : decode prog_19_method_2_code 21 = .ok (.if_icmp .le 45, 3) := by decide +kernel
theorem d1_24 : decode prog_19_method_2_code 24 = .ok (.iload_n 0, 1) := by decide +kernel
theorem d1_25 : decode prog_19_method_2_code 25 = .ok (.bipush 48, 2) := by decide +kernel
theorem d1_27 : decode prog_19_method_2_code 27 = .ok (.if_icmp .lt 9, 3) := by decide +kernel
theorem d1_30 : decode prog_19_method_2_code 30 = .ok (.iload_n 0, 1) := by decide +kernel
theorem d1_31 : decode prog_19_method_2_code 31 = .ok (.bipush 57, 2) := by decide +kernel
theorem d1_33 : decode prog_19_method_2_code 33 = .ok (.if_icmp .le 33, 3) := by decide +kernel
theorem d1_36 : decode prog_19_method_2_code 36 = .ok (.iload_n 0, 1) := by decide +kernel
theorem d1_37 : decode prog_19_method_2_code 37 = .ok (.bipush 46, 2) := by decide +kernel
theorem d1_39 : decode prog_19_method_2_code 39 = .ok (.if_icmp .eq 27, 3) := by decide +kernel
theorem d1_42 : decode prog_19_method_2_code 42 = .ok (.iload_n 0, 1) := by decide +kernel
theorem d1_43 : decode prog_19_method_2_code 43 = .ok (.bipush 95, 2) := by decide +kernel
theorem d1_45 : decode prog_19_method_2_code 45 = .ok (.if_icmp .eq 21, 3) := by decide +kernel
theorem d1_48 : decode prog_19_method_2_code 48 = .ok (.iload_n 0, 1) := by decide +kernel
theorem d1_49 : decode prog_19_method_2_code 49 = .ok (.bipush 45, 2) := by decide +kernel
theorem d1_51 : decode prog_19_method_2_code 51 = .ok (.if_icmp .eq 15, 3) := by decide +kernel
theorem d1_54 : decode prog_19_method_2_code 54 = .ok (.iload_n 0, 1) := by decide +kernel
theorem d1_55 : decode prog_19_method_2_code 55 = .ok (.bipush 58, 2) := by decide +kernel
theorem d1_57 : decode prog_19_method_2_code 57 = .ok (.if_icmp .eq 9, 3) := by decide +kernel
theorem d1_60 : decode prog_19_method_2_code 60 = .ok (.iload_n 0, 1) := by decide +kernel
theorem d1_61 : decode prog_19_method_2_code 61 = .ok (.bipush 64, 2) := by decide +kernel
theorem d1_63 : decode prog_19_method_2_code 63 = .ok (.if_icmp .ne 7, 3) := by decide +kernel
theorem d1_66 : decode prog_19_method_2_code 66 = .ok (.iconst 1, 1) := by decide +kernel
theorem d1_67 : decode prog_19_method_2_code 67 = .ok (.goto 4, 3) := by decide +kernel
theorem d1_71 : decode prog_19_method_2_code 71 = .ok (.ireturn, 1) := by decide +kernel
def Q_own_alw (Z : State) (w : Int32) (h0 : Heap) (n0 : Nat) (v : Option Value) (h : Heap) (L : List Loc) : Prop := v = some (.int 1) ∧ Fr n0 L ∧ h = h0
set_option maxRecDepth 65536 in
set_option maxHeartbeats 40000000 in
theorem own_alw (l : Launch) (Z : State) (a0 : Array Value) (hw : ∀ d ∈ tables_1, d.before a0 Z = true) (w : Int32) (h0 : Heap) (n0 : Nat) (Z0 : n0 ≤ h0.size) (ok : own_ok w) :
    MetFree l (⟨"com/example/firm_roles/firmroles/Name", "isAllowed", "(C)Z"⟩ : MethodName) (head1 [Jvm.Cond.code (⟨"com/example/firm_roles/firmroles/Name", "isAllowed", "(C)Z"⟩ : MethodName) prog_19_method_2_code 1 (some .boolean)] ({ frames := 0, cells := 0, slots := 0, locals := 0 } : Room)) (fun a_ U_ => a_ = #[(.int w)] ∧ Z.Warmed39 U_.vm ∧ U_.heap = h0) (fun _ _ _ _ _ => True) (fun _ U_ o_ V_ => ∃ v_ L_, o_ = .returned v_ ∧ Q_own_alw Z w h0 n0 v_ V_.heap L_ ∧ FrameEnd U_ o_ V_ L_ ({ frames := 0, cells := 0, slots := 0, locals := 0 } : Room).cells ({ frames := 0, cells := 0, slots := 0, locals := 0 } : Room).slots) := by
  refine MetFree.of_bodySF (plainFor_of_name own_pn1) hisR ?_
  intro p e s m args below meth c s₁ Bd hml0 hP hK
  obtain ⟨rfl, hZ, hh⟩ := hP
  have hx := Bd.exec
  have hby := Bd.bytes
  have hml : c.maxLocals = 1 := hml0
  have hown : s.vm.findClass "com/example/firm_roles/firmroles/Name" = some m.cls := findClass_of_methodNamed Bd.named
  have hnm := (name_of_methodNamed Bd.named Bd.method).1
  have X0 : Stand p l e ({ frames := 0, cells := 0, slots := 0, locals := 0 } : Room) s m #[(.int w)] below meth c s₁ [] 0 0 := Stand.of_body Bd
  have e0 : s₁.heap = h0 := by rw [← hh, Bd.state]; rfl
  have N0 := Fr.nil n0
  have KK0 := Keep.refl h0 ([] : List Addr)
  have cc0 : Steps p.tables e below (s₁.setTop (entryFrame m #[(.int w)] 1)) (s₁.setTop (mkF m 0 #[.val (.int w)] [])) := XT.entry rfl
  obtain ⟨S0', hS0'⟩ : ∃ S, S = (s₁.setTop (entryFrame m #[(.int w)] 1)) := ⟨_, rfl⟩
  rw [← hS0'] at cc0
  unfold own_ok at ok
  have cc21 : Steps p.tables e below S0' (s₁.setTop (mkF m 3 #[.val (.int w)] [(.int 97), (.int w)])) := Steps.trans cc0 (by
    refine XS.iloadN X0.here hx rfl (own_d hby d1_0) rfl ?_
    refine bipushV X0.here hx rfl 97 (own_d hby d1_1) (by decide) ?_
    exact Steps.refl _)
  by_cases q97 : ¬ w < (97 : Int32) ∧ ¬ (122 : Int32) < w
  · skip
    have cc22 : Steps p.tables e below S0' (s₁.setTop (mkF m 71 #[.val (.int w)] [(.int 1)])) := Steps.trans cc21 (by
      refine XS.icmpNo X0.here hx rfl (own_d hby d1_3) rfl (ii_lt_f q97.1) ?_
      refine XS.iloadN X0.here hx rfl (own_d hby d1_6) rfl ?_
      refine bipushV X0.here hx rfl 122 (own_d hby d1_7) (by decide) ?_
      refine XS.icmpYes X0.here hx rfl (pc0 := 9) rfl (own_d hby d1_9) rfl (ii_le_t q97.2) (by decide) rfl ?_
      refine iconstV X0.here hx rfl 1 (own_d hby d1_66) (by decide) ?_
      refine XS.goto X0.here hx rfl (pc0 := 67) rfl (own_d hby d1_67) (by decide) rfl ?_
      exact Steps.refl _)
    have cE := cc22
    rw [hS0'] at cE
    obtain ⟨fs, hr_, hrun, hended, hW, hsame⟩ := X0.leave (v := some (.int 1)) (fun h => by rw [Bd.returns] at h; cases h)
    refine ⟨_, _, cE.trans (X0.ireturnOut hx Bd.returns (rfl) (by simp) (own_d hby d1_71) hr_), hrun, hended, _, _, rfl, ?_, ⟨_, rfl⟩, hW, hsame.mono (by first | decide | omega) (by first | decide | omega)⟩
    show Q_own_alw Z w h0 n0 _ s₁.heap _
    rw [e0]
    exact ⟨rfl, N0, rfl⟩
  · skip
    have c_97 : Steps p.tables e below S0' (s₁.setTop (mkF m 12 #[.val (.int w)] [])) := by
      by_cases hq : w < (97 : Int32)
      · refine cc21.trans ?_
        refine XS.icmpYes X0.here hx rfl (pc0 := 3) rfl (own_d hby d1_3) rfl (ii_lt_t hq) (by decide) rfl ?_
        exact Steps.refl _
      · refine cc21.trans ?_
        refine XS.icmpNo X0.here hx rfl (own_d hby d1_3) rfl (ii_lt_f hq) ?_
        refine XS.iloadN X0.here hx rfl (own_d hby d1_6) rfl ?_
        refine bipushV X0.here hx rfl 122 (own_d hby d1_7) (by decide) ?_
        refine XS.icmpNo X0.here hx rfl (own_d hby d1_9) rfl (ii_le_f (Decidable.of_not_not fun z => q97 ⟨hq, z⟩)) ?_
        exact Steps.refl _
    have cc22 : Steps p.tables e below S0' (s₁.setTop (mkF m 15 #[.val (.int w)] [(.int 65), (.int w)])) := Steps.trans c_97 (by
      refine XS.iloadN X0.here hx rfl (own_d hby d1_12) rfl ?_
      refine bipushV X0.here hx rfl 65 (own_d hby d1_13) (by decide) ?_
      exact Steps.refl _)
    by_cases q65 : ¬ w < (65 : Int32) ∧ ¬ (90 : Int32) < w
    · skip
      have cc23 : Steps p.tables e below S0' (s₁.setTop (mkF m 71 #[.val (.int w)] [(.int 1)])) := Steps.trans cc22 (by
        refine XS.icmpNo X0.here hx rfl (own_d hby d1_15) rfl (ii_lt_f q65.1) ?_
        refine XS.iloadN X0.here hx rfl (own_d hby d1_18) rfl ?_
        refine bipushV X0.here hx rfl 90 (own_d hby d1_19) (by decide) ?_
        refine XS.icmpYes X0.here hx rfl (pc0 := 21) rfl (own_d hby d1_21) rfl (ii_le_t q65.2) (by decide) rfl ?_
        refine iconstV X0.here hx rfl 1 (own_d hby d1_66) (by decide) ?_
        refine XS.goto X0.here hx rfl (pc0 := 67) rfl (own_d hby d1_67) (by decide) rfl ?_
        exact Steps.refl _)
      have cE := cc23
      rw [hS0'] at cE
      obtain ⟨fs, hr_, hrun, hended, hW, hsame⟩ := X0.leave (v := some (.int 1)) (fun h => by rw [Bd.returns] at h; cases h)
      refine ⟨_, _, cE.trans (X0.ireturnOut hx Bd.returns (rfl) (by simp) (own_d hby d1_71) hr_), hrun, hended, _, _, rfl, ?_, ⟨_, rfl⟩, hW, hsame.mono (by first | decide | omega) (by first | decide | omega)⟩
      show Q_own_alw Z w h0 n0 _ s₁.heap _
      rw [e0]
      exact ⟨rfl, N0, rfl⟩
    · skip
      have c_65 : Steps p.tables e below S0' (s₁.setTop (mkF m 24 #[.val (.int w)] [])) := by
        by_cases hq : w < (65 : Int32)
        · refine cc22.trans ?_
          refine XS.icmpYes X0.here hx rfl (pc0 := 15) rfl (own_d hby d1_15) rfl (ii_lt_t hq) (by decide) rfl ?_
          exact Steps.refl _
        · refine cc22.trans ?_
          refine XS.icmpNo X0.here hx rfl (own_d hby d1_15) rfl (ii_lt_f hq) ?_
          refine XS.iloadN X0.here hx rfl (own_d hby d1_18) rfl ?_
          refine bipushV X0.here hx rfl 90 (own_d hby d1_19) (by decide) ?_
          refine XS.icmpNo X0.here hx rfl (own_d hby d1_21) rfl (ii_le_f (Decidable.of_not_not fun z => q65 ⟨hq, z⟩)) ?_
          exact Steps.refl _
      have cc23 : Steps p.tables e below S0' (s₁.setTop (mkF m 27 #[.val (.int w)] [(.int 48), (.int w)])) := Steps.trans c_65 (by
        refine XS.iloadN X0.here hx rfl (own_d hby d1_24) rfl ?_
        refine bipushV X0.here hx rfl 48 (own_d hby d1_25) (by decide) ?_
        exact Steps.refl _)
      by_cases q48 : ¬ w < (48 : Int32) ∧ ¬ (57 : Int32) < w
      · skip
        have cc24 : Steps p.tables e below S0' (s₁.setTop (mkF m 71 #[.val (.int w)] [(.int 1)])) := Steps.trans cc23 (by
          refine XS.icmpNo X0.here hx rfl (own_d hby d1_27) rfl (ii_lt_f q48.1) ?_
          refine XS.iloadN X0.here hx rfl (own_d hby d1_30) rfl ?_
          refine bipushV X0.here hx rfl 57 (own_d hby d1_31) (by decide) ?_
          refine XS.icmpYes X0.here hx rfl (pc0 := 33) rfl (own_d hby d1_33) rfl (ii_le_t q48.2) (by decide) rfl ?_
          refine iconstV X0.here hx rfl 1 (own_d hby d1_66) (by decide) ?_
          refine XS.goto X0.here hx rfl (pc0 := 67) rfl (own_d hby d1_67) (by decide) rfl ?_
          exact Steps.refl _)
        have cE := cc24
        rw [hS0'] at cE
        obtain ⟨fs, hr_, hrun, hended, hW, hsame⟩ := X0.leave (v := some (.int 1)) (fun h => by rw [Bd.returns] at h; cases h)
        refine ⟨_, _, cE.trans (X0.ireturnOut hx Bd.returns (rfl) (by simp) (own_d hby d1_71) hr_), hrun, hended, _, _, rfl, ?_, ⟨_, rfl⟩, hW, hsame.mono (by first | decide | omega) (by first | decide | omega)⟩
        show Q_own_alw Z w h0 n0 _ s₁.heap _
        rw [e0]
        exact ⟨rfl, N0, rfl⟩
      · skip
        have c_48 : Steps p.tables e below S0' (s₁.setTop (mkF m 36 #[.val (.int w)] [])) := by
          by_cases hq : w < (48 : Int32)
          · refine cc23.trans ?_
            refine XS.icmpYes X0.here hx rfl (pc0 := 27) rfl (own_d hby d1_27) rfl (ii_lt_t hq) (by decide) rfl ?_
            exact Steps.refl _
          · refine cc23.trans ?_
            refine XS.icmpNo X0.here hx rfl (own_d hby d1_27) rfl (ii_lt_f hq) ?_
            refine XS.iloadN X0.here hx rfl (own_d hby d1_30) rfl ?_
            refine bipushV X0.here hx rfl 57 (own_d hby d1_31) (by decide) ?_
            refine XS.icmpNo X0.here hx rfl (own_d hby d1_33) rfl (ii_le_f (Decidable.of_not_not fun z => q48 ⟨hq, z⟩)) ?_
            exact Steps.refl _
        have cc24 : Steps p.tables e below S0' (s₁.setTop (mkF m 39 #[.val (.int w)] [(.int 46), (.int w)])) := Steps.trans c_48 (by
          refine XS.iloadN X0.here hx rfl (own_d hby d1_36) rfl ?_
          refine bipushV X0.here hx rfl 46 (own_d hby d1_37) (by decide) ?_
          exact Steps.refl _)
        by_cases e46 : w = (46 : Int32)
        · skip
          have cc25 : Steps p.tables e below S0' (s₁.setTop (mkF m 71 #[.val (.int w)] [(.int 1)])) := Steps.trans cc24 (by
            refine XS.icmpYes X0.here hx rfl (pc0 := 39) rfl (own_d hby d1_39) rfl (ii_eq_t e46) (by decide) rfl ?_
            refine iconstV X0.here hx rfl 1 (own_d hby d1_66) (by decide) ?_
            refine XS.goto X0.here hx rfl (pc0 := 67) rfl (own_d hby d1_67) (by decide) rfl ?_
            exact Steps.refl _)
          have cE := cc25
          rw [hS0'] at cE
          obtain ⟨fs, hr_, hrun, hended, hW, hsame⟩ := X0.leave (v := some (.int 1)) (fun h => by rw [Bd.returns] at h; cases h)
          refine ⟨_, _, cE.trans (X0.ireturnOut hx Bd.returns (rfl) (by simp) (own_d hby d1_71) hr_), hrun, hended, _, _, rfl, ?_, ⟨_, rfl⟩, hW, hsame.mono (by first | decide | omega) (by first | decide | omega)⟩
          show Q_own_alw Z w h0 n0 _ s₁.heap _
          rw [e0]
          exact ⟨rfl, N0, rfl⟩
        · skip
          have cc25 : Steps p.tables e below S0' (s₁.setTop (mkF m 45 #[.val (.int w)] [(.int 95), (.int w)])) := Steps.trans cc24 (by
            refine XS.icmpNo X0.here hx rfl (own_d hby d1_39) rfl (ii_eq_f e46) ?_
            refine XS.iloadN X0.here hx rfl (own_d hby d1_42) rfl ?_
            refine bipushV X0.here hx rfl 95 (own_d hby d1_43) (by decide) ?_
            exact Steps.refl _)
          by_cases e95 : w = (95 : Int32)
          · skip
            have cc26 : Steps p.tables e below S0' (s₁.setTop (mkF m 71 #[.val (.int w)] [(.int 1)])) := Steps.trans cc25 (by
              refine XS.icmpYes X0.here hx rfl (pc0 := 45) rfl (own_d hby d1_45) rfl (ii_eq_t e95) (by decide) rfl ?_
              refine iconstV X0.here hx rfl 1 (own_d hby d1_66) (by decide) ?_
              refine XS.goto X0.here hx rfl (pc0 := 67) rfl (own_d hby d1_67) (by decide) rfl ?_
              exact Steps.refl _)
            have cE := cc26
            rw [hS0'] at cE
            obtain ⟨fs, hr_, hrun, hended, hW, hsame⟩ := X0.leave (v := some (.int 1)) (fun h => by rw [Bd.returns] at h; cases h)
            refine ⟨_, _, cE.trans (X0.ireturnOut hx Bd.returns (rfl) (by simp) (own_d hby d1_71) hr_), hrun, hended, _, _, rfl, ?_, ⟨_, rfl⟩, hW, hsame.mono (by first | decide | omega) (by first | decide | omega)⟩
            show Q_own_alw Z w h0 n0 _ s₁.heap _
            rw [e0]
            exact ⟨rfl, N0, rfl⟩
          · skip
            have cc26 : Steps p.tables e below S0' (s₁.setTop (mkF m 51 #[.val (.int w)] [(.int 45), (.int w)])) := Steps.trans cc25 (by
              refine XS.icmpNo X0.here hx rfl (own_d hby d1_45) rfl (ii_eq_f e95) ?_
              refine XS.iloadN X0.here hx rfl (own_d hby d1_48) rfl ?_
              refine bipushV X0.here hx rfl 45 (own_d hby d1_49) (by decide) ?_
              exact Steps.refl _)
            by_cases e45 : w = (45 : Int32)
            · skip
              have cc27 : Steps p.tables e below S0' (s₁.setTop (mkF m 71 #[.val (.int w)] [(.int 1)])) := Steps.trans cc26 (by
                refine XS.icmpYes X0.here hx rfl (pc0 := 51) rfl (own_d hby d1_51) rfl (ii_eq_t e45) (by decide) rfl ?_
                refine iconstV X0.here hx rfl 1 (own_d hby d1_66) (by decide) ?_
                refine XS.goto X0.here hx rfl (pc0 := 67) rfl (own_d hby d1_67) (by decide) rfl ?_
                exact Steps.refl _)
              have cE := cc27
              rw [hS0'] at cE
              obtain ⟨fs, hr_, hrun, hended, hW, hsame⟩ := X0.leave (v := some (.int 1)) (fun h => by rw [Bd.returns] at h; cases h)
              refine ⟨_, _, cE.trans (X0.ireturnOut hx Bd.returns (rfl) (by simp) (own_d hby d1_71) hr_), hrun, hended, _, _, rfl, ?_, ⟨_, rfl⟩, hW, hsame.mono (by first | decide | omega) (by first | decide | omega)⟩
              show Q_own_alw Z w h0 n0 _ s₁.heap _
              rw [e0]
              exact ⟨rfl, N0, rfl⟩
            · skip
              have cc27 : Steps p.tables e below S0' (s₁.setTop (mkF m 57 #[.val (.int w)] [(.int 58), (.int w)])) := Steps.trans cc26 (by
                refine XS.icmpNo X0.here hx rfl (own_d hby d1_51) rfl (ii_eq_f e45) ?_
                refine XS.iloadN X0.here hx rfl (own_d hby d1_54) rfl ?_
                refine bipushV X0.here hx rfl 58 (own_d hby d1_55) (by decide) ?_
                exact Steps.refl _)
              by_cases e58 : w = (58 : Int32)
              · skip
                have cc28 : Steps p.tables e below S0' (s₁.setTop (mkF m 71 #[.val (.int w)] [(.int 1)])) := Steps.trans cc27 (by
                  refine XS.icmpYes X0.here hx rfl (pc0 := 57) rfl (own_d hby d1_57) rfl (ii_eq_t e58) (by decide) rfl ?_
                  refine iconstV X0.here hx rfl 1 (own_d hby d1_66) (by decide) ?_
                  refine XS.goto X0.here hx rfl (pc0 := 67) rfl (own_d hby d1_67) (by decide) rfl ?_
                  exact Steps.refl _)
                have cE := cc28
                rw [hS0'] at cE
                obtain ⟨fs, hr_, hrun, hended, hW, hsame⟩ := X0.leave (v := some (.int 1)) (fun h => by rw [Bd.returns] at h; cases h)
                refine ⟨_, _, cE.trans (X0.ireturnOut hx Bd.returns (rfl) (by simp) (own_d hby d1_71) hr_), hrun, hended, _, _, rfl, ?_, ⟨_, rfl⟩, hW, hsame.mono (by first | decide | omega) (by first | decide | omega)⟩
                show Q_own_alw Z w h0 n0 _ s₁.heap _
                rw [e0]
                exact ⟨rfl, N0, rfl⟩
              · skip
                have cc28 : Steps p.tables e below S0' (s₁.setTop (mkF m 63 #[.val (.int w)] [(.int 64), (.int w)])) := Steps.trans cc27 (by
                  refine XS.icmpNo X0.here hx rfl (own_d hby d1_57) rfl (ii_eq_f e58) ?_
                  refine XS.iloadN X0.here hx rfl (own_d hby d1_60) rfl ?_
                  refine bipushV X0.here hx rfl 64 (own_d hby d1_61) (by decide) ?_
                  exact Steps.refl _)
                have e64 : w = (64 : Int32) := by
                  rcases ok with q | q | q | q | q | q | q | q
                  · exact absurd q q97
                  · exact absurd q q65
                  · exact absurd q q48
                  · exact absurd q e46
                  · exact absurd q e95
                  · exact absurd q e45
                  · exact absurd q e58
                  · exact q
                have cc29 : Steps p.tables e below S0' (s₁.setTop (mkF m 71 #[.val (.int w)] [(.int 1)])) := Steps.trans cc28 (by
                  refine XS.icmpNo X0.here hx rfl (own_d hby d1_63) rfl (ii_ne_f e64) ?_
                  refine iconstV X0.here hx rfl 1 (own_d hby d1_66) (by decide) ?_
                  refine XS.goto X0.here hx rfl (pc0 := 67) rfl (own_d hby d1_67) (by decide) rfl ?_
                  exact Steps.refl _)
                have cE := cc29
                rw [hS0'] at cE
                obtain ⟨fs, hr_, hrun, hended, hW, hsame⟩ := X0.leave (v := some (.int 1)) (fun h => by rw [Bd.returns] at h; cases h)
                refine ⟨_, _, cE.trans (X0.ireturnOut hx Bd.returns (rfl) (by simp) (own_d hby d1_71) hr_), hrun, hended, _, _, rfl, ?_, ⟨_, rfl⟩, hW, hsame.mono (by first | decide | omega) (by first | decide | omega)⟩
                show Q_own_alw Z w h0 n0 _ s₁.heap _
                rw [e0]
                exact ⟨rfl, N0, rfl⟩
theorem d2_0 : decode jdk_30_method_1_code 0 = .ok (.aload_n 0, 1) := by decide +kernel
theorem d2_1 : decode jdk_30_method_1_code 1 = .ok (.invokespecial 1, 3) := by decide +kernel
theorem d2_4 : decode jdk_30_method_1_code 4 = .ok (.return_, 1) := by decide +kernel
def Q_own_rec (Z : State) (a : Addr) (h0 : Heap) (n0 : Nat) (v : Option Value) (h : Heap) (L : List Loc) : Prop := v = none ∧ Fr n0 L ∧ h = h0
set_option maxRecDepth 65536 in
set_option maxHeartbeats 40000000 in
theorem own_rec (l : Launch) (Z : State) (a0 : Array Value) (hw : ∀ d ∈ tables_1, d.before a0 Z = true) (a : Addr) (h0 : Heap) (n0 : Nat) (Z0 : n0 ≤ h0.size)  :
    MetFree l (⟨"java/lang/Record", "<init>", "()V"⟩ : MethodName) (head1 [Jvm.Cond.code (⟨"java/lang/Record", "<init>", "()V"⟩ : MethodName) jdk_30_method_1_code 1 none] ({ frames := 1, cells := 0, slots := 0, locals := 12 } : Room)) (fun a_ U_ => a_ = #[(.ref a)] ∧ Z.Warmed39 U_.vm ∧ U_.heap = h0) (fun _ _ _ _ _ => True) (fun _ U_ o_ V_ => ∃ v_ L_, o_ = .returned v_ ∧ Q_own_rec Z a h0 n0 v_ V_.heap L_ ∧ FrameEnd U_ o_ V_ L_ ({ frames := 1, cells := 0, slots := 0, locals := 12 } : Room).cells ({ frames := 1, cells := 0, slots := 0, locals := 12 } : Room).slots) := by
  refine MetFree.of_bodySF (plainFor_of_name own_pn2) hisR ?_
  intro p e s m args below meth c s₁ Bd hml0 hP hK
  obtain ⟨rfl, hZ, hh⟩ := hP
  have hx := Bd.exec
  have hby := Bd.bytes
  have hml : c.maxLocals = 1 := hml0
  have hown : s.vm.findClass "java/lang/Record" = some m.cls := findClass_of_methodNamed Bd.named
  have hnm := (name_of_methodNamed Bd.named Bd.method).1
  have X0 : Stand p l e ({ frames := 1, cells := 0, slots := 0, locals := 12 } : Room) s m #[(.ref a)] below meth c s₁ [] 0 0 := Stand.of_body Bd
  have e0 : s₁.heap = h0 := by rw [← hh, Bd.state]; rfl
  have N0 := Fr.nil n0
  have KK0 := Keep.refl h0 ([] : List Addr)
  have cc0 : Steps p.tables e below (s₁.setTop (entryFrame m #[(.ref a)] 1)) (s₁.setTop (mkF m 0 #[.val (.ref a)] [])) := XT.entry rfl
  obtain ⟨S0', hS0'⟩ : ∃ S, S = (s₁.setTop (entryFrame m #[(.ref a)] 1)) := ⟨_, rfl⟩
  rw [← hS0'] at cc0
  have cc21 : Steps p.tables e below S0' (s₁.setTop (mkF m 1 #[.val (.ref a)] [(.ref a)])) := Steps.trans cc0 (by
    refine XS.aloadN X0.here hx rfl (own_d hby d2_0) rfl rfl ?_
    exact Steps.refl _)
  obtain ⟨T22, X22, e22, st22⟩ := initO X0 hx hZ hown (hw _ (List.mem_of_getElem? (i := 45) rfl)) (hw _ (List.mem_of_getElem? (i := 25) rfl)) (hw _ (List.mem_of_getElem? (i := 26) rfl)) e0 (g := (mkF m 1 #[.val (.ref a)] [(.ref a)])) rfl (by rw [hml]; rfl) rfl (own_d hby d2_1) (by decide) (W := 0) (by show 2 * 0 + _ ≤ _; exact Nat.le_of_eq rfl) (by decide)
  have cc23 : Steps p.tables e below S0' (T22.setTop (mkF m 4 #[.val (.ref a)] [])) := (cc21.trans (st22 _ (Steps.refl _)))
  have cE := cc23
  rw [hS0'] at cE
  obtain ⟨fs, hr_, hrun, hended, hW, hsame⟩ := X22.leave (v := none) (fun _ => rfl)
  refine ⟨_, _, cE.trans (X22.returnOut hx Bd.returns (own_d hby d2_4) hr_), hrun, hended, _, _, rfl, ?_, ⟨_, rfl⟩, hW, hsame.mono (by first | decide | omega) (by first | decide | omega)⟩
  show Q_own_rec Z a h0 n0 _ T22.heap _
  rw [e22]
  exact ⟨rfl, N0, rfl⟩
theorem d3_0 : decode jdk_31_method_11_code 0 = .ok (.aload_n 0, 1) := by decide +kernel
theorem d3_1 : decode jdk_31_method_11_code 1 = .ok (.ifnonnull 12, 3) := by decide +kernel
theorem d3_13 : decode jdk_31_method_11_code 13 = .ok (.aload_n 0, 1) := by decide +kernel
theorem d3_14 : decode jdk_31_method_11_code 14 = .ok (.areturn, 1) := by decide +kernel
def Q_own_nn (Z : State) (a m1 : Addr) (h0 : Heap) (n0 : Nat) (v : Option Value) (h : Heap) (L : List Loc) : Prop := v = some (.ref a) ∧ Fr n0 L ∧ h = h0
set_option maxRecDepth 65536 in
set_option maxHeartbeats 40000000 in
theorem own_nn (l : Launch) (Z : State) (a0 : Array Value) (hw : ∀ d ∈ tables_1, d.before a0 Z = true) (a m1 : Addr) (h0 : Heap) (n0 : Nat) (Z0 : n0 ≤ h0.size)  :
    MetFree l (⟨"java/util/Objects", "requireNonNull", "(Ljava/lang/Object;Ljava/lang/String;)Ljava/lang/Object;"⟩ : MethodName) (head1 [Jvm.Cond.code (⟨"java/util/Objects", "requireNonNull", "(Ljava/lang/Object;Ljava/lang/String;)Ljava/lang/Object;"⟩ : MethodName) jdk_31_method_11_code 2 (some (.object "java/lang/Object"))] ({ frames := 0, cells := 0, slots := 0, locals := 0 } : Room)) (fun a_ U_ => a_ = #[(.ref a), (.ref m1)] ∧ Z.Warmed39 U_.vm ∧ U_.heap = h0) (fun _ _ _ _ _ => True) (fun _ U_ o_ V_ => ∃ v_ L_, o_ = .returned v_ ∧ Q_own_nn Z a m1 h0 n0 v_ V_.heap L_ ∧ FrameEnd U_ o_ V_ L_ ({ frames := 0, cells := 0, slots := 0, locals := 0 } : Room).cells ({ frames := 0, cells := 0, slots := 0, locals := 0 } : Room).slots) := by
  refine MetFree.of_bodySF (plainFor_of_name own_pn3) hisR ?_
  intro p e s m args below meth c s₁ Bd hml0 hP hK
  obtain ⟨rfl, hZ, hh⟩ := hP
  have hx := Bd.exec
  have hby := Bd.bytes
  have hml : c.maxLocals = 2 := hml0
  have hown : s.vm.findClass "java/util/Objects" = some m.cls := findClass_of_methodNamed Bd.named
  have hnm := (name_of_methodNamed Bd.named Bd.method).1
  have X0 : Stand p l e ({ frames := 0, cells := 0, slots := 0, locals := 0 } : Room) s m #[(.ref a), (.ref m1)] below meth c s₁ [] 0 0 := Stand.of_body Bd
  have e0 : s₁.heap = h0 := by rw [← hh, Bd.state]; rfl
  have N0 := Fr.nil n0
  have KK0 := Keep.refl h0 ([] : List Addr)
  have cc0 : Steps p.tables e below (s₁.setTop (entryFrame m #[(.ref a), (.ref m1)] 2)) (s₁.setTop (mkF m 0 #[.val (.ref a), .val (.ref m1)] [])) := XT.entry rfl
  obtain ⟨S0', hS0'⟩ : ∃ S, S = (s₁.setTop (entryFrame m #[(.ref a), (.ref m1)] 2)) := ⟨_, rfl⟩
  rw [← hS0'] at cc0
  have cc21 : Steps p.tables e below S0' (s₁.setTop (mkF m 14 #[.val (.ref a), .val (.ref m1)] [(.ref a)])) := Steps.trans cc0 (by
    refine XS.aloadN X0.here hx rfl (own_d hby d3_0) rfl rfl ?_
    refine XT.ifnonnullYes X0.here hx rfl (pc0 := 1) rfl (own_d hby d3_1) rfl (by decide) rfl ?_
    refine XS.aloadN X0.here hx rfl (own_d hby d3_13) rfl rfl ?_
    exact Steps.refl _)
  have cE := cc21
  rw [hS0'] at cE
  obtain ⟨fs, hr_, hrun, hended, hW, hsame⟩ := X0.leave (v := some (.ref a)) (fun h => by rw [Bd.returns] at h; cases h)
  refine ⟨_, _, cE.trans (X0.areturnOut hx (rfl) Bd.returns rfl (own_d hby d3_14) hr_), hrun, hended, _, _, rfl, ?_, ⟨_, rfl⟩, hW, hsame.mono (by first | decide | omega) (by first | decide | omega)⟩
  show Q_own_nn Z a m1 h0 n0 _ s₁.heap _
  rw [e0]
  exact ⟨rfl, N0, rfl⟩
theorem d4_0 : decode prog_19_method_6_code 0 = .ok (.aload_n 0, 1) := by decide +kernel
theorem d4_1 : decode prog_19_method_6_code 1 = .ok (.getfield 76, 3) := by decide +kernel
theorem d4_4 : decode prog_19_method_6_code 4 = .ok (.areturn, 1) := by decide +kernel
def Q_own_val (Z : State) (a x : Addr) (h0 : Heap) (n0 : Nat) (v : Option Value) (h : Heap) (L : List Loc) : Prop := v = some (.ref x) ∧ Fr n0 L ∧ h = h0
set_option maxRecDepth 65536 in
set_option maxHeartbeats 40000000 in
theorem own_val (l : Launch) (Z : State) (a0 : Array Value) (hw : ∀ d ∈ tables_1, d.before a0 Z = true) (a x : Addr) (h0 : Heap) (n0 : Nat) (Z0 : n0 ≤ h0.size) (F : Fld Z h0 a "com/example/firm_roles/firmroles/Name" "value" "Ljava/lang/String;" (.ref x)) :
    MetFree l (⟨"com/example/firm_roles/firmroles/Name", "value", "()Ljava/lang/String;"⟩ : MethodName) (head1 [Jvm.Cond.code (⟨"com/example/firm_roles/firmroles/Name", "value", "()Ljava/lang/String;"⟩ : MethodName) prog_19_method_6_code 1 (some (.object "java/lang/String"))] ({ frames := 0, cells := 0, slots := 0, locals := 0 } : Room)) (fun a_ U_ => a_ = #[(.ref a)] ∧ Z.Warmed39 U_.vm ∧ U_.heap = h0) (fun _ _ _ _ _ => True) (fun _ U_ o_ V_ => ∃ v_ L_, o_ = .returned v_ ∧ Q_own_val Z a x h0 n0 v_ V_.heap L_ ∧ FrameEnd U_ o_ V_ L_ ({ frames := 0, cells := 0, slots := 0, locals := 0 } : Room).cells ({ frames := 0, cells := 0, slots := 0, locals := 0 } : Room).slots) := by
  refine MetFree.of_bodySF (plainFor_of_name own_pn1) hisR ?_
  intro p e s m args below meth c s₁ Bd hml0 hP hK
  obtain ⟨rfl, hZ, hh⟩ := hP
  have hx := Bd.exec
  have hby := Bd.bytes
  have hml : c.maxLocals = 1 := hml0
  have hown : s.vm.findClass "com/example/firm_roles/firmroles/Name" = some m.cls := findClass_of_methodNamed Bd.named
  have hnm := (name_of_methodNamed Bd.named Bd.method).1
  have X0 : Stand p l e ({ frames := 0, cells := 0, slots := 0, locals := 0 } : Room) s m #[(.ref a)] below meth c s₁ [] 0 0 := Stand.of_body Bd
  have e0 : s₁.heap = h0 := by rw [← hh, Bd.state]; rfl
  have N0 := Fr.nil n0
  have KK0 := Keep.refl h0 ([] : List Addr)
  have cc0 : Steps p.tables e below (s₁.setTop (entryFrame m #[(.ref a)] 1)) (s₁.setTop (mkF m 0 #[.val (.ref a)] [])) := XT.entry rfl
  obtain ⟨S0', hS0'⟩ : ∃ S, S = (s₁.setTop (entryFrame m #[(.ref a)] 1)) := ⟨_, rfl⟩
  rw [← hS0'] at cc0
  have cc21 : Steps p.tables e below S0' (s₁.setTop (mkF m 1 #[.val (.ref a)] [(.ref a)])) := Steps.trans cc0 (by
    refine XS.aloadN X0.here hx rfl (own_d hby d4_0) rfl rfl ?_
    exact Steps.refl _)
  obtain ⟨T22, X22, e22, st22⟩ := getF X0 hx hZ hown (host := "") (Or.inl (hw _ (List.mem_of_getElem? (i := 92) rfl))) Via.refl e0 F (g := (mkF m 1 #[.val (.ref a)] [(.ref a)])) rfl rfl (own_d hby d4_1)
  have cc23 : Steps p.tables e below S0' (T22.setTop (mkF m 4 #[.val (.ref a)] [(.ref x)])) := (cc21.trans (st22 _ (Steps.refl _)))
  have cE := cc23
  rw [hS0'] at cE
  obtain ⟨fs, hr_, hrun, hended, hW, hsame⟩ := X22.leave (v := some (.ref x)) (fun h => by rw [Bd.returns] at h; cases h)
  refine ⟨_, _, cE.trans (X22.areturnOut hx (rfl) Bd.returns rfl (own_d hby d4_4) hr_), hrun, hended, _, _, rfl, ?_, ⟨_, rfl⟩, hW, hsame.mono (by first | decide | omega) (by first | decide | omega)⟩
  show Q_own_val Z a x h0 n0 _ T22.heap _
  rw [e22]
  exact ⟨rfl, N0, rfl⟩
theorem d5_0 : decode jdk_43_method_3_code 0 = .ok (.iload_n 0, 1) := by decide +kernel
theorem d5_1 : decode jdk_43_method_3_code 1 = .ok (.sipush 255, 3) := by decide +kernel
theorem d5_4 : decode jdk_43_method_3_code 4 = .ok (.if_icmp .gt 7, 3) := by decide +kernel
theorem d5_7 : decode jdk_43_method_3_code 7 = .ok (.iconst 1, 1) := by decide +kernel
theorem d5_8 : decode jdk_43_method_3_code 8 = .ok (.goto 4, 3) := by decide +kernel
theorem d5_12 : decode jdk_43_method_3_code 12 = .ok (.ireturn, 1) := by decide +kernel
def Q_own_ce (Z : State) (w : Int32) (h0 : Heap) (n0 : Nat) (v : Option Value) (h : Heap) (L : List Loc) : Prop := v = some (.int 1) ∧ Fr n0 L ∧ h = h0
set_option maxRecDepth 65536 in
set_option maxHeartbeats 40000000 in
theorem own_ce (l : Launch) (Z : State) (a0 : Array Value) (hw : ∀ d ∈ tables_1, d.before a0 Z = true) (w : Int32) (h0 : Heap) (n0 : Nat) (Z0 : n0 ≤ h0.size) (h1 : ¬ (255 : Int32) < w) :
    MetFree l (⟨"java/lang/StringLatin1", "canEncode", "(C)Z"⟩ : MethodName) (head1 [Jvm.Cond.code (⟨"java/lang/StringLatin1", "canEncode", "(C)Z"⟩ : MethodName) jdk_43_method_3_code 1 (some .boolean)] ({ frames := 0, cells := 0, slots := 0, locals := 0 } : Room)) (fun a_ U_ => a_ = #[(.int w)] ∧ Z.Warmed39 U_.vm ∧ U_.heap = h0) (fun _ _ _ _ _ => True) (fun _ U_ o_ V_ => ∃ v_ L_, o_ = .returned v_ ∧ Q_own_ce Z w h0 n0 v_ V_.heap L_ ∧ FrameEnd U_ o_ V_ L_ ({ frames := 0, cells := 0, slots := 0, locals := 0 } : Room).cells ({ frames := 0, cells := 0, slots := 0, locals := 0 } : Room).slots) := by
  refine MetFree.of_bodySF (plainFor_of_name own_pn4) hisR ?_
  intro p e s m args below meth c s₁ Bd hml0 hP hK
  obtain ⟨rfl, hZ, hh⟩ := hP
  have hx := Bd.exec
  have hby := Bd.bytes
  have hml : c.maxLocals = 1 := hml0
  have hown : s.vm.findClass "java/lang/StringLatin1" = some m.cls := findClass_of_methodNamed Bd.named
  have hnm := (name_of_methodNamed Bd.named Bd.method).1
  have X0 : Stand p l e ({ frames := 0, cells := 0, slots := 0, locals := 0 } : Room) s m #[(.int w)] below meth c s₁ [] 0 0 := Stand.of_body Bd
  have e0 : s₁.heap = h0 := by rw [← hh, Bd.state]; rfl
  have N0 := Fr.nil n0
  have KK0 := Keep.refl h0 ([] : List Addr)
  have cc0 : Steps p.tables e below (s₁.setTop (entryFrame m #[(.int w)] 1)) (s₁.setTop (mkF m 0 #[.val (.int w)] [])) := XT.entry rfl
  obtain ⟨S0', hS0'⟩ : ∃ S, S = (s₁.setTop (entryFrame m #[(.int w)] 1)) := ⟨_, rfl⟩
  rw [← hS0'] at cc0
  have cc21 : Steps p.tables e below S0' (s₁.setTop (mkF m 12 #[.val (.int w)] [(.int 1)])) := Steps.trans cc0 (by
    refine XS.iloadN X0.here hx rfl (own_d hby d5_0) rfl ?_
    refine sipushV X0.here hx rfl 255 (own_d hby d5_1) (by decide) ?_
    refine XS.icmpNo X0.here hx rfl (own_d hby d5_4) rfl (ii_gt_f h1) ?_
    refine iconstV X0.here hx rfl 1 (own_d hby d5_7) (by decide) ?_
    refine XS.goto X0.here hx rfl (pc0 := 8) rfl (own_d hby d5_8) (by decide) rfl ?_
    exact Steps.refl _)
  have cE := cc21
  rw [hS0'] at cE
  obtain ⟨fs, hr_, hrun, hended, hW, hsame⟩ := X0.leave (v := some (.int 1)) (fun h => by rw [Bd.returns] at h; cases h)
  refine ⟨_, _, cE.trans (X0.ireturnOut hx Bd.returns (rfl) (by simp) (own_d hby d5_12) hr_), hrun, hended, _, _, rfl, ?_, ⟨_, rfl⟩, hW, hsame.mono (by first | decide | omega) (by first | decide | omega)⟩
  show Q_own_ce Z w h0 n0 _ s₁.heap _
  rw [e0]
  exact ⟨rfl, N0, rfl⟩
theorem d6_0 : decode jdk_43_method_46_code 0 = .ok (.iconst 1, 1) := by decide +kernel
theorem d6_1 : decode jdk_43_method_46_code 1 = .ok (.newarray .byte, 2) := by decide +kernel
theorem d6_3 : decode jdk_43_method_46_code 3 = .ok (.dup, 1) := by decide +kernel
theorem d6_4 : decode jdk_43_method_46_code 4 = .ok (.iconst 0, 1) := by decide +kernel
theorem d6_5 : decode jdk_43_method_46_code 5 = .ok (.iload_n 0, 1) := by decide +kernel
theorem d6_6 : decode jdk_43_method_46_code 6 = .ok (.i2b, 1) := by decide +kernel
theorem d6_7 : decode jdk_43_method_46_code 7 = .ok (.bastore, 1) := by decide +kernel
theorem d6_8 : decode jdk_43_method_46_code 8 = .ok (.areturn, 1) := by decide +kernel
def Q_own_tb1 (Z : State) (w : Int32) (h0 : Heap) (n0 : Nat) (v : Option Value) (h : Heap) (L : List Loc) : Prop := ∃ (t : Addr) (kt : ClassId), v = some (.ref t) ∧ Fr n0 L ∧ Keep h0 h [] ∧ h0.size ≤ t ∧ Arv Z h t kt .byte (1 : Int32) (own_by [w]) (.int (0 : Int32))
set_option maxRecDepth 65536 in
set_option maxHeartbeats 40000000 in
theorem own_tb1 (l : Launch) (Z : State) (a0 : Array Value) (hw : ∀ d ∈ tables_1, d.before a0 Z = true) (w : Int32) (h0 : Heap) (n0 : Nat) (Z0 : n0 ≤ h0.size)  :
    MetFree l (⟨"java/lang/StringLatin1", "toBytes", "(C)[B"⟩ : MethodName) (head1 [Jvm.Cond.code (⟨"java/lang/StringLatin1", "toBytes", "(C)[B"⟩ : MethodName) jdk_43_method_46_code 1 (some (.array .byte))] ({ frames := 0, cells := 1, slots := 1, locals := 0 } : Room)) (fun a_ U_ => a_ = #[(.int w)] ∧ Z.Warmed39 U_.vm ∧ U_.heap = h0) (fun _ _ _ _ _ => True) (fun _ U_ o_ V_ => ∃ v_ L_, o_ = .returned v_ ∧ Q_own_tb1 Z w h0 n0 v_ V_.heap L_ ∧ FrameEnd U_ o_ V_ L_ ({ frames := 0, cells := 1, slots := 1, locals := 0 } : Room).cells ({ frames := 0, cells := 1, slots := 1, locals := 0 } : Room).slots) := by
  refine MetFree.of_bodySF (plainFor_of_name own_pn4) hisR ?_
  intro p e s m args below meth c s₁ Bd hml0 hP hK
  obtain ⟨rfl, hZ, hh⟩ := hP
  have hx := Bd.exec
  have hby := Bd.bytes
  have hml : c.maxLocals = 1 := hml0
  have hown : s.vm.findClass "java/lang/StringLatin1" = some m.cls := findClass_of_methodNamed Bd.named
  have hnm := (name_of_methodNamed Bd.named Bd.method).1
  have X0 : Stand p l e ({ frames := 0, cells := 1, slots := 1, locals := 0 } : Room) s m #[(.int w)] below meth c s₁ [] 0 0 := Stand.of_body Bd
  have e0 : s₁.heap = h0 := by rw [← hh, Bd.state]; rfl
  have N0 := Fr.nil n0
  have KK0 := Keep.refl h0 ([] : List Addr)
  have cc0 : Steps p.tables e below (s₁.setTop (entryFrame m #[(.int w)] 1)) (s₁.setTop (mkF m 0 #[.val (.int w)] [])) := XT.entry rfl
  obtain ⟨S0', hS0'⟩ : ∃ S, S = (s₁.setTop (entryFrame m #[(.int w)] 1)) := ⟨_, rfl⟩
  rw [← hS0'] at cc0
  have cc21 : Steps p.tables e below S0' (s₁.setTop (mkF m 1 #[.val (.int w)] [(.int 1)])) := Steps.trans cc0 (by
    refine iconstV X0.here hx rfl 1 (own_d hby d6_0) (by decide) ?_
    exact Steps.refl _)
  obtain ⟨T22, h22, k22, X22, e22, E22, A22, st22⟩ := newP X0 hx hZ (aty := .byte) (hw _ (List.mem_of_getElem? (i := 19) rfl)) e0 (g := (mkF m 1 #[.val (.int w)] [(.int 1)])) rfl (own_d hby d6_1) rfl (by decide) (cap := 1) (by decide) (by decide) (by decide) (by decide)
  obtain ⟨t, g_t⟩ : ∃ z, z = h0.size := ⟨_, rfl⟩
  rw [← g_t] at A22 st22
  have K22 := (Keep.refl h0 ([] : List Addr)).ext E22
  have b_t : h0.size ≤ t := (Nat.le_of_eq g_t.symm)
  have gn_t : n0 ≤ t := Nat.le_trans Z0 b_t
  have s0_t : h0.size ≤ t := Nat.le_trans KK0.1 b_t
  have KK1 : Keep h0 h22 ([] : List Addr) := KK0.trans K22 all0
  have Zs1 : n0 ≤ h22.size := Nat.le_trans Z0 K22.1
  have V_t : Arv Z h22 t k22 .byte (1 : Int32) [(.int (0 : Int32))] (.int (0 : Int32)) := (Arv.new A22 (by decide)).pad (pad_rep [] (.int (0 : Int32)) 1)
  have cc23 : Steps p.tables e below S0' (T22.setTop (mkF m 7 #[.val (.int w)] [(.int w.toInt8.toInt32), (.int 0), (.ref t), (.ref t)])) := Steps.trans (cc21.trans (st22 _ (Steps.refl _))) (by
    refine XS.dup X22.here hx rfl (own_d hby d6_3) rfl rfl ?_
    refine iconstV X22.here hx rfl 0 (own_d hby d6_4) (by decide) ?_
    refine XS.iloadN X22.here hx rfl (own_d hby d6_5) rfl ?_
    refine XT.i2b X22.here hx rfl (own_d hby d6_6) rfl ?_
    exact Steps.refl _)
  obtain ⟨clu24, Aru24, qu24, Su24, Ngu24, Hsu24, Gsu24⟩ := id V_t
  have inu24 : ¬ ((0 : Int32) < 0 ∨ clu24.slots.size ≤ (0 : Int32).toNatClampNeg) := inb_of Su24 ⟨by decide, by decide⟩
  obtain ⟨T25, h25, X25, e25, W25, st25⟩ := stB X22 hx hZ e22 Aru24 (j := (0 : Int32)) inu24 (g := (mkF m 7 #[.val (.int w)] [(.int w.toInt8.toInt32), (.int 0), (.ref t), (.ref t)])) rfl rfl (own_d hby d6_7)
  have K25 := Keep.of_wr W25
  have N25 := Fr.snoc X25 N0 gn_t
  have KK2 : Keep h0 h25 ([] : List Addr) := KK1.trans K25 (allS (Or.inr s0_t) all0)
  have Zs2 : n0 ≤ h25.size := Nat.le_trans Zs1 K25.1
  have V25 : Arv Z h25 t k22 .byte (1 : Int32) ([(.int (nar .byte w.toInt8.toInt32))]) (.int (0 : Int32)) := Arv.set Aru24 qu24 Su24 Ngu24 Hsu24 Gsu24 (fits_nar_byte _) W25 0 rfl (Nat.le_of_ble_eq_true rfl)
  have cc26 : Steps p.tables e below S0' (T25.setTop (mkF m 8 #[.val (.int w)] [(.ref t)])) := (cc23.trans (st25 _ (Steps.refl _)))
  have cE := cc26
  rw [hS0'] at cE
  obtain ⟨fs, hr_, hrun, hended, hW, hsame⟩ := X25.leave (v := some (.ref t)) (fun h => by rw [Bd.returns] at h; cases h)
  refine ⟨_, _, cE.trans (X25.areturnOut hx (rfl) Bd.returns rfl (own_d hby d6_8) hr_), hrun, hended, _, _, rfl, ?_, ⟨_, rfl⟩, hW, hsame.mono (by first | decide | omega) (by first | decide | omega)⟩
  show Q_own_tb1 Z w h0 n0 _ T25.heap _
  rw [e25]
  exact ⟨t, _, rfl, N25, KK2, s0_t, own_arv_eq V25 (by simp [nar, own_by])⟩
theorem d7_0 : decode jdk_42_method_151_code 0 = .ok (.aload_n 0, 1) := by decide +kernel
theorem d7_1 : decode jdk_42_method_151_code 1 = .ok (.invokespecial 1, 3) := by decide +kernel
theorem d7_4 : decode jdk_42_method_151_code 4 = .ok (.aload_n 0, 1) := by decide +kernel
theorem d7_5 : decode jdk_42_method_151_code 5 = .ok (.aload_n 1, 1) := by decide +kernel
theorem d7_6 : decode jdk_42_method_151_code 6 = .ok (.putfield 9, 3) := by decide +kernel
theorem d7_9 : decode jdk_42_method_151_code 9 = .ok (.aload_n 0, 1) := by decide +kernel
theorem d7_10 : decode jdk_42_method_151_code 10 = .ok (.iload_n 2, 1) := by decide +kernel
theorem d7_11 : decode jdk_42_method_151_code 11 = .ok (.putfield 15, 3) := by decide +kernel
theorem d7_14 : decode jdk_42_method_151_code 14 = .ok (.return_, 1) := by decide +kernel
def Q_own_ibb (Z : State) (x t : Addr) (h0 : Heap) (n0 : Nat) (v : Option Value) (h : Heap) (L : List Loc) : Prop := v = none ∧ Fr n0 L ∧ Keep h0 h [x] ∧ Exa Z h x "java/lang/String" ∧ Fld Z h x "java/lang/String" "coder" "B" (.int (0 : Int32)) ∧ Fld Z h x "java/lang/String" "value" "[B" (.ref t)
set_option maxRecDepth 65536 in
set_option maxHeartbeats 40000000 in
theorem own_ibb (l : Launch) (Z : State) (a0 : Array Value) (hw : ∀ d ∈ tables_1, d.before a0 Z = true) (x t : Addr) (h0 : Heap) (n0 : Nat) (Z0 : n0 ≤ h0.size) (E : Exa Z h0 x "java/lang/String") (V : Fld Z h0 x "java/lang/String" "value" "[B" .null) (C : Fld Z h0 x "java/lang/String" "coder" "B" (.int (0 : Int32))) (gx : n0 ≤ x) :
    MetFree l (⟨"java/lang/String", "<init>", "([BB)V"⟩ : MethodName) (head1 [Jvm.Cond.code (⟨"java/lang/String", "<init>", "([BB)V"⟩ : MethodName) jdk_42_method_151_code 3 none] ({ frames := 1, cells := 0, slots := 0, locals := 12 } : Room)) (fun a_ U_ => a_ = #[(.ref x), (.ref t), (.int 0)] ∧ Z.Warmed39 U_.vm ∧ U_.heap = h0) (fun _ _ _ _ _ => True) (fun _ U_ o_ V_ => ∃ v_ L_, o_ = .returned v_ ∧ Q_own_ibb Z x t h0 n0 v_ V_.heap L_ ∧ FrameEnd U_ o_ V_ L_ ({ frames := 1, cells := 0, slots := 0, locals := 12 } : Room).cells ({ frames := 1, cells := 0, slots := 0, locals := 12 } : Room).slots) := by
  refine MetFree.of_bodySF (plainFor_of_name own_pn5) hisR ?_
  intro p e s m args below meth c s₁ Bd hml0 hP hK
  obtain ⟨rfl, hZ, hh⟩ := hP
  have hx := Bd.exec
  have hby := Bd.bytes
  have hml : c.maxLocals = 3 := hml0
  have hown : s.vm.findClass "java/lang/String" = some m.cls := findClass_of_methodNamed Bd.named
  have hnm := (name_of_methodNamed Bd.named Bd.method).1
  have X0 : Stand p l e ({ frames := 1, cells := 0, slots := 0, locals := 12 } : Room) s m #[(.ref x), (.ref t), (.int 0)] below meth c s₁ [] 0 0 := Stand.of_body Bd
  have e0 : s₁.heap = h0 := by rw [← hh, Bd.state]; rfl
  have N0 := Fr.nil n0
  have KK0 := Keep.refl h0 [x]
  have cc0 : Steps p.tables e below (s₁.setTop (entryFrame m #[(.ref x), (.ref t), (.int 0)] 3)) (s₁.setTop (mkF m 0 #[.val (.ref x), .val (.ref t), .val (.int 0)] [])) := XT.entry rfl
  obtain ⟨S0', hS0'⟩ : ∃ S, S = (s₁.setTop (entryFrame m #[(.ref x), (.ref t), (.int 0)] 3)) := ⟨_, rfl⟩
  rw [← hS0'] at cc0
  have w_15 := hw _ (List.mem_of_getElem? (i := 15) rfl)
  have w_28 := hw _ (List.mem_of_getElem? (i := 28) rfl)
  have w_30 := hw _ (List.mem_of_getElem? (i := 30) rfl)
  have cc21 : Steps p.tables e below S0' (s₁.setTop (mkF m 1 #[.val (.ref x), .val (.ref t), .val (.int 0)] [(.ref x)])) := Steps.trans cc0 (by
    refine XS.aloadN X0.here hx rfl (own_d hby d7_0) rfl rfl ?_
    exact Steps.refl _)
  obtain ⟨T22, X22, e22, st22⟩ := initO X0 hx hZ hown (hw _ (List.mem_of_getElem? (i := 24) rfl)) (hw _ (List.mem_of_getElem? (i := 25) rfl)) (hw _ (List.mem_of_getElem? (i := 26) rfl)) e0 (g := (mkF m 1 #[.val (.ref x), .val (.ref t), .val (.int 0)] [(.ref x)])) rfl (by rw [hml]; rfl) rfl (own_d hby d7_1) (by decide) (W := 0) (by show 2 * 0 + _ ≤ _; exact Nat.le_of_eq rfl) (by decide)
  have cc23 : Steps p.tables e below S0' (T22.setTop (mkF m 6 #[.val (.ref x), .val (.ref t), .val (.int 0)] [(.ref t), (.ref x)])) := Steps.trans (cc21.trans (st22 _ (Steps.refl _))) (by
    refine XS.aloadN X22.here hx rfl (own_d hby d7_4) rfl rfl ?_
    refine XS.aloadN X22.here hx rfl (own_d hby d7_5) rfl rfl ?_
    exact Steps.refl _)
  obtain ⟨T24, h24, X24, e24, W24, st24⟩ := putF X22 hx hZ hown (host := "") (Or.inl (hw _ (List.mem_of_getElem? (i := 27) rfl))) Via.refl e22 V E (Or.inr ⟨w_28, rfl, hnm⟩) w_15 (ty := (.array .byte)) (by decide) rfl rfl (g := (mkF m 6 #[.val (.ref x), .val (.ref t), .val (.int 0)] [(.ref t), (.ref x)])) rfl rfl (own_d hby d7_6)
  have K24 := Keep.of_wr W24
  have N24 := Fr.snoc X24 N0 gx
  have KK1 : Keep h0 h24 [x] := KK0.trans K24 (allS (Or.inl (List.mem_of_getElem? (i := 0) rfl)) all0)
  have Zs1 : n0 ≤ h24.size := Nat.le_trans Z0 K24.1
  have cc26 : Steps p.tables e below S0' (T24.setTop (mkF m 11 #[.val (.ref x), .val (.ref t), .val (.int 0)] [(.int 0), (.ref x)])) := Steps.trans (cc23.trans (st24 _ (Steps.refl _))) (by
    refine XS.aloadN X24.here hx rfl (own_d hby d7_9) rfl rfl ?_
    refine XS.iloadN X24.here hx rfl (own_d hby d7_10) rfl ?_
    exact Steps.refl _)
  have fa25 : Fld Z h24 x "java/lang/String" "coder" "B" (.int (0 : Int32)) := (C.other W24 (Or.inr (slot_ne (Or.inr w_30) (Or.inr w_28) (by decide) (t := .byte) (t' := (.array .byte)) (by decide) (by decide))))
  have fa27 : Exa Z h24 x "java/lang/String" := (E.keep K24)
  obtain ⟨T28, h28, X28, e28, W28, st28⟩ := putFN X24 hx hZ hown (hw _ (List.mem_of_getElem? (i := 29) rfl)) Via.refl e24 fa25 fa27 (Or.inr ⟨w_30, rfl, hnm⟩) w_15 (ty := .byte) (v' := (.int (0 : Int32))) (by decide) rfl rfl (g := (mkF m 11 #[.val (.ref x), .val (.ref t), .val (.int 0)] [(.int 0), (.ref x)])) rfl rfl (own_d hby d7_11)
  have K28 := Keep.of_wr W28
  have N28 := Fr.snoc X28 N24 gx
  have KK2 : Keep h0 h28 [x] := KK1.trans K28 (allS (Or.inl (List.mem_of_getElem? (i := 0) rfl)) all0)
  have Zs2 : n0 ≤ h28.size := Nat.le_trans Zs1 K28.1
  have cc30 : Steps p.tables e below S0' (T28.setTop (mkF m 14 #[.val (.ref x), .val (.ref t), .val (.int 0)] [])) := (cc26.trans (st28 _ (Steps.refl _)))
  have fa29 : Exa Z h28 x "java/lang/String" := (fa27.keep K28)
  have fa31 : Fld Z h28 x "java/lang/String" "value" "[B" (.ref t) := ((Fld.same W24 V).other W28 (Or.inr (slot_ne (Or.inr w_28) (Or.inr w_30) (by decide) (t := (.array .byte)) (t' := .byte) (by decide) (by decide))))
  have cE := cc30
  rw [hS0'] at cE
  obtain ⟨fs, hr_, hrun, hended, hW, hsame⟩ := X28.leave (v := none) (fun _ => rfl)
  refine ⟨_, _, cE.trans (X28.returnOut hx Bd.returns (own_d hby d7_14) hr_), hrun, hended, _, _, rfl, ?_, ⟨_, rfl⟩, hW, hsame.mono (by first | decide | omega) (by first | decide | omega)⟩
  show Q_own_ibb Z x t h0 n0 _ T28.heap _
  rw [e28]
  exact ⟨rfl, N28, KK2, fa29, (Fld.same W28 fa25), fa31⟩
theorem d8_0 : decode jdk_42_method_139_code 0 = .ok (.getstatic 38, 3) := by decide +kernel
theorem d8_3 : decode jdk_42_method_139_code 3 = .ok (.ifCond .eq 23, 3) := by decide +kernel
theorem d8_6 : decode jdk_42_method_139_code 6 = .ok (.iload_n 0, 1) := by decide +kernel
theorem d8_7 : decode jdk_42_method_139_code 7 = .ok (.invokestatic 1015, 3) := by decide +kernel
theorem d8_10 : decode jdk_42_method_139_code 10 = .ok (.ifCond .eq 16, 3) := by decide +kernel
theorem d8_13 : decode jdk_42_method_139_code 13 = .ok (.new 10, 3) := by decide +kernel
theorem d8_16 : decode jdk_42_method_139_code 16 = .ok (.dup, 1) := by decide +kernel
theorem d8_17 : decode jdk_42_method_139_code 17 = .ok (.iload_n 0, 1) := by decide +kernel
theorem d8_18 : decode jdk_42_method_139_code 18 = .ok (.invokestatic 1018, 3) := by decide +kernel
theorem d8_21 : decode jdk_42_method_139_code 21 = .ok (.iconst 0, 1) := by decide +kernel
theorem d8_22 : decode jdk_42_method_139_code 22 = .ok (.invokespecial 209, 3) := by decide +kernel
theorem d8_25 : decode jdk_42_method_139_code 25 = .ok (.areturn, 1) := by decide +kernel
def Q_own_vo (Z : State) (w z : Int32) (h0 : Heap) (n0 : Nat) (v : Option Value) (h : Heap) (L : List Loc) : Prop := ∃ x : Addr, v = some (.ref x) ∧ Fr n0 L ∧ Keep h0 h [] ∧ h0.size ≤ x ∧ own_Lat Z h x [w]
set_option maxRecDepth 65536 in
set_option maxHeartbeats 40000000 in
theorem own_vo (l : Launch) (Z : State) (a0 : Array Value) (hw : ∀ d ∈ tables_1, d.before a0 Z = true) (w z : Int32) (h0 : Heap) (n0 : Nat) (Z0 : n0 ≤ h0.size) (X00 : Old Z n0 h0) (O2 : Sta Z Z.heap "java/lang/String" "COMPACT_STRINGS" "Z" (.int z)) (P5 : ¬ z = 0) (hb : ¬ w < 0 ∧ ¬ (255 : Int32) < w) :
    MetFree l (⟨"java/lang/String", "valueOf", "(C)Ljava/lang/String;"⟩ : MethodName) (head1 [Jvm.Cond.code (⟨"java/lang/String", "valueOf", "(C)Ljava/lang/String;"⟩ : MethodName) jdk_42_method_139_code 1 (some (.object "java/lang/String"))] ({ frames := 2, cells := 2, slots := 5, locals := 40 } : Room)) (fun a_ U_ => a_ = #[(.int w)] ∧ Z.Warmed39 U_.vm ∧ U_.heap = h0) (fun _ _ _ _ _ => True) (fun _ U_ o_ V_ => ∃ v_ L_, o_ = .returned v_ ∧ Q_own_vo Z w z h0 n0 v_ V_.heap L_ ∧ FrameEnd U_ o_ V_ L_ ({ frames := 2, cells := 2, slots := 5, locals := 40 } : Room).cells ({ frames := 2, cells := 2, slots := 5, locals := 40 } : Room).slots) := by
  refine MetFree.of_bodySF (plainFor_of_name own_pn5) hisR ?_
  intro p e s m args below meth c s₁ Bd hml0 hP hK
  obtain ⟨rfl, hZ, hh⟩ := hP
  have hx := Bd.exec
  have hby := Bd.bytes
  have hml : c.maxLocals = 1 := hml0
  have hown : s.vm.findClass "java/lang/String" = some m.cls := findClass_of_methodNamed Bd.named
  have hnm := (name_of_methodNamed Bd.named Bd.method).1
  have X0 : Stand p l e ({ frames := 2, cells := 2, slots := 5, locals := 40 } : Room) s m #[(.int w)] below meth c s₁ [] 0 0 := Stand.of_body Bd
  have e0 : s₁.heap = h0 := by rw [← hh, Bd.state]; rfl
  have N0 := Fr.nil n0
  have KK0 := Keep.refl h0 ([] : List Addr)
  have cc0 : Steps p.tables e below (s₁.setTop (entryFrame m #[(.int w)] 1)) (s₁.setTop (mkF m 0 #[.val (.int w)] [])) := XT.entry rfl
  obtain ⟨S0', hS0'⟩ : ∃ S, S = (s₁.setTop (entryFrame m #[(.int w)] 1)) := ⟨_, rfl⟩
  rw [← hS0'] at cc0
  have w_7 := hw _ (List.mem_of_getElem? (i := 7) rfl)
  have w_12 := hw _ (List.mem_of_getElem? (i := 12) rfl)
  have w_13 := hw _ (List.mem_of_getElem? (i := 13) rfl)
  have w_18 := hw _ (List.mem_of_getElem? (i := 18) rfl)
  have w_23 := hw _ (List.mem_of_getElem? (i := 23) rfl)
  obtain ⟨T21, X21, e21, st21⟩ := getS2 X0 hx hZ hown (host := "") (Or.inl (hw _ (List.mem_of_getElem? (i := 9) rfl))) Via.refl e0 (O2.ext X00.2) (g := (mkF m 0 #[.val (.int w)] [])) rfl (own_d hby d8_0)
  have cc22 : Steps p.tables e below S0' (T21.setTop (mkF m 7 #[.val (.int w)] [(.int w)])) := Steps.trans (cc0.trans (st21 _ (Steps.refl _))) (by
    refine XS.ifNo X21.here hx rfl (own_d hby d8_3) rfl (i0_eq_f P5) ?_
    refine XS.iloadN X21.here hx rfl (own_d hby d8_6) rfl ?_
    exact Steps.refl _)
  obtain ⟨_, _, ⟨T23, L23, k23, n23⟩, -, X23, ⟨Lc23, hQ23, l23, y23, z23⟩, st23⟩ := Jvm.LawKit.callS X21 hx (y := (⟨"java/lang/StringLatin1", "canEncode", "(C)Z"⟩ : MethodName)) hown (mvT hZ (hw _ (List.mem_of_getElem? (i := 10) rfl))) (mvT hZ (hw _ (List.mem_of_getElem? (i := 11) rfl))) (mvT hZ w_12) (mvT hZ w_13) (by decide) (backOf (W := 0) (own_ce l Z a0 hw w h0 n0 Z0 hb.2) hZ w_13 w_12 (by decide) (by decide)) (g := (mkF m 7 #[.val (.int w)] [(.int w)])) rfl (by rw [hml]; rfl) (argsL := [(.int w)]) (rest := []) (lenOf own_pd0 rfl) rfl (by show 2 * 0 + _ ≤ _; exact Nat.le_of_eq rfl) (own_d hby d8_7) (fun _ _ => ⟨rfl, e21, Nat.le_of_ble_eq_true rfl, Nat.le_of_ble_eq_true rfl⟩)
  dsimp only [Pt.U, Pt.locs, Pt.cells, Pt.slots] at X23 l23 y23 z23 st23 hQ23
  subst l23 y23 z23
  obtain ⟨rfl, Nq23, eq23⟩ := hQ23
  have N23 := Fr.app N0 Nq23
  have e23 : T23.heap = h0 := eq23
  have cc24 : Steps p.tables e below S0' (T23.setTop (mkF m 13 #[.val (.int w)] [])) := Steps.trans (cc22.trans (st23 _ (Steps.refl _))) (by
    refine XS.ifNo X23.here hx rfl (own_d hby d8_10) rfl (i0_eq_f (by decide)) ?_
    exact Steps.refl _)
  obtain ⟨T25, h25, X25, e25, E25, A25, D25, -, st25⟩ := newO X23 hx hZ hown (hw _ (List.mem_of_getElem? (i := 14) rfl)) (hw _ (List.mem_of_getElem? (i := 15) rfl)) w_7 e23 (g := (mkF m 13 #[.val (.int w)] [])) rfl (own_d hby d8_13) (by decide) (by decide)
  obtain ⟨x, g_x⟩ : ∃ z, z = h0.size := ⟨_, rfl⟩
  rw [← g_x] at A25 D25 st25
  have K25 := (Keep.refl h0 ([] : List Addr)).ext E25
  have b_x : h0.size ≤ x := (Nat.le_of_eq g_x.symm)
  have gn_x : n0 ≤ x := Nat.le_trans Z0 b_x
  have s0_x : h0.size ≤ x := Nat.le_trans KK0.1 b_x
  have KK1 : Keep h0 h25 ([] : List Addr) := KK0.trans K25 all0
  have Zs1 : n0 ≤ h25.size := Nat.le_trans Z0 K25.1
  have F_value_x : Fld Z h25 x "java/lang/String" "value" "[B" .null := D25 (Or.inr (hw _ (List.mem_of_getElem? (i := 28) rfl))) (ty := (.array .byte)) (by decide)
  have F_coder_x : Fld Z h25 x "java/lang/String" "coder" "B" (.int (0 : Int32)) := D25 (Or.inr (hw _ (List.mem_of_getElem? (i := 30) rfl))) (ty := .byte) (by decide)
  have cc26 : Steps p.tables e below S0' (T25.setTop (mkF m 18 #[.val (.int w)] [(.int w), (.ref x), (.ref x)])) := Steps.trans (cc24.trans (st25 _ (Steps.refl _))) (by
    refine XS.dup X25.here hx rfl (own_d hby d8_16) rfl rfl ?_
    refine XS.iloadN X25.here hx rfl (own_d hby d8_17) rfl ?_
    exact Steps.refl _)
  obtain ⟨_, _, ⟨T27, L27, k27, n27⟩, -, X27, ⟨Lc27, hQ27, l27, y27, z27⟩, st27⟩ := Jvm.LawKit.callS X25 hx (y := (⟨"java/lang/StringLatin1", "toBytes", "(C)[B"⟩ : MethodName)) hown (mvT hZ (hw _ (List.mem_of_getElem? (i := 16) rfl))) (mvT hZ (hw _ (List.mem_of_getElem? (i := 17) rfl))) (mvT hZ w_12) (mvT hZ w_18) (by decide) (backOf (W := 2) (own_tb1 l Z a0 hw w h25 n0 Zs1 ) hZ w_18 w_12 (by decide) (by decide)) (g := (mkF m 18 #[.val (.int w)] [(.int w), (.ref x), (.ref x)])) rfl (by rw [hml]; rfl) (argsL := [(.int w)]) (rest := [(.ref x), (.ref x)]) (lenOf own_pd1 rfl) rfl (by show 2 * 0 + _ ≤ _; exact Nat.le_of_eq rfl) (own_d hby d8_18) (fun _ _ => ⟨rfl, e25, Nat.le_of_ble_eq_true rfl, Nat.le_of_ble_eq_true rfl⟩)
  dsimp only [Pt.U, Pt.locs, Pt.cells, Pt.slots] at X27 l27 y27 z27 st27 hQ27
  subst l27 y27 z27
  obtain ⟨t, kt, rfl, Nq27, Kq27, sq27, Aq27⟩ := hQ27
  have N27 := Fr.app N23 Nq27
  have b_t : h25.size ≤ t := sq27
  have gn_t : n0 ≤ t := Nat.le_trans Zs1 b_t
  have s0_t : h0.size ≤ t := Nat.le_trans KK1.1 b_t
  have ne_x_t : x ≠ t := Nat.ne_of_lt (Nat.lt_of_lt_of_le A25.lt b_t)
  have KK2 : Keep h0 T27.heap ([] : List Addr) := KK1.trans Kq27 all0
  have Zs2 : n0 ≤ T27.heap.size := Nat.le_trans Zs1 Kq27.1
  have e27 : T27.heap = T27.heap := rfl
  have cc29 : Steps p.tables e below S0' (T27.setTop (mkF m 22 #[.val (.int w)] [(.int 0), (.ref t), (.ref x), (.ref x)])) := Steps.trans (cc26.trans (st27 _ (Steps.refl _))) (by
    refine iconstV X27.here hx rfl 0 (own_d hby d8_21) (by decide) ?_
    exact Steps.refl _)
  have fa28 : Exa Z T27.heap x "java/lang/String" := (A25.keep Kq27)
  have fa30 : Fld Z T27.heap x "java/lang/String" "value" "[B" .null := (F_value_x.keep Kq27 nin0)
  have fa31 : Fld Z T27.heap x "java/lang/String" "coder" "B" (.int (0 : Int32)) := (F_coder_x.keep Kq27 nin0)
  obtain ⟨_, _, ⟨T32, L32, k32, n32⟩, -, X32, ⟨Lc32, hQ32, l32, y32, z32⟩, st32⟩ := X27.specialBack hx (y := (⟨"java/lang/String", "<init>", "([BB)V"⟩ : MethodName)) rfl hown (mvT hZ (hw _ (List.mem_of_getElem? (i := 20) rfl))) (mvT hZ (hw _ (List.mem_of_getElem? (i := 21) rfl))) (mvT hZ w_23) (by decide) (backOf (W := 1) (own_ibb l Z a0 hw x t T27.heap n0 Zs2 fa28 fa30 fa31 gn_x) hZ w_23 w_7 (by decide) (by decide)) (g := (mkF m 22 #[.val (.int w)] [(.int 0), (.ref t), (.ref x), (.ref x)])) rfl (by rw [hml]; rfl) (Steps.refl _) (a := x) (argsL := [(.ref t), (.int 0)]) (rest := [(.ref x)]) (lenOf own_pd2 rfl) rfl (by show 2 * 0 + _ ≤ _; exact Nat.le_of_eq rfl) (own_d hby d8_22) (fun _ _ => ⟨rfl, e27, Nat.le_of_ble_eq_true rfl, Nat.le_of_ble_eq_true rfl⟩)
  dsimp only [Pt.U, Pt.locs, Pt.cells, Pt.slots] at X32 l32 y32 z32 st32 hQ32
  subst l32 y32 z32
  obtain ⟨rfl, Nq32, Kq32, Eq32, Cq32, Vq32⟩ := hQ32
  have N32 := Fr.app N27 Nq32
  have KK3 : Keep h0 T32.heap ([] : List Addr) := KK2.trans Kq32 (allS (Or.inr s0_x) all0)
  have Zs3 : n0 ≤ T32.heap.size := Nat.le_trans Zs2 Kq32.1
  have e32 : T32.heap = T32.heap := rfl
  have cc34 : Steps p.tables e below S0' (T32.setTop (mkF m 25 #[.val (.int w)] [(.ref x)])) := (Steps.trans cc29 st32)
  have fa33 : Arv Z T32.heap t kt .byte (1 : Int32) (own_by [w]) (.int (0 : Int32)) := (Aq27.keep Kq32 (ninS (Ne.symm ne_x_t) nin0))
  have cE := cc34
  rw [hS0'] at cE
  obtain ⟨fs, hr_, hrun, hended, hW, hsame⟩ := X32.leave (v := some (.ref x)) (fun h => by rw [Bd.returns] at h; cases h)
  refine ⟨_, _, cE.trans (X32.areturnOut hx (rfl) Bd.returns rfl (own_d hby d8_25) hr_), hrun, hended, _, _, rfl, ?_, ⟨_, rfl⟩, hW, hsame.mono (by first | decide | omega) (by first | decide | omega)⟩
  show Q_own_vo Z w z h0 n0 _ T32.heap _
  rw [e32]
  exact ⟨x, rfl, N32, KK3, s0_x, Eq32, Cq32, by simpa using hb, by simp, t, kt, Vq32, fa33⟩
theorem d9_0 : decode prog_19_method_1_code 0 = .ok (.aload_n 0, 1) := by decide +kernel
theorem d9_1 : decode prog_19_method_1_code 1 = .ok (.invokespecial 1, 3) := by decide +kernel
theorem d9_4 : decode prog_19_method_1_code 4 = .ok (.aload_n 1, 1) := by decide +kernel
theorem d9_5 : decode prog_19_method_1_code 5 = .ok (.ldc 7, 2) := by decide +kernel
theorem d9_7 : decode prog_19_method_1_code 7 = .ok (.invokestatic 9, 3) := by decide +kernel
theorem d9_10 : decode prog_19_method_1_code 10 = .ok (.pop, 1) := by decide +kernel
theorem d9_11 : decode prog_19_method_1_code 11 = .ok (.aload_n 1, 1) := by decide +kernel
theorem d9_12 : decode prog_19_method_1_code 12 = .ok (.invokevirtual 15, 3) := by decide +kernel
theorem d9_15 : decode prog_19_method_1_code 15 = .ok (.ifCond .eq 13, 3) := by decide +kernel
theorem d9_28 : decode prog_19_method_1_code 28 = .ok (.aload_n 1, 1) := by decide +kernel
theorem d9_29 : decode prog_19_method_1_code 29 = .ok (.invokevirtual 28, 3) := by decide +kernel
theorem d9_32 : decode prog_19_method_1_code 32 = .ok (.sipush 128, 3) := by decide +kernel
theorem d9_35 : decode prog_19_method_1_code 35 = .ok (.if_icmp .le 33, 3) := by decide +kernel
theorem d9_68 : decode prog_19_method_1_code 68 = .ok (.iconst 0, 1) := by decide +kernel
theorem d9_69 : decode prog_19_method_1_code 69 = .ok (.istore_n 2, 1) := by decide +kernel
theorem d9_70 : decode prog_19_method_1_code 70 = .ok (.iload_n 2, 1) := by decide +kernel
theorem d9_71 : decode prog_19_method_1_code 71 = .ok (.aload_n 1, 1) := by decide +kernel
theorem d9_72 : decode prog_19_method_1_code 72 = .ok (.invokevirtual 28, 3) := by decide +kernel
theorem d9_75 : decode prog_19_method_1_code 75 = .ok (.if_icmp .ge 57, 3) := by decide +kernel
theorem d9_78 : decode prog_19_method_1_code 78 = .ok (.aload_n 1, 1) := by decide +kernel
theorem d9_79 : decode prog_19_method_1_code 79 = .ok (.iload_n 2, 1) := by decide +kernel
theorem d9_80 : decode prog_19_method_1_code 80 = .ok (.invokevirtual 50, 3) := by decide +kernel
theorem d9_83 : decode prog_19_method_1_code 83 = .ok (.invokestatic 54, 3) := by decide +kernel
theorem d9_86 : decode prog_19_method_1_code 86 = .ok (.ifCond .ne 40, 3) := by decide +kernel
theorem d9_126 : decode prog_19_method_1_code 126 = .ok (.iinc 2 1, 3) := by decide +kernel
theorem d9_129 : decode prog_19_method_1_code 129 = .ok (.goto (-59), 3) := by decide +kernel
theorem d9_132 : decode prog_19_method_1_code 132 = .ok (.aload_n 0, 1) := by decide +kernel
theorem d9_133 : decode prog_19_method_1_code 133 = .ok (.aload_n 1, 1) := by decide +kernel
theorem d9_134 : decode prog_19_method_1_code 134 = .ok (.putfield 76, 3) := by decide +kernel
theorem d9_137 : decode prog_19_method_1_code 137 = .ok (.return_, 1) := by decide +kernel
def Q_own_nin (Z : State) (a x : Addr) (cs : List Int32) (z : Int32) (f : Value) (h0 : Heap) (n0 : Nat) (v : Option Value) (h : Heap) (L : List Loc) : Prop := v = none ∧ Fr n0 L ∧ Keep h0 h [a] ∧ Fld Z h a "com/example/firm_roles/firmroles/Name" "value" "Ljava/lang/String;" (.ref x)
set_option maxRecDepth 65536 in
set_option maxHeartbeats 40000000 in
theorem own_nin (l : Launch) (Z : State) (a0 : Array Value) (hw : ∀ d ∈ tables_1, d.before a0 Z = true) (a x : Addr) (cs : List Int32) (z : Int32) (f : Value) (h0 : Heap) (n0 : Nat) (Z0 : n0 ≤ h0.size) (X00 : Old Z n0 h0) (O2 : Sta Z Z.heap "java/lang/String" "COMPACT_STRINGS" "Z" (.int z)) (P5 : ¬ z = 0) (O4 : Sta Z Z.heap "jdk/internal/util/Preconditions" "SIOOBE_FORMATTER" "Ljava/util/function/BiFunction;" f) (hf : f.isRef = true) (E : Exa Z h0 a "com/example/firm_roles/firmroles/Name") (F : Fld Z h0 a "com/example/firm_roles/firmroles/Name" "value" "Ljava/lang/String;" .null) (ga : n0 ≤ a) (Hx : own_Lat Z h0 x cs) (hcs : (∃ c0, cs = [c0] ∧ own_ok c0) ∨ ∃ c0 c1, cs = [c0, c1] ∧ own_ok c0 ∧ own_ok c1) :
    MetFree l (⟨"com/example/firm_roles/firmroles/Name", "<init>", "(Ljava/lang/String;)V"⟩ : MethodName) (head1 [Jvm.Cond.code (⟨"com/example/firm_roles/firmroles/Name", "<init>", "(Ljava/lang/String;)V"⟩ : MethodName) prog_19_method_1_code 3 none] ({ frames := 5, cells := 2, slots := 24, locals := 80 } : Room)) (fun a_ U_ => a_ = #[(.ref a), (.ref x)] ∧ Z.Warmed39 U_.vm ∧ U_.heap = h0 ∧ CHv Z EL U_.vm h0) (fun _ _ _ _ _ => True) (fun _ U_ o_ V_ => ∃ v_ L_, o_ = .returned v_ ∧ Q_own_nin Z a x cs z f h0 n0 v_ V_.heap L_ ∧ CHr Z EL U_.vm U_.heap V_.vm V_.heap ∧ ReturnedEndW U_ o_ V_ L_ ({ frames := 5, cells := 2, slots := 24, locals := 80 } : Room).cells ({ frames := 5, cells := 2, slots := 24, locals := 80 } : Room).slots) := by
  refine MetFree.of_bodySF (plainFor_of_name own_pn1) hisR ?_
  intro p e s m args below meth c s₁ Bd hml0 hP hK
  obtain ⟨rfl, hZ, hh, hCH⟩ := hP
  have hx := Bd.exec
  have hby := Bd.bytes
  have hml : c.maxLocals = 3 := hml0
  have hown : s.vm.findClass "com/example/firm_roles/firmroles/Name" = some m.cls := findClass_of_methodNamed Bd.named
  have hnm := (name_of_methodNamed Bd.named Bd.method).1
  have X0 : Stand p l e ({ frames := 5, cells := 2, slots := 24, locals := 80 } : Room) (s.setVm s.vm) m #[(.ref a), (.ref x)] below meth c s₁ [] 0 0 := Stand.of_body Bd
  have e0 : s₁.heap = h0 := by rw [← hh, Bd.state]; rfl
  have N0 := Fr.nil n0
  have KK0 := Keep.refl h0 [a]
  have C0 := CHr.refl hCH
  have hS0 : s.Since s.vm 0 := (State.WarmedH.refl s).since 0
  have hk0 : 0 ≤ h0.size := Nat.zero_le _
  have hEL : EW Z a0 EL := own_EW hw
  have cc0 : Steps p.tables e below (s₁.setTop (entryFrame m #[(.ref a), (.ref x)] 3)) (s₁.setTop (mkF m 0 #[.val (.ref a), .val (.ref x), .unset] [])) := XT.entry rfl
  obtain ⟨S0', hS0'⟩ : ∃ S, S = (s₁.setTop (entryFrame m #[(.ref a), (.ref x)] 3)) := ⟨_, rfl⟩
  rw [← hS0'] at cc0
  have w_15 := hw _ (List.mem_of_getElem? (i := 15) rfl)
  have w_35 := hw _ (List.mem_of_getElem? (i := 35) rfl)
  have w_36 := hw _ (List.mem_of_getElem? (i := 36) rfl)
  have w_44 := hw _ (List.mem_of_getElem? (i := 44) rfl)
  have w_51 := hw _ (List.mem_of_getElem? (i := 51) rfl)
  have w_52 := hw _ (List.mem_of_getElem? (i := 52) rfl)
  have w_53 := hw _ (List.mem_of_getElem? (i := 53) rfl)
  have w_54 := hw _ (List.mem_of_getElem? (i := 54) rfl)
  have w_55 := hw _ (List.mem_of_getElem? (i := 55) rfl)
  have w_56 := hw _ (List.mem_of_getElem? (i := 56) rfl)
  have w_58 := hw _ (List.mem_of_getElem? (i := 58) rfl)
  have w_59 := hw _ (List.mem_of_getElem? (i := 59) rfl)
  have w_60 := hw _ (List.mem_of_getElem? (i := 60) rfl)
  have w_61 := hw _ (List.mem_of_getElem? (i := 61) rfl)
  have w_68 := hw _ (List.mem_of_getElem? (i := 68) rfl)
  have w_69 := hw _ (List.mem_of_getElem? (i := 69) rfl)
  have w_70 := hw _ (List.mem_of_getElem? (i := 70) rfl)
  have w_71 := hw _ (List.mem_of_getElem? (i := 71) rfl)
  have w_89 := hw _ (List.mem_of_getElem? (i := 89) rfl)
  have w_90 := hw _ (List.mem_of_getElem? (i := 90) rfl)
  have w_91 := hw _ (List.mem_of_getElem? (i := 91) rfl)
  have w_92 := hw _ (List.mem_of_getElem? (i := 92) rfl)
  have w_93 := hw _ (List.mem_of_getElem? (i := 93) rfl)
  have hw_wordsLen : ∀ d ∈ StrChars.Road.wordsLen, d.before a0 Z = true := fun d hd => hw d ((by decide +kernel : ∀ d ∈ StrChars.Road.wordsLen, d ∈ tables_1) d hd)
  have hw_wordsEmp : ∀ d ∈ StrChars.Road.wordsEmp, d.before a0 Z = true := fun d hd => hw d ((by decide +kernel : ∀ d ∈ StrChars.Road.wordsEmp, d ∈ tables_1) d hd)
  have hw_wordsChN : ∀ d ∈ StrChars.Road.wordsChN, d.before a0 Z = true := fun d hd => hw d ((by decide +kernel : ∀ d ∈ StrChars.Road.wordsChN, d ∈ tables_1) d hd)
  obtain ⟨Ex, Cx, px, lx, tx, kx, Vx, Ax⟩ := Hx
  have cc21 : Steps p.tables e below S0' (s₁.setTop (mkF m 1 #[.val (.ref a), .val (.ref x), .unset] [(.ref a)])) := Steps.trans cc0 (by
    refine XS.aloadN X0.here hx rfl (own_d hby d9_0) rfl rfl ?_
    exact Steps.refl _)
  obtain ⟨_, _, ⟨T22, L22, k22, n22⟩, -, X22, ⟨Lc22, hQ22, l22, y22, z22⟩, st22⟩ := X0.specialBack hx (y := (⟨"java/lang/Record", "<init>", "()V"⟩ : MethodName)) rfl hown (mvT hZ (hw _ (List.mem_of_getElem? (i := 40) rfl))) (mvT hZ (hw _ (List.mem_of_getElem? (i := 41) rfl))) (mvT hZ w_44) (by decide) (backOf (W := 0) (own_rec l Z a0 hw a h0 n0 Z0 ) hZ w_44 (hw _ (List.mem_of_getElem? (i := 43) rfl)) (by decide) (by decide)) (g := (mkF m 1 #[.val (.ref a), .val (.ref x), .unset] [(.ref a)])) rfl (by rw [hml]; rfl) (Steps.refl _) (a := a) (argsL := []) (rest := []) (lenOf own_pd3 rfl) rfl (by show 2 * 0 + _ ≤ _; exact Nat.le_of_eq rfl) (own_d hby d9_1) (fun _ _ => ⟨rfl, e0, Nat.le_of_ble_eq_true rfl, Nat.le_of_ble_eq_true rfl⟩)
  dsimp only [Pt.U, Pt.locs, Pt.cells, Pt.slots] at X22 l22 y22 z22 st22 hQ22
  subst l22 y22 z22
  obtain ⟨rfl, Nq22, eq22⟩ := hQ22
  have N22 := Fr.app N0 Nq22
  have e22 : T22.heap = h0 := eq22
  have cc23 : Steps p.tables e below S0' (T22.setTop (mkF m 5 #[.val (.ref a), .val (.ref x), .unset] [(.ref x)])) := Steps.trans (Steps.trans cc21 st22) (by
    refine XS.aloadN X22.here hx rfl (own_d hby d9_4) rfl rfl ?_
    exact Steps.refl _)
  obtain ⟨m1, T24, h24, k24, X24, e24, E24, hS24, hk24, hZ24, hown24, CH24, -, st24⟩ := ldcOH X22 hx hZ hown (hw _ (List.mem_of_getElem? (i := 46) rfl)) (fun a ha => hw a ((by decide +kernel : ∀ a ∈ Bundle.stringAtoms, a ∈ tables_1) a ha)) e22 hS0 hk0 hEL C0.1 (g := (mkF m 5 #[.val (.ref a), .val (.ref x), .unset] [(.ref x)])) rfl (own_d hby d9_5) (n := 20) (by decide) (by decide) (by decide) (by decide)
  have K24 := (Keep.refl h0 ([] : List Addr)).ext E24
  have C24 := C0.trans CH24
  have KK1 : Keep h0 h24 [a] := KK0.trans K24 all0
  have Zs1 : n0 ≤ h24.size := Nat.le_trans Z0 K24.1
  have cc25 : Steps p.tables e below S0' (T24.setTop (mkF m 7 #[.val (.ref a), .val (.ref x), .unset] [(.ref m1), (.ref x)])) := (cc23.trans (st24 _ (Steps.refl _)))
  obtain ⟨_, _, ⟨T26, L26, k26, n26⟩, -, X26, ⟨Lc26, hQ26, l26, y26, z26⟩, st26⟩ := Jvm.LawKit.callS X24 hx (y := (⟨"java/util/Objects", "requireNonNull", "(Ljava/lang/Object;Ljava/lang/String;)Ljava/lang/Object;"⟩ : MethodName)) hown24 (mvT hZ24 (hw _ (List.mem_of_getElem? (i := 49) rfl))) (mvT hZ24 (hw _ (List.mem_of_getElem? (i := 50) rfl))) (mvT hZ24 w_51) (mvT hZ24 w_52) (by decide) (backOf (W := 0) (own_nn l Z a0 hw x m1 h24 n0 Zs1 ) hZ24 w_52 w_51 (by decide) (by decide)) (g := (mkF m 7 #[.val (.ref a), .val (.ref x), .unset] [(.ref m1), (.ref x)])) rfl (by rw [hml]; rfl) (argsL := [(.ref x), (.ref m1)]) (rest := []) (lenOf own_pd4 rfl) rfl (by show 2 * 0 + _ ≤ _; exact Nat.le_of_eq rfl) (own_d hby d9_7) (fun _ _ => ⟨rfl, e24, Nat.le_of_ble_eq_true rfl, Nat.le_of_ble_eq_true rfl⟩)
  dsimp only [Pt.U, Pt.locs, Pt.cells, Pt.slots] at X26 l26 y26 z26 st26 hQ26
  subst l26 y26 z26
  obtain ⟨rfl, Nq26, eq26⟩ := hQ26
  have N26 := Fr.app N22 Nq26
  have e26 : T26.heap = h24 := eq26
  have cc27 : Steps p.tables e below S0' (T26.setTop (mkF m 12 #[.val (.ref a), .val (.ref x), .unset] [(.ref x)])) := Steps.trans (cc25.trans (st26 _ (Steps.refl _))) (by
    refine XT.pop X26.here hx rfl (own_d hby d9_10) rfl rfl ?_
    refine XS.aloadN X26.here hx rfl (own_d hby d9_11) rfl rfl ?_
    exact Steps.refl _)
  have fa28 : Arv Z h24 tx kx .byte (Int32.ofNat cs.length) (own_by cs) (.int (0 : Int32)) := (Ax.keep K24 nin0)
  rcases hcs with ⟨c0, rfl, k0⟩ | ⟨c0, c1, rfl, k0, k1⟩
  · skip
    have fa29 : Exa Z h24 x "java/lang/String" := (Ex.keep K24)
    have fa30 : Fld Z h24 x "java/lang/String" "value" "[B" (.ref tx) := (Vx.keep K24 nin0)
    have fa31 : Fld Z h24 x "java/lang/String" "coder" "B" (.int (0 : Int32)) := (Cx.keep K24 nin0)
    obtain ⟨cq32, kq32, qa32, qb32, qc32⟩ := isOf hZ24 e26 fa29
    obtain ⟨_, _, ⟨T32, L32, k32, n32⟩, -, X32, ⟨Lc32, hQ32, l32, y32, z32⟩, st32⟩ := X26.virtualBack hx (y := (⟨"java/lang/String", "isEmpty", "()Z"⟩ : MethodName)) (z := (⟨"java/lang/String", "isEmpty", "()Z"⟩ : MethodName)) hown24 (mvT hZ24 w_53) (mvT hZ24 w_54) (notFace_of_selects (args := #[]) (mvT hZ24 w_56)) (mvT hZ24 w_56) (mvT hZ24 w_55) (by decide) (StrChars.Road.empW (W := 0) hZ24 hw_wordsEmp (kI := 4) w_15 fa29 fa30 fa31 fa28 (StrChars.Road.codOf (cs := ([c0] : List Int32)) rfl (fun c hc => (px c hc).2)) (own_up _ px) lx (by decide) (by decide)) qa32 qc32 (g := (mkF m 12 #[.val (.ref a), .val (.ref x), .unset] [(.ref x)])) rfl (by rw [hml]; rfl) (Steps.refl _) (argsL := []) (rest := []) (lenOf own_pd5 rfl) rfl (by show 2 * 0 + _ ≤ _; exact Nat.le_of_eq rfl) (own_d hby d9_12) (fun _ _ => ⟨rfl, e26, Nat.le_of_ble_eq_true rfl, Nat.le_of_ble_eq_true rfl⟩)
    dsimp only [Pt.U, Pt.locs, Pt.cells, Pt.slots] at X32 l32 y32 z32 st32 hQ32
    subst l32 y32 z32
    obtain ⟨rfl, rfl, eq32⟩ := hQ32
    have N32 := Fr.app N26 (Fr.nil n0)
    have e32 : T32.heap = h24 := eq32
    have cc34 : Steps p.tables e below S0' (T32.setTop (mkF m 29 #[.val (.ref a), .val (.ref x), .unset] [(.ref x)])) := Steps.trans (Steps.trans cc27 st32) (by
      refine XS.ifYes X32.here hx rfl (pc0 := 15) rfl (own_d hby d9_15) rfl (i0_eq_t rfl) (by decide) rfl ?_
      refine XS.aloadN X32.here hx rfl (own_d hby d9_28) rfl rfl ?_
      exact Steps.refl _)
    have fa33 : Old Z n0 h24 := (X00.keep K24 all0)
    obtain ⟨cq35, kq35, qa35, qb35, qc35⟩ := isOf hZ24 e32 fa29
    obtain ⟨_, _, ⟨T35, L35, k35, n35⟩, -, X35, ⟨Lc35, hQ35, l35, y35, z35⟩, st35⟩ := X32.virtualBack hx (y := (⟨"java/lang/String", "length", "()I"⟩ : MethodName)) (z := (⟨"java/lang/String", "length", "()I"⟩ : MethodName)) hown24 (mvT hZ24 w_58) (mvT hZ24 w_59) (notFace_of_selects (args := #[]) (mvT hZ24 w_61)) (mvT hZ24 w_61) (mvT hZ24 w_60) (by decide) (StrChars.Road.lenW (W := 0) hZ24 hw_wordsLen (kI := 4) w_15 fa29 fa30 fa31 fa28 (StrChars.Road.codOf (cs := ([c0] : List Int32)) rfl (fun c hc => (px c hc).2)) (own_up _ px) (O2.ext fa33.2) P5 lx (by decide) (by decide)) qa35 qc35 (g := (mkF m 29 #[.val (.ref a), .val (.ref x), .unset] [(.ref x)])) rfl (by rw [hml]; rfl) (Steps.refl _) (argsL := []) (rest := []) (lenOf own_pd6 rfl) rfl (by show 2 * 0 + _ ≤ _; exact Nat.le_of_eq rfl) (own_d hby d9_29) (fun _ _ => ⟨rfl, e32, Nat.le_of_ble_eq_true rfl, Nat.le_of_ble_eq_true rfl⟩)
    dsimp only [Pt.U, Pt.locs, Pt.cells, Pt.slots] at X35 l35 y35 z35 st35 hQ35
    subst l35 y35 z35
    obtain ⟨rfl, rfl, eq35⟩ := hQ35
    have N35 := Fr.app N32 (Fr.nil n0)
    have e35 : T35.heap = h24 := eq35
    have cc36 : Steps p.tables e below S0' (T35.setTop (mkF m 32 #[.val (.ref a), .val (.ref x), .unset] [(.int 1)])) := (Steps.trans cc34 st35)
    have cc37 : Steps p.tables e below S0' (T35.setTop (mkF m 72 #[.val (.ref a), .val (.ref x), .val (.int 0)] [(.ref x), (.int 0)])) := Steps.trans cc36 (by
      refine sipushV X35.here hx rfl 128 (own_d hby d9_32) (by decide) ?_
      refine XS.icmpYes X35.here hx rfl (pc0 := 35) rfl (own_d hby d9_35) rfl (ii_le_t (by decide)) (by decide) rfl ?_
      refine iconstV X35.here hx rfl 0 (own_d hby d9_68) (by decide) ?_
      refine XS.istoreN X35.here hx rfl (own_d hby d9_69) rfl rfl ?_
      refine XS.iloadN X35.here hx rfl (own_d hby d9_70) rfl ?_
      refine XS.aloadN X35.here hx rfl (own_d hby d9_71) rfl rfl ?_
      exact Steps.refl _)
    obtain ⟨cq38, kq38, qa38, qb38, qc38⟩ := isOf hZ24 e35 fa29
    obtain ⟨_, _, ⟨T38, L38, k38, n38⟩, -, X38, ⟨Lc38, hQ38, l38, y38, z38⟩, st38⟩ := X35.virtualBack hx (y := (⟨"java/lang/String", "length", "()I"⟩ : MethodName)) (z := (⟨"java/lang/String", "length", "()I"⟩ : MethodName)) hown24 (mvT hZ24 w_58) (mvT hZ24 w_59) (notFace_of_selects (args := #[]) (mvT hZ24 w_61)) (mvT hZ24 w_61) (mvT hZ24 w_60) (by decide) (StrChars.Road.lenW (W := 1) hZ24 hw_wordsLen (kI := 4) w_15 fa29 fa30 fa31 fa28 (StrChars.Road.codOf (cs := ([c0] : List Int32)) rfl (fun c hc => (px c hc).2)) (own_up _ px) (O2.ext fa33.2) P5 lx (by decide) (by decide)) qa38 qc38 (g := (mkF m 72 #[.val (.ref a), .val (.ref x), .val (.int 0)] [(.ref x), (.int 0)])) rfl (by rw [hml]; rfl) (Steps.refl _) (argsL := []) (rest := [(.int 0)]) (lenOf own_pd6 rfl) rfl (by show 2 * 0 + _ ≤ _; exact Nat.le_of_eq rfl) (own_d hby d9_72) (fun _ _ => ⟨rfl, e35, Nat.le_of_ble_eq_true rfl, Nat.le_of_ble_eq_true rfl⟩)
    dsimp only [Pt.U, Pt.locs, Pt.cells, Pt.slots] at X38 l38 y38 z38 st38 hQ38
    subst l38 y38 z38
    obtain ⟨rfl, rfl, eq38⟩ := hQ38
    have N38 := Fr.app N35 (Fr.nil n0)
    have e38 : T38.heap = h24 := eq38
    have cc39 : Steps p.tables e below S0' (T38.setTop (mkF m 75 #[.val (.ref a), .val (.ref x), .val (.int 0)] [(.int 1), (.int 0)])) := (Steps.trans cc37 st38)
    have cc40 : Steps p.tables e below S0' (T38.setTop (mkF m 80 #[.val (.ref a), .val (.ref x), .val (.int 0)] [(.int 0), (.ref x)])) := Steps.trans cc39 (by
      refine XS.icmpNo X38.here hx rfl (own_d hby d9_75) rfl (ii_ge_f (by decide)) ?_
      refine XS.aloadN X38.here hx rfl (own_d hby d9_78) rfl rfl ?_
      refine XS.iloadN X38.here hx rfl (own_d hby d9_79) rfl ?_
      exact Steps.refl _)
    obtain ⟨cq41, kq41, qa41, qb41, qc41⟩ := isOf hZ24 e38 fa29
    obtain ⟨_, _, ⟨T41, L41, k41, n41⟩, -, X41, ⟨Lc41, hQ41, l41, y41, z41⟩, st41⟩ := X38.virtualBack hx (y := (⟨"java/lang/String", "charAt", "(I)C"⟩ : MethodName)) (z := (⟨"java/lang/String", "charAt", "(I)C"⟩ : MethodName)) hown24 (mvT hZ24 w_68) (mvT hZ24 w_69) (notFace_of_selects (args := #[]) (mvT hZ24 w_71)) (mvT hZ24 w_71) (mvT hZ24 w_70) (by decide) (StrChars.Road.chN (W := 0) hZ24 hw_wordsChN (kI := 4) w_15 (i := 0) (j := (0 : Int32)) fa29 fa30 fa31 fa28 (StrChars.Road.codOf (cs := ([c0] : List Int32)) rfl (fun c hc => (px c hc).2)) (own_up _ px) (O2.ext fa33.2) P5 (O4.ext fa33.2) hf lx (by simp) (by decide) (by decide) (by decide)) qa41 qc41 (g := (mkF m 80 #[.val (.ref a), .val (.ref x), .val (.int 0)] [(.int 0), (.ref x)])) rfl (by rw [hml]; rfl) (Steps.refl _) (argsL := [(.int 0)]) (rest := []) (lenOf own_pd7 rfl) rfl (by show 2 * 0 + _ ≤ _; exact Nat.le_of_eq rfl) (own_d hby d9_80) (fun _ _ => ⟨rfl, e38, Nat.le_of_ble_eq_true rfl, Nat.le_of_ble_eq_true rfl⟩)
    dsimp only [Pt.U, Pt.locs, Pt.cells, Pt.slots] at X41 l41 y41 z41 st41 hQ41
    subst l41 y41 z41
    obtain ⟨rfl, rfl, eq41⟩ := hQ41
    have N41 := Fr.app N38 (Fr.nil n0)
    have e41 : T41.heap = h24 := eq41
    have cc42 : Steps p.tables e below S0' (T41.setTop (mkF m 83 #[.val (.ref a), .val (.ref x), .val (.int 0)] [(.int c0)])) := (Steps.trans cc40 st41)
    obtain ⟨_, _, ⟨T43, L43, k43, n43⟩, -, X43, ⟨Lc43, hQ43, l43, y43, z43⟩, st43⟩ := Jvm.LawKit.callS X41 hx (y := (⟨"com/example/firm_roles/firmroles/Name", "isAllowed", "(C)Z"⟩ : MethodName)) hown24 (mvT hZ24 w_89) (mvT hZ24 w_90) (mvT hZ24 w_36) (mvT hZ24 w_91) (by decide) (backOf (W := 0) (own_alw l Z a0 hw c0 h24 n0 Zs1 k0) hZ24 w_91 w_36 (by decide) (by decide)) (g := (mkF m 83 #[.val (.ref a), .val (.ref x), .val (.int 0)] [(.int c0)])) rfl (by rw [hml]; rfl) (argsL := [(.int c0)]) (rest := []) (lenOf own_pd0 rfl) rfl (by show 2 * 0 + _ ≤ _; exact Nat.le_of_eq rfl) (own_d hby d9_83) (fun _ _ => ⟨rfl, e41, Nat.le_of_ble_eq_true rfl, Nat.le_of_ble_eq_true rfl⟩)
    dsimp only [Pt.U, Pt.locs, Pt.cells, Pt.slots] at X43 l43 y43 z43 st43 hQ43
    subst l43 y43 z43
    obtain ⟨rfl, Nq43, eq43⟩ := hQ43
    have N43 := Fr.app N41 Nq43
    have e43 : T43.heap = h24 := eq43
    have cc44 : Steps p.tables e below S0' (T43.setTop (mkF m 72 #[.val (.ref a), .val (.ref x), .val (.int (0 + 1))] [(.ref x), (.int (0 + 1))])) := Steps.trans (cc42.trans (st43 _ (Steps.refl _))) (by
      refine XS.ifYes X43.here hx rfl (pc0 := 86) rfl (own_d hby d9_86) rfl (i0_ne_t (by decide)) (by decide) rfl ?_
      refine iincV X43.here hx rfl 1 (own_d hby d9_126) (by decide) rfl rfl ?_
      refine XS.goto X43.here hx rfl (pc0 := 129) rfl (own_d hby d9_129) (by decide) rfl ?_
      refine XS.iloadN X43.here hx rfl (own_d hby d9_70) rfl ?_
      refine XS.aloadN X43.here hx rfl (own_d hby d9_71) rfl rfl ?_
      exact Steps.refl _)
    obtain ⟨cq45, kq45, qa45, qb45, qc45⟩ := isOf hZ24 e43 fa29
    obtain ⟨_, _, ⟨T45, L45, k45, n45⟩, -, X45, ⟨Lc45, hQ45, l45, y45, z45⟩, st45⟩ := X43.virtualBack hx (y := (⟨"java/lang/String", "length", "()I"⟩ : MethodName)) (z := (⟨"java/lang/String", "length", "()I"⟩ : MethodName)) hown24 (mvT hZ24 w_58) (mvT hZ24 w_59) (notFace_of_selects (args := #[]) (mvT hZ24 w_61)) (mvT hZ24 w_61) (mvT hZ24 w_60) (by decide) (StrChars.Road.lenW (W := 1) hZ24 hw_wordsLen (kI := 4) w_15 fa29 fa30 fa31 fa28 (StrChars.Road.codOf (cs := ([c0] : List Int32)) rfl (fun c hc => (px c hc).2)) (own_up _ px) (O2.ext fa33.2) P5 lx (by decide) (by decide)) qa45 qc45 (g := (mkF m 72 #[.val (.ref a), .val (.ref x), .val (.int (0 + 1))] [(.ref x), (.int (0 + 1))])) rfl (by rw [hml]; rfl) (Steps.refl _) (argsL := []) (rest := [(.int (0 + 1))]) (lenOf own_pd6 rfl) rfl (by show 2 * 0 + _ ≤ _; exact Nat.le_of_eq rfl) (own_d hby d9_72) (fun _ _ => ⟨rfl, e43, Nat.le_of_ble_eq_true rfl, Nat.le_of_ble_eq_true rfl⟩)
    dsimp only [Pt.U, Pt.locs, Pt.cells, Pt.slots] at X45 l45 y45 z45 st45 hQ45
    subst l45 y45 z45
    obtain ⟨rfl, rfl, eq45⟩ := hQ45
    have N45 := Fr.app N43 (Fr.nil n0)
    have e45 : T45.heap = h24 := eq45
    have cc46 : Steps p.tables e below S0' (T45.setTop (mkF m 75 #[.val (.ref a), .val (.ref x), .val (.int (0 + 1))] [(.int 1), (.int (0 + 1))])) := (Steps.trans cc44 st45)
    have cc48 : Steps p.tables e below S0' (T45.setTop (mkF m 134 #[.val (.ref a), .val (.ref x), .val (.int (0 + 1))] [(.ref x), (.ref a)])) := Steps.trans cc46 (by
      refine XS.icmpYes X45.here hx rfl (pc0 := 75) rfl (own_d hby d9_75) rfl (ii_ge_t (by decide)) (by decide) rfl ?_
      refine XS.aloadN X45.here hx rfl (own_d hby d9_132) rfl rfl ?_
      refine XS.aloadN X45.here hx rfl (own_d hby d9_133) rfl rfl ?_
      exact Steps.refl _)
    have fa47 : Fld Z h24 a "com/example/firm_roles/firmroles/Name" "value" "Ljava/lang/String;" .null := (F.keep K24 nin0)
    have fa49 : Exa Z h24 a "com/example/firm_roles/firmroles/Name" := (E.keep K24)
    obtain ⟨T50, h50, X50, e50, W50, st50⟩ := putF X45 hx hZ24 hown24 (host := "") (Or.inl w_92) Via.refl e45 fa47 fa49 (Or.inr ⟨w_93, rfl, hnm⟩) w_35 (ty := (.object "java/lang/String")) (by decide) rfl rfl (g := (mkF m 134 #[.val (.ref a), .val (.ref x), .val (.int (0 + 1))] [(.ref x), (.ref a)])) rfl rfl (own_d hby d9_134)
    have K50 := Keep.of_wr W50
    have N50 := Fr.snoc X50 N45 ga
    have D51 := CHr.wr W50 (Safe.exa (hZ24).alike fa49 (by decide) (by decide)) C24.1
    have C52 := C24.trans D51
    have KK2 : Keep h0 h50 [a] := KK1.trans K50 (allS (Or.inl (List.mem_of_getElem? (i := 0) rfl)) all0)
    have Zs2 : n0 ≤ h50.size := Nat.le_trans Zs1 K50.1
    have cc53 : Steps p.tables e below S0' (T50.setTop (mkF m 137 #[.val (.ref a), .val (.ref x), .val (.int (0 + 1))] [])) := (cc48.trans (st50 _ (Steps.refl _)))
    have cE := cc53
    rw [hS0'] at cE
    obtain ⟨fs, hr_, hrun, hended, hE⟩ := X50.leaveW hS24 (by rw [e50]; exact (Nat.le_trans hk24 K50.1)) (v := none) (fun _ => rfl)
    have CE := C52.trans (CHv.at X50 hZ24 hEL C52.1)
    refine ⟨_, _, cE.trans (X50.returnOut hx Bd.returns (own_d hby d9_137) hr_), hrun, hended, _, _, rfl, ?_, ?_, hE.1, hE.2.1, hE.2.2.1, hE.2.2.2.mono (by first | decide | omega) (by first | decide | omega)⟩
    · show Q_own_nin Z a x ([c0] : List Int32) z f h0 n0 _ T50.heap _
      rw [e50]
      exact ⟨rfl, N50, KK2, (Fld.same W50 fa47)⟩
    · rw [hh]
      show CHr Z EL s.vm h0 T50.vm T50.heap
      rw [e50]
      exact CE
  · skip
    have fa29 : Exa Z h24 x "java/lang/String" := (Ex.keep K24)
    have fa30 : Fld Z h24 x "java/lang/String" "value" "[B" (.ref tx) := (Vx.keep K24 nin0)
    have fa31 : Fld Z h24 x "java/lang/String" "coder" "B" (.int (0 : Int32)) := (Cx.keep K24 nin0)
    obtain ⟨cq32, kq32, qa32, qb32, qc32⟩ := isOf hZ24 e26 fa29
    obtain ⟨_, _, ⟨T32, L32, k32, n32⟩, -, X32, ⟨Lc32, hQ32, l32, y32, z32⟩, st32⟩ := X26.virtualBack hx (y := (⟨"java/lang/String", "isEmpty", "()Z"⟩ : MethodName)) (z := (⟨"java/lang/String", "isEmpty", "()Z"⟩ : MethodName)) hown24 (mvT hZ24 w_53) (mvT hZ24 w_54) (notFace_of_selects (args := #[]) (mvT hZ24 w_56)) (mvT hZ24 w_56) (mvT hZ24 w_55) (by decide) (StrChars.Road.empW (W := 0) hZ24 hw_wordsEmp (kI := 4) w_15 fa29 fa30 fa31 fa28 (StrChars.Road.codOf (cs := ([c0, c1] : List Int32)) rfl (fun c hc => (px c hc).2)) (own_up _ px) lx (by decide) (by decide)) qa32 qc32 (g := (mkF m 12 #[.val (.ref a), .val (.ref x), .unset] [(.ref x)])) rfl (by rw [hml]; rfl) (Steps.refl _) (argsL := []) (rest := []) (lenOf own_pd5 rfl) rfl (by show 2 * 0 + _ ≤ _; exact Nat.le_of_eq rfl) (own_d hby d9_12) (fun _ _ => ⟨rfl, e26, Nat.le_of_ble_eq_true rfl, Nat.le_of_ble_eq_true rfl⟩)
    dsimp only [Pt.U, Pt.locs, Pt.cells, Pt.slots] at X32 l32 y32 z32 st32 hQ32
    subst l32 y32 z32
    obtain ⟨rfl, rfl, eq32⟩ := hQ32
    have N32 := Fr.app N26 (Fr.nil n0)
    have e32 : T32.heap = h24 := eq32
    have cc34 : Steps p.tables e below S0' (T32.setTop (mkF m 29 #[.val (.ref a), .val (.ref x), .unset] [(.ref x)])) := Steps.trans (Steps.trans cc27 st32) (by
      refine XS.ifYes X32.here hx rfl (pc0 := 15) rfl (own_d hby d9_15) rfl (i0_eq_t rfl) (by decide) rfl ?_
      refine XS.aloadN X32.here hx rfl (own_d hby d9_28) rfl rfl ?_
      exact Steps.refl _)
    have fa33 : Old Z n0 h24 := (X00.keep K24 all0)
    obtain ⟨cq35, kq35, qa35, qb35, qc35⟩ := isOf hZ24 e32 fa29
    obtain ⟨_, _, ⟨T35, L35, k35, n35⟩, -, X35, ⟨Lc35, hQ35, l35, y35, z35⟩, st35⟩ := X32.virtualBack hx (y := (⟨"java/lang/String", "length", "()I"⟩ : MethodName)) (z := (⟨"java/lang/String", "length", "()I"⟩ : MethodName)) hown24 (mvT hZ24 w_58) (mvT hZ24 w_59) (notFace_of_selects (args := #[]) (mvT hZ24 w_61)) (mvT hZ24 w_61) (mvT hZ24 w_60) (by decide) (StrChars.Road.lenW (W := 0) hZ24 hw_wordsLen (kI := 4) w_15 fa29 fa30 fa31 fa28 (StrChars.Road.codOf (cs := ([c0, c1] : List Int32)) rfl (fun c hc => (px c hc).2)) (own_up _ px) (O2.ext fa33.2) P5 lx (by decide) (by decide)) qa35 qc35 (g := (mkF m 29 #[.val (.ref a), .val (.ref x), .unset] [(.ref x)])) rfl (by rw [hml]; rfl) (Steps.refl _) (argsL := []) (rest := []) (lenOf own_pd6 rfl) rfl (by show 2 * 0 + _ ≤ _; exact Nat.le_of_eq rfl) (own_d hby d9_29) (fun _ _ => ⟨rfl, e32, Nat.le_of_ble_eq_true rfl, Nat.le_of_ble_eq_true rfl⟩)
    dsimp only [Pt.U, Pt.locs, Pt.cells, Pt.slots] at X35 l35 y35 z35 st35 hQ35
    subst l35 y35 z35
    obtain ⟨rfl, rfl, eq35⟩ := hQ35
    have N35 := Fr.app N32 (Fr.nil n0)
    have e35 : T35.heap = h24 := eq35
    have cc36 : Steps p.tables e below S0' (T35.setTop (mkF m 32 #[.val (.ref a), .val (.ref x), .unset] [(.int 2)])) := (Steps.trans cc34 st35)
    have cc37 : Steps p.tables e below S0' (T35.setTop (mkF m 72 #[.val (.ref a), .val (.ref x), .val (.int 0)] [(.ref x), (.int 0)])) := Steps.trans cc36 (by
      refine sipushV X35.here hx rfl 128 (own_d hby d9_32) (by decide) ?_
      refine XS.icmpYes X35.here hx rfl (pc0 := 35) rfl (own_d hby d9_35) rfl (ii_le_t (by decide)) (by decide) rfl ?_
      refine iconstV X35.here hx rfl 0 (own_d hby d9_68) (by decide) ?_
      refine XS.istoreN X35.here hx rfl (own_d hby d9_69) rfl rfl ?_
      refine XS.iloadN X35.here hx rfl (own_d hby d9_70) rfl ?_
      refine XS.aloadN X35.here hx rfl (own_d hby d9_71) rfl rfl ?_
      exact Steps.refl _)
    obtain ⟨cq38, kq38, qa38, qb38, qc38⟩ := isOf hZ24 e35 fa29
    obtain ⟨_, _, ⟨T38, L38, k38, n38⟩, -, X38, ⟨Lc38, hQ38, l38, y38, z38⟩, st38⟩ := X35.virtualBack hx (y := (⟨"java/lang/String", "length", "()I"⟩ : MethodName)) (z := (⟨"java/lang/String", "length", "()I"⟩ : MethodName)) hown24 (mvT hZ24 w_58) (mvT hZ24 w_59) (notFace_of_selects (args := #[]) (mvT hZ24 w_61)) (mvT hZ24 w_61) (mvT hZ24 w_60) (by decide) (StrChars.Road.lenW (W := 1) hZ24 hw_wordsLen (kI := 4) w_15 fa29 fa30 fa31 fa28 (StrChars.Road.codOf (cs := ([c0, c1] : List Int32)) rfl (fun c hc => (px c hc).2)) (own_up _ px) (O2.ext fa33.2) P5 lx (by decide) (by decide)) qa38 qc38 (g := (mkF m 72 #[.val (.ref a), .val (.ref x), .val (.int 0)] [(.ref x), (.int 0)])) rfl (by rw [hml]; rfl) (Steps.refl _) (argsL := []) (rest := [(.int 0)]) (lenOf own_pd6 rfl) rfl (by show 2 * 0 + _ ≤ _; exact Nat.le_of_eq rfl) (own_d hby d9_72) (fun _ _ => ⟨rfl, e35, Nat.le_of_ble_eq_true rfl, Nat.le_of_ble_eq_true rfl⟩)
    dsimp only [Pt.U, Pt.locs, Pt.cells, Pt.slots] at X38 l38 y38 z38 st38 hQ38
    subst l38 y38 z38
    obtain ⟨rfl, rfl, eq38⟩ := hQ38
    have N38 := Fr.app N35 (Fr.nil n0)
    have e38 : T38.heap = h24 := eq38
    have cc39 : Steps p.tables e below S0' (T38.setTop (mkF m 75 #[.val (.ref a), .val (.ref x), .val (.int 0)] [(.int 2), (.int 0)])) := (Steps.trans cc37 st38)
    have cc40 : Steps p.tables e below S0' (T38.setTop (mkF m 80 #[.val (.ref a), .val (.ref x), .val (.int 0)] [(.int 0), (.ref x)])) := Steps.trans cc39 (by
      refine XS.icmpNo X38.here hx rfl (own_d hby d9_75) rfl (ii_ge_f (by decide)) ?_
      refine XS.aloadN X38.here hx rfl (own_d hby d9_78) rfl rfl ?_
      refine XS.iloadN X38.here hx rfl (own_d hby d9_79) rfl ?_
      exact Steps.refl _)
    obtain ⟨cq41, kq41, qa41, qb41, qc41⟩ := isOf hZ24 e38 fa29
    obtain ⟨_, _, ⟨T41, L41, k41, n41⟩, -, X41, ⟨Lc41, hQ41, l41, y41, z41⟩, st41⟩ := X38.virtualBack hx (y := (⟨"java/lang/String", "charAt", "(I)C"⟩ : MethodName)) (z := (⟨"java/lang/String", "charAt", "(I)C"⟩ : MethodName)) hown24 (mvT hZ24 w_68) (mvT hZ24 w_69) (notFace_of_selects (args := #[]) (mvT hZ24 w_71)) (mvT hZ24 w_71) (mvT hZ24 w_70) (by decide) (StrChars.Road.chN (W := 0) hZ24 hw_wordsChN (kI := 4) w_15 (i := 0) (j := (0 : Int32)) fa29 fa30 fa31 fa28 (StrChars.Road.codOf (cs := ([c0, c1] : List Int32)) rfl (fun c hc => (px c hc).2)) (own_up _ px) (O2.ext fa33.2) P5 (O4.ext fa33.2) hf lx (by simp) (by decide) (by decide) (by decide)) qa41 qc41 (g := (mkF m 80 #[.val (.ref a), .val (.ref x), .val (.int 0)] [(.int 0), (.ref x)])) rfl (by rw [hml]; rfl) (Steps.refl _) (argsL := [(.int 0)]) (rest := []) (lenOf own_pd7 rfl) rfl (by show 2 * 0 + _ ≤ _; exact Nat.le_of_eq rfl) (own_d hby d9_80) (fun _ _ => ⟨rfl, e38, Nat.le_of_ble_eq_true rfl, Nat.le_of_ble_eq_true rfl⟩)
    dsimp only [Pt.U, Pt.locs, Pt.cells, Pt.slots] at X41 l41 y41 z41 st41 hQ41
    subst l41 y41 z41
    obtain ⟨rfl, rfl, eq41⟩ := hQ41
    have N41 := Fr.app N38 (Fr.nil n0)
    have e41 : T41.heap = h24 := eq41
    have cc42 : Steps p.tables e below S0' (T41.setTop (mkF m 83 #[.val (.ref a), .val (.ref x), .val (.int 0)] [(.int c0)])) := (Steps.trans cc40 st41)
    obtain ⟨_, _, ⟨T43, L43, k43, n43⟩, -, X43, ⟨Lc43, hQ43, l43, y43, z43⟩, st43⟩ := Jvm.LawKit.callS X41 hx (y := (⟨"com/example/firm_roles/firmroles/Name", "isAllowed", "(C)Z"⟩ : MethodName)) hown24 (mvT hZ24 w_89) (mvT hZ24 w_90) (mvT hZ24 w_36) (mvT hZ24 w_91) (by decide) (backOf (W := 0) (own_alw l Z a0 hw c0 h24 n0 Zs1 k0) hZ24 w_91 w_36 (by decide) (by decide)) (g := (mkF m 83 #[.val (.ref a), .val (.ref x), .val (.int 0)] [(.int c0)])) rfl (by rw [hml]; rfl) (argsL := [(.int c0)]) (rest := []) (lenOf own_pd0 rfl) rfl (by show 2 * 0 + _ ≤ _; exact Nat.le_of_eq rfl) (own_d hby d9_83) (fun _ _ => ⟨rfl, e41, Nat.le_of_ble_eq_true rfl, Nat.le_of_ble_eq_true rfl⟩)
    dsimp only [Pt.U, Pt.locs, Pt.cells, Pt.slots] at X43 l43 y43 z43 st43 hQ43
    subst l43 y43 z43
    obtain ⟨rfl, Nq43, eq43⟩ := hQ43
    have N43 := Fr.app N41 Nq43
    have e43 : T43.heap = h24 := eq43
    have cc44 : Steps p.tables e below S0' (T43.setTop (mkF m 72 #[.val (.ref a), .val (.ref x), .val (.int (0 + 1))] [(.ref x), (.int (0 + 1))])) := Steps.trans (cc42.trans (st43 _ (Steps.refl _))) (by
      refine XS.ifYes X43.here hx rfl (pc0 := 86) rfl (own_d hby d9_86) rfl (i0_ne_t (by decide)) (by decide) rfl ?_
      refine iincV X43.here hx rfl 1 (own_d hby d9_126) (by decide) rfl rfl ?_
      refine XS.goto X43.here hx rfl (pc0 := 129) rfl (own_d hby d9_129) (by decide) rfl ?_
      refine XS.iloadN X43.here hx rfl (own_d hby d9_70) rfl ?_
      refine XS.aloadN X43.here hx rfl (own_d hby d9_71) rfl rfl ?_
      exact Steps.refl _)
    obtain ⟨cq45, kq45, qa45, qb45, qc45⟩ := isOf hZ24 e43 fa29
    obtain ⟨_, _, ⟨T45, L45, k45, n45⟩, -, X45, ⟨Lc45, hQ45, l45, y45, z45⟩, st45⟩ := X43.virtualBack hx (y := (⟨"java/lang/String", "length", "()I"⟩ : MethodName)) (z := (⟨"java/lang/String", "length", "()I"⟩ : MethodName)) hown24 (mvT hZ24 w_58) (mvT hZ24 w_59) (notFace_of_selects (args := #[]) (mvT hZ24 w_61)) (mvT hZ24 w_61) (mvT hZ24 w_60) (by decide) (StrChars.Road.lenW (W := 1) hZ24 hw_wordsLen (kI := 4) w_15 fa29 fa30 fa31 fa28 (StrChars.Road.codOf (cs := ([c0, c1] : List Int32)) rfl (fun c hc => (px c hc).2)) (own_up _ px) (O2.ext fa33.2) P5 lx (by decide) (by decide)) qa45 qc45 (g := (mkF m 72 #[.val (.ref a), .val (.ref x), .val (.int (0 + 1))] [(.ref x), (.int (0 + 1))])) rfl (by rw [hml]; rfl) (Steps.refl _) (argsL := []) (rest := [(.int (0 + 1))]) (lenOf own_pd6 rfl) rfl (by show 2 * 0 + _ ≤ _; exact Nat.le_of_eq rfl) (own_d hby d9_72) (fun _ _ => ⟨rfl, e43, Nat.le_of_ble_eq_true rfl, Nat.le_of_ble_eq_true rfl⟩)
    dsimp only [Pt.U, Pt.locs, Pt.cells, Pt.slots] at X45 l45 y45 z45 st45 hQ45
    subst l45 y45 z45
    obtain ⟨rfl, rfl, eq45⟩ := hQ45
    have N45 := Fr.app N43 (Fr.nil n0)
    have e45 : T45.heap = h24 := eq45
    have cc46 : Steps p.tables e below S0' (T45.setTop (mkF m 75 #[.val (.ref a), .val (.ref x), .val (.int (0 + 1))] [(.int 2), (.int (0 + 1))])) := (Steps.trans cc44 st45)
    have cc47 : Steps p.tables e below S0' (T45.setTop (mkF m 80 #[.val (.ref a), .val (.ref x), .val (.int (0 + 1))] [(.int (0 + 1)), (.ref x)])) := Steps.trans cc46 (by
      refine XS.icmpNo X45.here hx rfl (own_d hby d9_75) rfl (ii_ge_f (by decide)) ?_
      refine XS.aloadN X45.here hx rfl (own_d hby d9_78) rfl rfl ?_
      refine XS.iloadN X45.here hx rfl (own_d hby d9_79) rfl ?_
      exact Steps.refl _)
    obtain ⟨cq48, kq48, qa48, qb48, qc48⟩ := isOf hZ24 e45 fa29
    obtain ⟨_, _, ⟨T48, L48, k48, n48⟩, -, X48, ⟨Lc48, hQ48, l48, y48, z48⟩, st48⟩ := X45.virtualBack hx (y := (⟨"java/lang/String", "charAt", "(I)C"⟩ : MethodName)) (z := (⟨"java/lang/String", "charAt", "(I)C"⟩ : MethodName)) hown24 (mvT hZ24 w_68) (mvT hZ24 w_69) (notFace_of_selects (args := #[]) (mvT hZ24 w_71)) (mvT hZ24 w_71) (mvT hZ24 w_70) (by decide) (StrChars.Road.chN (W := 0) hZ24 hw_wordsChN (kI := 4) w_15 (i := 1) (j := (0 : Int32) + 1) fa29 fa30 fa31 fa28 (StrChars.Road.codOf (cs := ([c0, c1] : List Int32)) rfl (fun c hc => (px c hc).2)) (own_up _ px) (O2.ext fa33.2) P5 (O4.ext fa33.2) hf lx (by simp) (by decide) (by decide) (by decide)) qa48 qc48 (g := (mkF m 80 #[.val (.ref a), .val (.ref x), .val (.int (0 + 1))] [(.int (0 + 1)), (.ref x)])) rfl (by rw [hml]; rfl) (Steps.refl _) (argsL := [(.int (0 + 1))]) (rest := []) (lenOf own_pd7 rfl) rfl (by show 2 * 0 + _ ≤ _; exact Nat.le_of_eq rfl) (own_d hby d9_80) (fun _ _ => ⟨rfl, e45, Nat.le_of_ble_eq_true rfl, Nat.le_of_ble_eq_true rfl⟩)
    dsimp only [Pt.U, Pt.locs, Pt.cells, Pt.slots] at X48 l48 y48 z48 st48 hQ48
    subst l48 y48 z48
    obtain ⟨rfl, rfl, eq48⟩ := hQ48
    have N48 := Fr.app N45 (Fr.nil n0)
    have e48 : T48.heap = h24 := eq48
    have cc49 : Steps p.tables e below S0' (T48.setTop (mkF m 83 #[.val (.ref a), .val (.ref x), .val (.int (0 + 1))] [(.int c1)])) := (Steps.trans cc47 st48)
    obtain ⟨_, _, ⟨T50, L50, k50, n50⟩, -, X50, ⟨Lc50, hQ50, l50, y50, z50⟩, st50⟩ := Jvm.LawKit.callS X48 hx (y := (⟨"com/example/firm_roles/firmroles/Name", "isAllowed", "(C)Z"⟩ : MethodName)) hown24 (mvT hZ24 w_89) (mvT hZ24 w_90) (mvT hZ24 w_36) (mvT hZ24 w_91) (by decide) (backOf (W := 0) (own_alw l Z a0 hw c1 h24 n0 Zs1 k1) hZ24 w_91 w_36 (by decide) (by decide)) (g := (mkF m 83 #[.val (.ref a), .val (.ref x), .val (.int (0 + 1))] [(.int c1)])) rfl (by rw [hml]; rfl) (argsL := [(.int c1)]) (rest := []) (lenOf own_pd0 rfl) rfl (by show 2 * 0 + _ ≤ _; exact Nat.le_of_eq rfl) (own_d hby d9_83) (fun _ _ => ⟨rfl, e48, Nat.le_of_ble_eq_true rfl, Nat.le_of_ble_eq_true rfl⟩)
    dsimp only [Pt.U, Pt.locs, Pt.cells, Pt.slots] at X50 l50 y50 z50 st50 hQ50
    subst l50 y50 z50
    obtain ⟨rfl, Nq50, eq50⟩ := hQ50
    have N50 := Fr.app N48 Nq50
    have e50 : T50.heap = h24 := eq50
    have cc51 : Steps p.tables e below S0' (T50.setTop (mkF m 72 #[.val (.ref a), .val (.ref x), .val (.int ((0 + 1) + 1))] [(.ref x), (.int ((0 + 1) + 1))])) := Steps.trans (cc49.trans (st50 _ (Steps.refl _))) (by
      refine XS.ifYes X50.here hx rfl (pc0 := 86) rfl (own_d hby d9_86) rfl (i0_ne_t (by decide)) (by decide) rfl ?_
      refine iincV X50.here hx rfl 1 (own_d hby d9_126) (by decide) rfl rfl ?_
      refine XS.goto X50.here hx rfl (pc0 := 129) rfl (own_d hby d9_129) (by decide) rfl ?_
      refine XS.iloadN X50.here hx rfl (own_d hby d9_70) rfl ?_
      refine XS.aloadN X50.here hx rfl (own_d hby d9_71) rfl rfl ?_
      exact Steps.refl _)
    obtain ⟨cq52, kq52, qa52, qb52, qc52⟩ := isOf hZ24 e50 fa29
    obtain ⟨_, _, ⟨T52, L52, k52, n52⟩, -, X52, ⟨Lc52, hQ52, l52, y52, z52⟩, st52⟩ := X50.virtualBack hx (y := (⟨"java/lang/String", "length", "()I"⟩ : MethodName)) (z := (⟨"java/lang/String", "length", "()I"⟩ : MethodName)) hown24 (mvT hZ24 w_58) (mvT hZ24 w_59) (notFace_of_selects (args := #[]) (mvT hZ24 w_61)) (mvT hZ24 w_61) (mvT hZ24 w_60) (by decide) (StrChars.Road.lenW (W := 1) hZ24 hw_wordsLen (kI := 4) w_15 fa29 fa30 fa31 fa28 (StrChars.Road.codOf (cs := ([c0, c1] : List Int32)) rfl (fun c hc => (px c hc).2)) (own_up _ px) (O2.ext fa33.2) P5 lx (by decide) (by decide)) qa52 qc52 (g := (mkF m 72 #[.val (.ref a), .val (.ref x), .val (.int ((0 + 1) + 1))] [(.ref x), (.int ((0 + 1) + 1))])) rfl (by rw [hml]; rfl) (Steps.refl _) (argsL := []) (rest := [(.int ((0 + 1) + 1))]) (lenOf own_pd6 rfl) rfl (by show 2 * 0 + _ ≤ _; exact Nat.le_of_eq rfl) (own_d hby d9_72) (fun _ _ => ⟨rfl, e50, Nat.le_of_ble_eq_true rfl, Nat.le_of_ble_eq_true rfl⟩)
    dsimp only [Pt.U, Pt.locs, Pt.cells, Pt.slots] at X52 l52 y52 z52 st52 hQ52
    subst l52 y52 z52
    obtain ⟨rfl, rfl, eq52⟩ := hQ52
    have N52 := Fr.app N50 (Fr.nil n0)
    have e52 : T52.heap = h24 := eq52
    have cc53 : Steps p.tables e below S0' (T52.setTop (mkF m 75 #[.val (.ref a), .val (.ref x), .val (.int ((0 + 1) + 1))] [(.int 2), (.int ((0 + 1) + 1))])) := (Steps.trans cc51 st52)
    have cc55 : Steps p.tables e below S0' (T52.setTop (mkF m 134 #[.val (.ref a), .val (.ref x), .val (.int ((0 + 1) + 1))] [(.ref x), (.ref a)])) := Steps.trans cc53 (by
      refine XS.icmpYes X52.here hx rfl (pc0 := 75) rfl (own_d hby d9_75) rfl (ii_ge_t (by decide)) (by decide) rfl ?_
      refine XS.aloadN X52.here hx rfl (own_d hby d9_132) rfl rfl ?_
      refine XS.aloadN X52.here hx rfl (own_d hby d9_133) rfl rfl ?_
      exact Steps.refl _)
    have fa54 : Fld Z h24 a "com/example/firm_roles/firmroles/Name" "value" "Ljava/lang/String;" .null := (F.keep K24 nin0)
    have fa56 : Exa Z h24 a "com/example/firm_roles/firmroles/Name" := (E.keep K24)
    obtain ⟨T57, h57, X57, e57, W57, st57⟩ := putF X52 hx hZ24 hown24 (host := "") (Or.inl w_92) Via.refl e52 fa54 fa56 (Or.inr ⟨w_93, rfl, hnm⟩) w_35 (ty := (.object "java/lang/String")) (by decide) rfl rfl (g := (mkF m 134 #[.val (.ref a), .val (.ref x), .val (.int ((0 + 1) + 1))] [(.ref x), (.ref a)])) rfl rfl (own_d hby d9_134)
    have K57 := Keep.of_wr W57
    have N57 := Fr.snoc X57 N52 ga
    have D58 := CHr.wr W57 (Safe.exa (hZ24).alike fa56 (by decide) (by decide)) C24.1
    have C59 := C24.trans D58
    have KK2 : Keep h0 h57 [a] := KK1.trans K57 (allS (Or.inl (List.mem_of_getElem? (i := 0) rfl)) all0)
    have Zs2 : n0 ≤ h57.size := Nat.le_trans Zs1 K57.1
    have cc60 : Steps p.tables e below S0' (T57.setTop (mkF m 137 #[.val (.ref a), .val (.ref x), .val (.int ((0 + 1) + 1))] [])) := (cc55.trans (st57 _ (Steps.refl _)))
    have cE := cc60
    rw [hS0'] at cE
    obtain ⟨fs, hr_, hrun, hended, hE⟩ := X57.leaveW hS24 (by rw [e57]; exact (Nat.le_trans hk24 K57.1)) (v := none) (fun _ => rfl)
    have CE := C59.trans (CHv.at X57 hZ24 hEL C59.1)
    refine ⟨_, _, cE.trans (X57.returnOut hx Bd.returns (own_d hby d9_137) hr_), hrun, hended, _, _, rfl, ?_, ?_, hE.1, hE.2.1, hE.2.2.1, hE.2.2.2.mono (by first | decide | omega) (by first | decide | omega)⟩
    · show Q_own_nin Z a x ([c0, c1] : List Int32) z f h0 n0 _ T57.heap _
      rw [e57]
      exact ⟨rfl, N57, KK2, (Fld.same W57 fa54)⟩
    · rw [hh]
      show CHr Z EL s.vm h0 T57.vm T57.heap
      rw [e57]
      exact CE
theorem d10_0 : decode prog_27_method_1_code 0 = .ok (.aload_n 0, 1) := by decide +kernel
theorem d10_1 : decode prog_27_method_1_code 1 = .ok (.invokespecial 1, 3) := by decide +kernel
theorem d10_4 : decode prog_27_method_1_code 4 = .ok (.aload_n 0, 1) := by decide +kernel
theorem d10_5 : decode prog_27_method_1_code 5 = .ok (.aload_n 1, 1) := by decide +kernel
theorem d10_6 : decode prog_27_method_1_code 6 = .ok (.putfield 7, 3) := by decide +kernel
theorem d10_9 : decode prog_27_method_1_code 9 = .ok (.aload_n 0, 1) := by decide +kernel
theorem d10_10 : decode prog_27_method_1_code 10 = .ok (.iload_n 2, 1) := by decide +kernel
theorem d10_11 : decode prog_27_method_1_code 11 = .ok (.putfield 13, 3) := by decide +kernel
theorem d10_14 : decode prog_27_method_1_code 14 = .ok (.aload_n 0, 1) := by decide +kernel
theorem d10_15 : decode prog_27_method_1_code 15 = .ok (.aload_n 3, 1) := by decide +kernel
theorem d10_16 : decode prog_27_method_1_code 16 = .ok (.putfield 17, 3) := by decide +kernel
theorem d10_19 : decode prog_27_method_1_code 19 = .ok (.aload_n 0, 1) := by decide +kernel
theorem d10_20 : decode prog_27_method_1_code 20 = .ok (.iload 4, 2) := by decide +kernel
theorem d10_22 : decode prog_27_method_1_code 22 = .ok (.putfield 20, 3) := by decide +kernel
theorem d10_25 : decode prog_27_method_1_code 25 = .ok (.return_, 1) := by decide +kernel
def Q_own_rin (Z : State) (g a b : Addr) (li hi : Int32) (h0 : Heap) (n0 : Nat) (v : Option Value) (h : Heap) (L : List Loc) : Prop := v = none ∧ Fr n0 L ∧ Keep h0 h [g] ∧ Fld Z h g "com/example/firm_roles/firmroles/RoleRange" "low" "Lcom/example/firm_roles/firmroles/Name;" (.ref a) ∧ Fld Z h g "com/example/firm_roles/firmroles/RoleRange" "lowIncluded" "Z" (.int li) ∧ Fld Z h g "com/example/firm_roles/firmroles/RoleRange" "high" "Lcom/example/firm_roles/firmroles/Name;" (.ref b) ∧ Fld Z h g "com/example/firm_roles/firmroles/RoleRange" "highIncluded" "Z" (.int hi)
set_option maxRecDepth 65536 in
set_option maxHeartbeats 40000000 in
theorem own_rin (l : Launch) (Z : State) (a0 : Array Value) (hw : ∀ d ∈ tables_1, d.before a0 Z = true) (g a b : Addr) (li hi : Int32) (h0 : Heap) (n0 : Nat) (Z0 : n0 ≤ h0.size) (E : Exa Z h0 g "com/example/firm_roles/firmroles/RoleRange") (F1 : Fld Z h0 g "com/example/firm_roles/firmroles/RoleRange" "low" "Lcom/example/firm_roles/firmroles/Name;" .null) (F2 : Fld Z h0 g "com/example/firm_roles/firmroles/RoleRange" "lowIncluded" "Z" (.int (0 : Int32))) (F3 : Fld Z h0 g "com/example/firm_roles/firmroles/RoleRange" "high" "Lcom/example/firm_roles/firmroles/Name;" .null) (F4 : Fld Z h0 g "com/example/firm_roles/firmroles/RoleRange" "highIncluded" "Z" (.int (0 : Int32))) (gg : n0 ≤ g) (hli : li = 0 ∨ li = 1) (hhi : hi = 0 ∨ hi = 1) :
    MetFree l (⟨"com/example/firm_roles/firmroles/RoleRange", "<init>", "(Lcom/example/firm_roles/firmroles/Name;ZLcom/example/firm_roles/firmroles/Name;Z)V"⟩ : MethodName) (head1 [Jvm.Cond.code (⟨"com/example/firm_roles/firmroles/RoleRange", "<init>", "(Lcom/example/firm_roles/firmroles/Name;ZLcom/example/firm_roles/firmroles/Name;Z)V"⟩ : MethodName) prog_27_method_1_code 5 none] ({ frames := 2, cells := 0, slots := 0, locals := 25 } : Room)) (fun a_ U_ => a_ = #[(.ref g), (.ref a), (.int li), (.ref b), (.int hi)] ∧ Z.Warmed39 U_.vm ∧ U_.heap = h0) (fun _ _ _ _ _ => True) (fun _ U_ o_ V_ => ∃ v_ L_, o_ = .returned v_ ∧ Q_own_rin Z g a b li hi h0 n0 v_ V_.heap L_ ∧ FrameEnd U_ o_ V_ L_ ({ frames := 2, cells := 0, slots := 0, locals := 25 } : Room).cells ({ frames := 2, cells := 0, slots := 0, locals := 25 } : Room).slots) := by
  refine MetFree.of_bodySF (plainFor_of_name own_pn6) hisR ?_
  intro p e s m args below meth c s₁ Bd hml0 hP hK
  obtain ⟨rfl, hZ, hh⟩ := hP
  have hx := Bd.exec
  have hby := Bd.bytes
  have hml : c.maxLocals = 5 := hml0
  have hown : s.vm.findClass "com/example/firm_roles/firmroles/RoleRange" = some m.cls := findClass_of_methodNamed Bd.named
  have hnm := (name_of_methodNamed Bd.named Bd.method).1
  have X0 : Stand p l e ({ frames := 2, cells := 0, slots := 0, locals := 25 } : Room) s m #[(.ref g), (.ref a), (.int li), (.ref b), (.int hi)] below meth c s₁ [] 0 0 := Stand.of_body Bd
  have e0 : s₁.heap = h0 := by rw [← hh, Bd.state]; rfl
  have N0 := Fr.nil n0
  have KK0 := Keep.refl h0 [g]
  have cc0 : Steps p.tables e below (s₁.setTop (entryFrame m #[(.ref g), (.ref a), (.int li), (.ref b), (.int hi)] 5)) (s₁.setTop (mkF m 0 #[.val (.ref g), .val (.ref a), .val (.int li), .val (.ref b), .val (.int hi)] [])) := XT.entry rfl
  obtain ⟨S0', hS0'⟩ : ∃ S, S = (s₁.setTop (entryFrame m #[(.ref g), (.ref a), (.int li), (.ref b), (.int hi)] 5)) := ⟨_, rfl⟩
  rw [← hS0'] at cc0
  have w_32 := hw _ (List.mem_of_getElem? (i := 32) rfl)
  have w_44 := hw _ (List.mem_of_getElem? (i := 44) rfl)
  have w_99 := hw _ (List.mem_of_getElem? (i := 99) rfl)
  have w_101 := hw _ (List.mem_of_getElem? (i := 101) rfl)
  have w_103 := hw _ (List.mem_of_getElem? (i := 103) rfl)
  have w_105 := hw _ (List.mem_of_getElem? (i := 105) rfl)
  have cc21 : Steps p.tables e below S0' (s₁.setTop (mkF m 1 #[.val (.ref g), .val (.ref a), .val (.int li), .val (.ref b), .val (.int hi)] [(.ref g)])) := Steps.trans cc0 (by
    refine XS.aloadN X0.here hx rfl (own_d hby d10_0) rfl rfl ?_
    exact Steps.refl _)
  obtain ⟨_, _, ⟨T22, L22, k22, n22⟩, -, X22, ⟨Lc22, hQ22, l22, y22, z22⟩, st22⟩ := X0.specialBack hx (y := (⟨"java/lang/Record", "<init>", "()V"⟩ : MethodName)) rfl hown (mvT hZ (hw _ (List.mem_of_getElem? (i := 97) rfl))) (mvT hZ (hw _ (List.mem_of_getElem? (i := 41) rfl))) (mvT hZ w_44) (by decide) (backOf (W := 0) (own_rec l Z a0 hw g h0 n0 Z0 ) hZ w_44 (hw _ (List.mem_of_getElem? (i := 43) rfl)) (by decide) (by decide)) (g := (mkF m 1 #[.val (.ref g), .val (.ref a), .val (.int li), .val (.ref b), .val (.int hi)] [(.ref g)])) rfl (by rw [hml]; rfl) (Steps.refl _) (a := g) (argsL := []) (rest := []) (lenOf own_pd3 rfl) rfl (by show 2 * 0 + _ ≤ _; exact Nat.le_of_eq rfl) (own_d hby d10_1) (fun _ _ => ⟨rfl, e0, Nat.le_of_ble_eq_true rfl, Nat.le_of_ble_eq_true rfl⟩)
  dsimp only [Pt.U, Pt.locs, Pt.cells, Pt.slots] at X22 l22 y22 z22 st22 hQ22
  subst l22 y22 z22
  obtain ⟨rfl, Nq22, eq22⟩ := hQ22
  have N22 := Fr.app N0 Nq22
  have e22 : T22.heap = h0 := eq22
  have cc23 : Steps p.tables e below S0' (T22.setTop (mkF m 6 #[.val (.ref g), .val (.ref a), .val (.int li), .val (.ref b), .val (.int hi)] [(.ref a), (.ref g)])) := Steps.trans (Steps.trans cc21 st22) (by
    refine XS.aloadN X22.here hx rfl (own_d hby d10_4) rfl rfl ?_
    refine XS.aloadN X22.here hx rfl (own_d hby d10_5) rfl rfl ?_
    exact Steps.refl _)
  obtain ⟨T24, h24, X24, e24, W24, st24⟩ := putF X22 hx hZ hown (host := "") (Or.inl (hw _ (List.mem_of_getElem? (i := 98) rfl))) Via.refl e22 F1 E (Or.inr ⟨w_99, rfl, hnm⟩) w_32 (ty := (.object "com/example/firm_roles/firmroles/Name")) (by decide) rfl rfl (g := (mkF m 6 #[.val (.ref g), .val (.ref a), .val (.int li), .val (.ref b), .val (.int hi)] [(.ref a), (.ref g)])) rfl rfl (own_d hby d10_6)
  have K24 := Keep.of_wr W24
  have N24 := Fr.snoc X24 N22 gg
  have KK1 : Keep h0 h24 [g] := KK0.trans K24 (allS (Or.inl (List.mem_of_getElem? (i := 0) rfl)) all0)
  have Zs1 : n0 ≤ h24.size := Nat.le_trans Z0 K24.1
  have cc26 : Steps p.tables e below S0' (T24.setTop (mkF m 11 #[.val (.ref g), .val (.ref a), .val (.int li), .val (.ref b), .val (.int hi)] [(.int li), (.ref g)])) := Steps.trans (cc23.trans (st24 _ (Steps.refl _))) (by
    refine XS.aloadN X24.here hx rfl (own_d hby d10_9) rfl rfl ?_
    refine XS.iloadN X24.here hx rfl (own_d hby d10_10) rfl ?_
    exact Steps.refl _)
  have fa25 : Fld Z h24 g "com/example/firm_roles/firmroles/RoleRange" "lowIncluded" "Z" (.int (0 : Int32)) := (F2.other W24 (Or.inr (slot_ne (Or.inr w_101) (Or.inr w_99) (by decide) (t := .boolean) (t' := (.object "com/example/firm_roles/firmroles/Name")) (by decide) (by decide))))
  have fa27 : Exa Z h24 g "com/example/firm_roles/firmroles/RoleRange" := (E.keep K24)
  obtain ⟨T28, h28, X28, e28, W28, st28⟩ := putFN X24 hx hZ hown (hw _ (List.mem_of_getElem? (i := 100) rfl)) Via.refl e24 fa25 fa27 (Or.inr ⟨w_101, rfl, hnm⟩) w_32 (ty := .boolean) (v' := (.int li)) (by decide) (by rcases hli with rfl | rfl <;> rfl) (by rcases hli with rfl | rfl <;> rfl) (g := (mkF m 11 #[.val (.ref g), .val (.ref a), .val (.int li), .val (.ref b), .val (.int hi)] [(.int li), (.ref g)])) rfl rfl (own_d hby d10_11)
  have K28 := Keep.of_wr W28
  have N28 := Fr.snoc X28 N24 gg
  have KK2 : Keep h0 h28 [g] := KK1.trans K28 (allS (Or.inl (List.mem_of_getElem? (i := 0) rfl)) all0)
  have Zs2 : n0 ≤ h28.size := Nat.le_trans Zs1 K28.1
  have cc30 : Steps p.tables e below S0' (T28.setTop (mkF m 16 #[.val (.ref g), .val (.ref a), .val (.int li), .val (.ref b), .val (.int hi)] [(.ref b), (.ref g)])) := Steps.trans (cc26.trans (st28 _ (Steps.refl _))) (by
    refine XS.aloadN X28.here hx rfl (own_d hby d10_14) rfl rfl ?_
    refine XS.aloadN X28.here hx rfl (own_d hby d10_15) rfl rfl ?_
    exact Steps.refl _)
  have fa29 : Fld Z h28 g "com/example/firm_roles/firmroles/RoleRange" "high" "Lcom/example/firm_roles/firmroles/Name;" .null := ((F3.other W24 (Or.inr (slot_ne (Or.inr w_103) (Or.inr w_99) (by decide) (t := (.object "com/example/firm_roles/firmroles/Name")) (t' := (.object "com/example/firm_roles/firmroles/Name")) (by decide) (by decide)))).other W28 (Or.inr (slot_ne (Or.inr w_103) (Or.inr w_101) (by decide) (t := (.object "com/example/firm_roles/firmroles/Name")) (t' := .boolean) (by decide) (by decide))))
  have fa31 : Exa Z h28 g "com/example/firm_roles/firmroles/RoleRange" := (fa27.keep K28)
  obtain ⟨T32, h32, X32, e32, W32, st32⟩ := putF X28 hx hZ hown (host := "") (Or.inl (hw _ (List.mem_of_getElem? (i := 102) rfl))) Via.refl e28 fa29 fa31 (Or.inr ⟨w_103, rfl, hnm⟩) w_32 (ty := (.object "com/example/firm_roles/firmroles/Name")) (by decide) rfl rfl (g := (mkF m 16 #[.val (.ref g), .val (.ref a), .val (.int li), .val (.ref b), .val (.int hi)] [(.ref b), (.ref g)])) rfl rfl (own_d hby d10_16)
  have K32 := Keep.of_wr W32
  have N32 := Fr.snoc X32 N28 gg
  have KK3 : Keep h0 h32 [g] := KK2.trans K32 (allS (Or.inl (List.mem_of_getElem? (i := 0) rfl)) all0)
  have Zs3 : n0 ≤ h32.size := Nat.le_trans Zs2 K32.1
  have cc34 : Steps p.tables e below S0' (T32.setTop (mkF m 22 #[.val (.ref g), .val (.ref a), .val (.int li), .val (.ref b), .val (.int hi)] [(.int hi), (.ref g)])) := Steps.trans (cc30.trans (st32 _ (Steps.refl _))) (by
    refine XS.aloadN X32.here hx rfl (own_d hby d10_19) rfl rfl ?_
    refine XS.iload X32.here hx rfl (own_d hby d10_20) rfl ?_
    exact Steps.refl _)
  have fa33 : Fld Z h32 g "com/example/firm_roles/firmroles/RoleRange" "highIncluded" "Z" (.int (0 : Int32)) := (((F4.other W24 (Or.inr (slot_ne (Or.inr w_105) (Or.inr w_99) (by decide) (t := .boolean) (t' := (.object "com/example/firm_roles/firmroles/Name")) (by decide) (by decide)))).other W28 (Or.inr (slot_ne (Or.inr w_105) (Or.inr w_101) (by decide) (t := .boolean) (t' := .boolean) (by decide) (by decide)))).other W32 (Or.inr (slot_ne (Or.inr w_105) (Or.inr w_103) (by decide) (t := .boolean) (t' := (.object "com/example/firm_roles/firmroles/Name")) (by decide) (by decide))))
  have fa35 : Exa Z h32 g "com/example/firm_roles/firmroles/RoleRange" := (fa31.keep K32)
  obtain ⟨T36, h36, X36, e36, W36, st36⟩ := putFN X32 hx hZ hown (hw _ (List.mem_of_getElem? (i := 104) rfl)) Via.refl e32 fa33 fa35 (Or.inr ⟨w_105, rfl, hnm⟩) w_32 (ty := .boolean) (v' := (.int hi)) (by decide) (by rcases hhi with rfl | rfl <;> rfl) (by rcases hhi with rfl | rfl <;> rfl) (g := (mkF m 22 #[.val (.ref g), .val (.ref a), .val (.int li), .val (.ref b), .val (.int hi)] [(.int hi), (.ref g)])) rfl rfl (own_d hby d10_22)
  have K36 := Keep.of_wr W36
  have N36 := Fr.snoc X36 N32 gg
  have KK4 : Keep h0 h36 [g] := KK3.trans K36 (allS (Or.inl (List.mem_of_getElem? (i := 0) rfl)) all0)
  have Zs4 : n0 ≤ h36.size := Nat.le_trans Zs3 K36.1
  have cc38 : Steps p.tables e below S0' (T36.setTop (mkF m 25 #[.val (.ref g), .val (.ref a), .val (.int li), .val (.ref b), .val (.int hi)] [])) := (cc34.trans (st36 _ (Steps.refl _)))
  have fa37 : Fld Z h36 g "com/example/firm_roles/firmroles/RoleRange" "low" "Lcom/example/firm_roles/firmroles/Name;" (.ref a) := ((((Fld.same W24 F1).other W28 (Or.inr (slot_ne (Or.inr w_99) (Or.inr w_101) (by decide) (t := (.object "com/example/firm_roles/firmroles/Name")) (t' := .boolean) (by decide) (by decide)))).other W32 (Or.inr (slot_ne (Or.inr w_99) (Or.inr w_103) (by decide) (t := (.object "com/example/firm_roles/firmroles/Name")) (t' := (.object "com/example/firm_roles/firmroles/Name")) (by decide) (by decide)))).other W36 (Or.inr (slot_ne (Or.inr w_99) (Or.inr w_105) (by decide) (t := (.object "com/example/firm_roles/firmroles/Name")) (t' := .boolean) (by decide) (by decide))))
  have fa39 : Fld Z h36 g "com/example/firm_roles/firmroles/RoleRange" "lowIncluded" "Z" (.int li) := (((Fld.same W28 fa25).other W32 (Or.inr (slot_ne (Or.inr w_101) (Or.inr w_103) (by decide) (t := .boolean) (t' := (.object "com/example/firm_roles/firmroles/Name")) (by decide) (by decide)))).other W36 (Or.inr (slot_ne (Or.inr w_101) (Or.inr w_105) (by decide) (t := .boolean) (t' := .boolean) (by decide) (by decide))))
  have fa40 : Fld Z h36 g "com/example/firm_roles/firmroles/RoleRange" "high" "Lcom/example/firm_roles/firmroles/Name;" (.ref b) := ((Fld.same W32 fa29).other W36 (Or.inr (slot_ne (Or.inr w_103) (Or.inr w_105) (by decide) (t := (.object "com/example/firm_roles/firmroles/Name")) (t' := .boolean) (by decide) (by decide))))
  have cE := cc38
  rw [hS0'] at cE
  obtain ⟨fs, hr_, hrun, hended, hW, hsame⟩ := X36.leave (v := none) (fun _ => rfl)
  refine ⟨_, _, cE.trans (X36.returnOut hx Bd.returns (own_d hby d10_25) hr_), hrun, hended, _, _, rfl, ?_, ⟨_, rfl⟩, hW, hsame.mono (by first | decide | omega) (by first | decide | omega)⟩
  show Q_own_rin Z g a b li hi h0 n0 _ T36.heap _
  rw [e36]
  exact ⟨rfl, N36, KK4, fa37, fa39, fa40, (Fld.same W36 fa33)⟩
theorem own_ne_arv {Z : State} {h : Heap} {a t : Addr} {C : String} {k : ClassId} {ty : FieldType} {n : Int32} {vs : List Value} {dv : Value} {a0 : Array Value} {kk : Nat} (E : Exa Z h a C) (wi : (Jvm.Cond.instantiable C kk).before a0 Z = true) (A : Arv Z h t k ty n vs dv) : a ≠ t := by
  obtain ⟨c, A1, -⟩ := A
  exact ne_arr E wi A1
theorem own_take (bs : List Int32) : (List.range bs.length).map (fun i => (own_by bs).getD (0 + i) (.int (0 : Int32))) = own_by bs := by
  apply List.ext_getElem
  · simp
  · intro i h1 h2
    simp at h1
    simp [List.getD_eq_getElem?_getD, h1]
theorem own_by_app (bs cs : List Int32) : own_by (bs ++ cs) = own_by bs ++ own_by cs := by simp
theorem own_by_len (bs : List Int32) : (own_by bs).length = bs.length := by simp
theorem d11_0 : decode jdk_42_method_152_code 0 = .ok (.getstatic 38, 3) := by decide +kernel
theorem d11_3 : decode jdk_42_method_152_code 3 = .ok (.ifCond .eq 10, 3) := by decide +kernel
theorem d11_6 : decode jdk_42_method_152_code 6 = .ok (.aload_n 0, 1) := by decide +kernel
theorem d11_7 : decode jdk_42_method_152_code 7 = .ok (.getfield 15, 3) := by decide +kernel
theorem d11_10 : decode jdk_42_method_152_code 10 = .ok (.goto 4, 3) := by decide +kernel
theorem d11_14 : decode jdk_42_method_152_code 14 = .ok (.ireturn, 1) := by decide +kernel
def Q_own_coder (Z : State) (x : Addr) (z : Int32) (h0 : Heap) (n0 : Nat) (v : Option Value) (h : Heap) (L : List Loc) : Prop := v = some (.int 0) ∧ Fr n0 L ∧ h = h0
set_option maxRecDepth 65536 in
set_option maxHeartbeats 40000000 in
theorem own_coder (l : Launch) (Z : State) (a0 : Array Value) (hw : ∀ d ∈ tables_1, d.before a0 Z = true) (x : Addr) (z : Int32) (h0 : Heap) (n0 : Nat) (Z0 : n0 ≤ h0.size) (X00 : Old Z n0 h0) (O2 : Sta Z Z.heap "java/lang/String" "COMPACT_STRINGS" "Z" (.int z)) (P5 : ¬ z = 0) (C : Fld Z h0 x "java/lang/String" "coder" "B" (.int (0 : Int32))) :
    MetFree l (⟨"java/lang/String", "coder", "()B"⟩ : MethodName) (head1 [Jvm.Cond.code (⟨"java/lang/String", "coder", "()B"⟩ : MethodName) jdk_42_method_152_code 1 (some .byte)] ({ frames := 0, cells := 0, slots := 0, locals := 0 } : Room)) (fun a_ U_ => a_ = #[(.ref x)] ∧ Z.Warmed39 U_.vm ∧ U_.heap = h0) (fun _ _ _ _ _ => True) (fun _ U_ o_ V_ => ∃ v_ L_, o_ = .returned v_ ∧ Q_own_coder Z x z h0 n0 v_ V_.heap L_ ∧ FrameEnd U_ o_ V_ L_ ({ frames := 0, cells := 0, slots := 0, locals := 0 } : Room).cells ({ frames := 0, cells := 0, slots := 0, locals := 0 } : Room).slots) := by
  refine MetFree.of_bodySF (plainFor_of_name own_pn5) hisR ?_
  intro p e s m args below meth c s₁ Bd hml0 hP hK
  obtain ⟨rfl, hZ, hh⟩ := hP
  have hx := Bd.exec
  have hby := Bd.bytes
  have hml : c.maxLocals = 1 := hml0
  have hown : s.vm.findClass "java/lang/String" = some m.cls := findClass_of_methodNamed Bd.named
  have hnm := (name_of_methodNamed Bd.named Bd.method).1
  have X0 : Stand p l e ({ frames := 0, cells := 0, slots := 0, locals := 0 } : Room) s m #[(.ref x)] below meth c s₁ [] 0 0 := Stand.of_body Bd
  have e0 : s₁.heap = h0 := by rw [← hh, Bd.state]; rfl
  have N0 := Fr.nil n0
  have KK0 := Keep.refl h0 ([] : List Addr)
  have cc0 : Steps p.tables e below (s₁.setTop (entryFrame m #[(.ref x)] 1)) (s₁.setTop (mkF m 0 #[.val (.ref x)] [])) := XT.entry rfl
  obtain ⟨S0', hS0'⟩ : ∃ S, S = (s₁.setTop (entryFrame m #[(.ref x)] 1)) := ⟨_, rfl⟩
  rw [← hS0'] at cc0
  obtain ⟨T21, X21, e21, st21⟩ := getS2 X0 hx hZ hown (host := "") (Or.inl (hw _ (List.mem_of_getElem? (i := 9) rfl))) Via.refl e0 (O2.ext X00.2) (g := (mkF m 0 #[.val (.ref x)] [])) rfl (own_d hby d11_0)
  have cc22 : Steps p.tables e below S0' (T21.setTop (mkF m 7 #[.val (.ref x)] [(.ref x)])) := Steps.trans (cc0.trans (st21 _ (Steps.refl _))) (by
    refine XS.ifNo X21.here hx rfl (own_d hby d11_3) rfl (i0_eq_f P5) ?_
    refine XS.aloadN X21.here hx rfl (own_d hby d11_6) rfl rfl ?_
    exact Steps.refl _)
  obtain ⟨T23, X23, e23, st23⟩ := getF X21 hx hZ hown (host := "") (Or.inl (hw _ (List.mem_of_getElem? (i := 29) rfl))) Via.refl e21 C (g := (mkF m 7 #[.val (.ref x)] [(.ref x)])) rfl rfl (own_d hby d11_7)
  have cc24 : Steps p.tables e below S0' (T23.setTop (mkF m 14 #[.val (.ref x)] [(.int (0 : Int32))])) := Steps.trans (cc22.trans (st23 _ (Steps.refl _))) (by
    refine XS.goto X23.here hx rfl (pc0 := 10) rfl (own_d hby d11_10) (by decide) rfl ?_
    exact Steps.refl _)
  have cE := cc24
  rw [hS0'] at cE
  obtain ⟨fs, hr_, hrun, hended, hW, hsame⟩ := X23.leave (v := some (.int (0 : Int32))) (fun h => by rw [Bd.returns] at h; cases h)
  refine ⟨_, _, cE.trans (X23.ireturnOut hx Bd.returns (rfl) (by simp) (own_d hby d11_14) hr_), hrun, hended, _, _, rfl, ?_, ⟨_, rfl⟩, hW, hsame.mono (by first | decide | omega) (by first | decide | omega)⟩
  show Q_own_coder Z x z h0 n0 _ T23.heap _
  rw [e23]
  exact ⟨rfl, N0, rfl⟩
theorem d12_0 : decode jdk_68_method_2_code 0 = .ok (.aload_n 0, 1) := by decide +kernel
theorem d12_1 : decode jdk_68_method_2_code 1 = .ok (.invokespecial 3, 3) := by decide +kernel
theorem d12_4 : decode jdk_68_method_2_code 4 = .ok (.getstatic 18, 3) := by decide +kernel
theorem d12_7 : decode jdk_68_method_2_code 7 = .ok (.ifCond .eq 18, 3) := by decide +kernel
theorem d12_10 : decode jdk_68_method_2_code 10 = .ok (.aload_n 0, 1) := by decide +kernel
theorem d12_11 : decode jdk_68_method_2_code 11 = .ok (.iload_n 1, 1) := by decide +kernel
theorem d12_12 : decode jdk_68_method_2_code 12 = .ok (.newarray .byte, 2) := by decide +kernel
theorem d12_14 : decode jdk_68_method_2_code 14 = .ok (.putfield 15, 3) := by decide +kernel
theorem d12_17 : decode jdk_68_method_2_code 17 = .ok (.aload_n 0, 1) := by decide +kernel
theorem d12_18 : decode jdk_68_method_2_code 18 = .ok (.iconst 0, 1) := by decide +kernel
theorem d12_19 : decode jdk_68_method_2_code 19 = .ok (.putfield 22, 3) := by decide +kernel
theorem d12_22 : decode jdk_68_method_2_code 22 = .ok (.goto 16, 3) := by decide +kernel
theorem d12_38 : decode jdk_68_method_2_code 38 = .ok (.return_, 1) := by decide +kernel
def Q_own_asb0 (Z : State) (b : Addr) (z : Int32) (h0 : Heap) (n0 : Nat) (v : Option Value) (h : Heap) (L : List Loc) : Prop := ∃ (t : Addr) (kt : ClassId), v = none ∧ Fr n0 L ∧ Keep h0 h [b] ∧ h0.size ≤ t ∧ Fld Z h b "java/lang/AbstractStringBuilder" "coder" "B" (.int (0 : Int32)) ∧ Fld Z h b "java/lang/AbstractStringBuilder" "count" "I" (.int (Int32.ofNat ([] : List Int32).length)) ∧ Fld Z h b "java/lang/AbstractStringBuilder" "value" "[B" (.ref t) ∧ Arv Z h t kt .byte (16 : Int32) (own_by ([] : List Int32)) (.int (0 : Int32))
set_option maxRecDepth 65536 in
set_option maxHeartbeats 40000000 in
theorem own_asb0 (l : Launch) (Z : State) (a0 : Array Value) (hw : ∀ d ∈ tables_1, d.before a0 Z = true) (b : Addr) (z : Int32) (h0 : Heap) (n0 : Nat) (Z0 : n0 ≤ h0.size) (X00 : Old Z n0 h0) (O2 : Sta Z Z.heap "java/lang/String" "COMPACT_STRINGS" "Z" (.int z)) (P5 : ¬ z = 0) (E : Exa Z h0 b "java/lang/StringBuilder") (V : Fld Z h0 b "java/lang/AbstractStringBuilder" "value" "[B" .null) (C : Fld Z h0 b "java/lang/AbstractStringBuilder" "coder" "B" (.int (0 : Int32))) (N : Fld Z h0 b "java/lang/AbstractStringBuilder" "count" "I" (.int (0 : Int32))) (gb : n0 ≤ b) :
    MetFree l (⟨"java/lang/AbstractStringBuilder", "<init>", "(I)V"⟩ : MethodName) (head1 [Jvm.Cond.code (⟨"java/lang/AbstractStringBuilder", "<init>", "(I)V"⟩ : MethodName) jdk_68_method_2_code 2 none] ({ frames := 1, cells := 1, slots := 16, locals := 12 } : Room)) (fun a_ U_ => a_ = #[(.ref b), (.int 16)] ∧ Z.Warmed39 U_.vm ∧ U_.heap = h0) (fun _ _ _ _ _ => True) (fun _ U_ o_ V_ => ∃ v_ L_, o_ = .returned v_ ∧ Q_own_asb0 Z b z h0 n0 v_ V_.heap L_ ∧ FrameEnd U_ o_ V_ L_ ({ frames := 1, cells := 1, slots := 16, locals := 12 } : Room).cells ({ frames := 1, cells := 1, slots := 16, locals := 12 } : Room).slots) := by
  refine MetFree.of_bodySF (plainFor_of_name own_pn7) hisR ?_
  intro p e s m args below meth c s₁ Bd hml0 hP hK
  obtain ⟨rfl, hZ, hh⟩ := hP
  have hx := Bd.exec
  have hby := Bd.bytes
  have hml : c.maxLocals = 2 := hml0
  have hown : s.vm.findClass "java/lang/AbstractStringBuilder" = some m.cls := findClass_of_methodNamed Bd.named
  have hnm := (name_of_methodNamed Bd.named Bd.method).1
  have X0 : Stand p l e ({ frames := 1, cells := 1, slots := 16, locals := 12 } : Room) s m #[(.ref b), (.int 16)] below meth c s₁ [] 0 0 := Stand.of_body Bd
  have e0 : s₁.heap = h0 := by rw [← hh, Bd.state]; rfl
  have N0 := Fr.nil n0
  have KK0 := Keep.refl h0 [b]
  have cc0 : Steps p.tables e below (s₁.setTop (entryFrame m #[(.ref b), (.int 16)] 2)) (s₁.setTop (mkF m 0 #[.val (.ref b), .val (.int 16)] [])) := XT.entry rfl
  obtain ⟨S0', hS0'⟩ : ∃ S, S = (s₁.setTop (entryFrame m #[(.ref b), (.int 16)] 2)) := ⟨_, rfl⟩
  rw [← hS0'] at cc0
  have w_112 := hw _ (List.mem_of_getElem? (i := 112) rfl)
  have w_126 := hw _ (List.mem_of_getElem? (i := 126) rfl)
  have w_128 := hw _ (List.mem_of_getElem? (i := 128) rfl)
  have w_142 := hw _ (List.mem_of_getElem? (i := 142) rfl)
  have cc21 : Steps p.tables e below S0' (s₁.setTop (mkF m 1 #[.val (.ref b), .val (.int 16)] [(.ref b)])) := Steps.trans cc0 (by
    refine XS.aloadN X0.here hx rfl (own_d hby d12_0) rfl rfl ?_
    exact Steps.refl _)
  obtain ⟨T22, X22, e22, st22⟩ := initO X0 hx hZ hown (hw _ (List.mem_of_getElem? (i := 123) rfl)) (hw _ (List.mem_of_getElem? (i := 25) rfl)) (hw _ (List.mem_of_getElem? (i := 26) rfl)) e0 (g := (mkF m 1 #[.val (.ref b), .val (.int 16)] [(.ref b)])) rfl (by rw [hml]; rfl) rfl (own_d hby d12_1) (by decide) (W := 0) (by show 2 * 0 + _ ≤ _; exact Nat.le_of_eq rfl) (by decide)
  have cc23 : Steps p.tables e below S0' (T22.setTop (mkF m 4 #[.val (.ref b), .val (.int 16)] [])) := (cc21.trans (st22 _ (Steps.refl _)))
  obtain ⟨T24, X24, e24, st24⟩ := getS2 X22 hx hZ hown (host := "") (Or.inl (hw _ (List.mem_of_getElem? (i := 124) rfl))) Via.refl e22 (O2.ext X00.2) (g := (mkF m 4 #[.val (.ref b), .val (.int 16)] [])) rfl (own_d hby d12_4)
  have cc25 : Steps p.tables e below S0' (T24.setTop (mkF m 12 #[.val (.ref b), .val (.int 16)] [(.int 16), (.ref b)])) := Steps.trans (cc23.trans (st24 _ (Steps.refl _))) (by
    refine XS.ifNo X24.here hx rfl (own_d hby d12_7) rfl (i0_eq_f P5) ?_
    refine XS.aloadN X24.here hx rfl (own_d hby d12_10) rfl rfl ?_
    refine XS.iloadN X24.here hx rfl (own_d hby d12_11) rfl ?_
    exact Steps.refl _)
  obtain ⟨T26, h26, k26, X26, e26, E26, A26, st26⟩ := newP X24 hx hZ (aty := .byte) (hw _ (List.mem_of_getElem? (i := 19) rfl)) e24 (g := (mkF m 12 #[.val (.ref b), .val (.int 16)] [(.int 16), (.ref b)])) rfl (own_d hby d12_12) rfl (by decide) (cap := 16) (by decide) (by decide) (by decide) (by decide)
  obtain ⟨t, g_t⟩ : ∃ z, z = h0.size := ⟨_, rfl⟩
  rw [← g_t] at A26 st26
  have K26 := (Keep.refl h0 ([] : List Addr)).ext E26
  have b_t : h0.size ≤ t := (Nat.le_of_eq g_t.symm)
  have gn_t : n0 ≤ t := Nat.le_trans Z0 b_t
  have s0_t : h0.size ≤ t := Nat.le_trans KK0.1 b_t
  have ne_b_t : b ≠ t := Nat.ne_of_lt (Nat.lt_of_lt_of_le E.lt b_t)
  have KK1 : Keep h0 h26 [b] := KK0.trans K26 all0
  have Zs1 : n0 ≤ h26.size := Nat.le_trans Z0 K26.1
  have cc28 : Steps p.tables e below S0' (T26.setTop (mkF m 14 #[.val (.ref b), .val (.int 16)] [(.ref t), (.ref b)])) := (cc25.trans (st26 _ (Steps.refl _)))
  have fa27 : Fld Z h26 b "java/lang/AbstractStringBuilder" "value" "[B" .null := (V.keep K26 nin0)
  have fa29 : Exa Z h26 b "java/lang/StringBuilder" := (E.keep K26)
  obtain ⟨T30, h30, X30, e30, W30, st30⟩ := putF X26 hx hZ hown (host := "") (Or.inl (hw _ (List.mem_of_getElem? (i := 125) rfl))) Via.refl e26 fa27 fa29 (Or.inl w_126) w_112 (ty := (.array .byte)) (by decide) rfl rfl (g := (mkF m 14 #[.val (.ref b), .val (.int 16)] [(.ref t), (.ref b)])) rfl rfl (own_d hby d12_14)
  have K30 := Keep.of_wr W30
  have N30 := Fr.snoc X30 N0 gb
  have KK2 : Keep h0 h30 [b] := KK1.trans K30 (allS (Or.inl (List.mem_of_getElem? (i := 0) rfl)) all0)
  have Zs2 : n0 ≤ h30.size := Nat.le_trans Zs1 K30.1
  have cc32 : Steps p.tables e below S0' (T30.setTop (mkF m 19 #[.val (.ref b), .val (.int 16)] [(.int 0), (.ref b)])) := Steps.trans (cc28.trans (st30 _ (Steps.refl _))) (by
    refine XS.aloadN X30.here hx rfl (own_d hby d12_17) rfl rfl ?_
    refine iconstV X30.here hx rfl 0 (own_d hby d12_18) (by decide) ?_
    exact Steps.refl _)
  have fa31 : Fld Z h30 b "java/lang/AbstractStringBuilder" "coder" "B" (.int (0 : Int32)) := ((C.keep K26 nin0).other W30 (Or.inr (slot_ne (Or.inl w_128) (Or.inl w_126) (by decide) (t := .byte) (t' := (.array .byte)) (by decide) (by decide))))
  have fa33 : Exa Z h30 b "java/lang/StringBuilder" := (fa29.keep K30)
  obtain ⟨T34, h34, X34, e34, W34, st34⟩ := putFN X30 hx hZ hown (hw _ (List.mem_of_getElem? (i := 127) rfl)) Via.refl e30 fa31 fa33 (Or.inl w_128) w_112 (ty := .byte) (v' := (.int (0 : Int32))) (by decide) rfl rfl (g := (mkF m 19 #[.val (.ref b), .val (.int 16)] [(.int 0), (.ref b)])) rfl rfl (own_d hby d12_19)
  have K34 := Keep.of_wr W34
  have N34 := Fr.snoc X34 N30 gb
  have KK3 : Keep h0 h34 [b] := KK2.trans K34 (allS (Or.inl (List.mem_of_getElem? (i := 0) rfl)) all0)
  have Zs3 : n0 ≤ h34.size := Nat.le_trans Zs2 K34.1
  have cc36 : Steps p.tables e below S0' (T34.setTop (mkF m 38 #[.val (.ref b), .val (.int 16)] [])) := Steps.trans (cc32.trans (st34 _ (Steps.refl _))) (by
    refine XS.goto X34.here hx rfl (pc0 := 22) rfl (own_d hby d12_22) (by decide) rfl ?_
    exact Steps.refl _)
  have fa35 : Fld Z h34 b "java/lang/AbstractStringBuilder" "count" "I" (.int (0 : Int32)) := (((N.keep K26 nin0).other W30 (Or.inr (slot_ne (Or.inl w_142) (Or.inl w_126) (by decide) (t := .int) (t' := (.array .byte)) (by decide) (by decide)))).other W34 (Or.inr (slot_ne (Or.inl w_142) (Or.inl w_128) (by decide) (t := .int) (t' := .byte) (by decide) (by decide))))
  have fa37 : Fld Z h34 b "java/lang/AbstractStringBuilder" "value" "[B" (.ref t) := ((Fld.same W30 fa27).other W34 (Or.inr (slot_ne (Or.inl w_126) (Or.inl w_128) (by decide) (t := (.array .byte)) (t' := .byte) (by decide) (by decide))))
  have fa38 : Arv Z h34 t k26 .byte (16 : Int32) ([]) (.int (0 : Int32)) := (((Arv.new A26 (by decide)).keep K30 (ninS (Ne.symm ne_b_t) nin0)).keep K34 (ninS (Ne.symm ne_b_t) nin0))
  have cE := cc36
  rw [hS0'] at cE
  obtain ⟨fs, hr_, hrun, hended, hW, hsame⟩ := X34.leave (v := none) (fun _ => rfl)
  refine ⟨_, _, cE.trans (X34.returnOut hx Bd.returns (own_d hby d12_38) hr_), hrun, hended, _, _, rfl, ?_, ⟨_, rfl⟩, hW, hsame.mono (by first | decide | omega) (by first | decide | omega)⟩
  show Q_own_asb0 Z b z h0 n0 _ T34.heap _
  rw [e34]
  exact ⟨t, _, rfl, N34, KK3, s0_t, (Fld.same W34 fa31), fa35, fa37, fa38⟩
theorem d13_0 : decode jdk_67_method_1_code 0 = .ok (.aload_n 0, 1) := by decide +kernel
theorem d13_1 : decode jdk_67_method_1_code 1 = .ok (.bipush 16, 2) := by decide +kernel
theorem d13_3 : decode jdk_67_method_1_code 3 = .ok (.invokespecial 1, 3) := by decide +kernel
theorem d13_6 : decode jdk_67_method_1_code 6 = .ok (.return_, 1) := by decide +kernel
def Q_own_sb0 (Z : State) (b : Addr) (z : Int32) (h0 : Heap) (n0 : Nat) (v : Option Value) (h : Heap) (L : List Loc) : Prop := ∃ (t : Addr) (kt : ClassId), v = none ∧ Fr n0 L ∧ Keep h0 h [b] ∧ h0.size ≤ t ∧ Fld Z h b "java/lang/AbstractStringBuilder" "coder" "B" (.int (0 : Int32)) ∧ Fld Z h b "java/lang/AbstractStringBuilder" "count" "I" (.int (Int32.ofNat ([] : List Int32).length)) ∧ Fld Z h b "java/lang/AbstractStringBuilder" "value" "[B" (.ref t) ∧ Arv Z h t kt .byte (16 : Int32) (own_by ([] : List Int32)) (.int (0 : Int32))
set_option maxRecDepth 65536 in
set_option maxHeartbeats 40000000 in
theorem own_sb0 (l : Launch) (Z : State) (a0 : Array Value) (hw : ∀ d ∈ tables_1, d.before a0 Z = true) (b : Addr) (z : Int32) (h0 : Heap) (n0 : Nat) (Z0 : n0 ≤ h0.size) (X00 : Old Z n0 h0) (O2 : Sta Z Z.heap "java/lang/String" "COMPACT_STRINGS" "Z" (.int z)) (P5 : ¬ z = 0) (E : Exa Z h0 b "java/lang/StringBuilder") (V : Fld Z h0 b "java/lang/AbstractStringBuilder" "value" "[B" .null) (C : Fld Z h0 b "java/lang/AbstractStringBuilder" "coder" "B" (.int (0 : Int32))) (N : Fld Z h0 b "java/lang/AbstractStringBuilder" "count" "I" (.int (0 : Int32))) (gb : n0 ≤ b) :
    MetFree l (⟨"java/lang/StringBuilder", "<init>", "()V"⟩ : MethodName) (head1 [Jvm.Cond.code (⟨"java/lang/StringBuilder", "<init>", "()V"⟩ : MethodName) jdk_67_method_1_code 1 none] ({ frames := 2, cells := 1, slots := 16, locals := 25 } : Room)) (fun a_ U_ => a_ = #[(.ref b)] ∧ Z.Warmed39 U_.vm ∧ U_.heap = h0) (fun _ _ _ _ _ => True) (fun _ U_ o_ V_ => ∃ v_ L_, o_ = .returned v_ ∧ Q_own_sb0 Z b z h0 n0 v_ V_.heap L_ ∧ FrameEnd U_ o_ V_ L_ ({ frames := 2, cells := 1, slots := 16, locals := 25 } : Room).cells ({ frames := 2, cells := 1, slots := 16, locals := 25 } : Room).slots) := by
  refine MetFree.of_bodySF (plainFor_of_name own_pn8) hisR ?_
  intro p e s m args below meth c s₁ Bd hml0 hP hK
  obtain ⟨rfl, hZ, hh⟩ := hP
  have hx := Bd.exec
  have hby := Bd.bytes
  have hml : c.maxLocals = 1 := hml0
  have hown : s.vm.findClass "java/lang/StringBuilder" = some m.cls := findClass_of_methodNamed Bd.named
  have hnm := (name_of_methodNamed Bd.named Bd.method).1
  have X0 : Stand p l e ({ frames := 2, cells := 1, slots := 16, locals := 25 } : Room) s m #[(.ref b)] below meth c s₁ [] 0 0 := Stand.of_body Bd
  have e0 : s₁.heap = h0 := by rw [← hh, Bd.state]; rfl
  have N0 := Fr.nil n0
  have KK0 := Keep.refl h0 [b]
  have cc0 : Steps p.tables e below (s₁.setTop (entryFrame m #[(.ref b)] 1)) (s₁.setTop (mkF m 0 #[.val (.ref b)] [])) := XT.entry rfl
  obtain ⟨S0', hS0'⟩ : ∃ S, S = (s₁.setTop (entryFrame m #[(.ref b)] 1)) := ⟨_, rfl⟩
  rw [← hS0'] at cc0
  have w_122 := hw _ (List.mem_of_getElem? (i := 122) rfl)
  have cc21 : Steps p.tables e below S0' (s₁.setTop (mkF m 3 #[.val (.ref b)] [(.int 16), (.ref b)])) := Steps.trans cc0 (by
    refine XS.aloadN X0.here hx rfl (own_d hby d13_0) rfl rfl ?_
    refine bipushV X0.here hx rfl 16 (own_d hby d13_1) (by decide) ?_
    exact Steps.refl _)
  obtain ⟨_, _, ⟨T22, L22, k22, n22⟩, -, X22, ⟨Lc22, hQ22, l22, y22, z22⟩, st22⟩ := X0.specialBack hx (y := (⟨"java/lang/AbstractStringBuilder", "<init>", "(I)V"⟩ : MethodName)) rfl hown (mvT hZ (hw _ (List.mem_of_getElem? (i := 117) rfl))) (mvT hZ (hw _ (List.mem_of_getElem? (i := 118) rfl))) (mvT hZ w_122) (by decide) (backOf (W := 0) (own_asb0 l Z a0 hw b z h0 n0 Z0 X00 O2 P5 E V C N gb) hZ w_122 (hw _ (List.mem_of_getElem? (i := 121) rfl)) (by decide) (by decide)) (g := (mkF m 3 #[.val (.ref b)] [(.int 16), (.ref b)])) rfl (by rw [hml]; rfl) (Steps.refl _) (a := b) (argsL := [(.int 16)]) (rest := []) (lenOf own_pd8 rfl) rfl (by show 2 * 0 + _ ≤ _; exact Nat.le_of_eq rfl) (own_d hby d13_3) (fun _ _ => ⟨rfl, e0, Nat.le_of_ble_eq_true rfl, Nat.le_of_ble_eq_true rfl⟩)
  dsimp only [Pt.U, Pt.locs, Pt.cells, Pt.slots] at X22 l22 y22 z22 st22 hQ22
  subst l22 y22 z22
  obtain ⟨t, kt, rfl, Nq22, Kq22, s0q22, f122, f222, f322, f422⟩ := hQ22
  have N22 := Fr.app N0 Nq22
  have KK1 : Keep h0 T22.heap [b] := KK0.trans Kq22 (allS (Or.inl (List.mem_of_getElem? (i := 0) rfl)) all0)
  have Zs1 : n0 ≤ T22.heap.size := Nat.le_trans Z0 Kq22.1
  have e22 : T22.heap = T22.heap := rfl
  have cc23 : Steps p.tables e below S0' (T22.setTop (mkF m 6 #[.val (.ref b)] [])) := (Steps.trans cc21 st22)
  have cE := cc23
  rw [hS0'] at cE
  obtain ⟨fs, hr_, hrun, hended, hW, hsame⟩ := X22.leave (v := none) (fun _ => rfl)
  refine ⟨_, _, cE.trans (X22.returnOut hx Bd.returns (own_d hby d13_6) hr_), hrun, hended, _, _, rfl, ?_, ⟨_, rfl⟩, hW, hsame.mono (by first | decide | omega) (by first | decide | omega)⟩
  show Q_own_sb0 Z b z h0 n0 _ T22.heap _
  rw [e22]
  exact ⟨t, kt, rfl, N22, KK1, s0q22, f122, f222, f322, f422⟩
theorem own_cap {n : Nat} (h : n ≤ 16) : ¬ (0 : Int32) < Int32.ofNat n - ((16 : Int32) >>> ((0 : Int32) &&& 31)) := by
  have t : ∀ k : Fin 17, ¬ (0 : Int32) < Int32.ofNat k.val - ((16 : Int32) >>> ((0 : Int32) &&& 31)) := by decide +kernel
  exact t ⟨n, by omega⟩
theorem d14_0 : decode jdk_68_method_9_code 0 = .ok (.aload_n 0, 1) := by decide +kernel
theorem d14_1 : decode jdk_68_method_9_code 1 = .ok (.getfield 15, 3) := by decide +kernel
theorem d14_4 : decode jdk_68_method_9_code 4 = .ok (.arraylength, 1) := by decide +kernel
theorem d14_5 : decode jdk_68_method_9_code 5 = .ok (.aload_n 0, 1) := by decide +kernel
theorem d14_6 : decode jdk_68_method_9_code 6 = .ok (.getfield 22, 3) := by decide +kernel
theorem d14_9 : decode jdk_68_method_9_code 9 = .ok (.ishr, 1) := by decide +kernel
theorem d14_10 : decode jdk_68_method_9_code 10 = .ok (.istore_n 2, 1) := by decide +kernel
theorem d14_11 : decode jdk_68_method_9_code 11 = .ok (.iload_n 1, 1) := by decide +kernel
theorem d14_12 : decode jdk_68_method_9_code 12 = .ok (.iload_n 2, 1) := by decide +kernel
theorem d14_13 : decode jdk_68_method_9_code 13 = .ok (.isub, 1) := by decide +kernel
theorem d14_14 : decode jdk_68_method_9_code 14 = .ok (.ifCond .le 24, 3) := by decide +kernel
theorem d14_38 : decode jdk_68_method_9_code 38 = .ok (.return_, 1) := by decide +kernel
def Q_own_eci (Z : State) (b t : Addr) (kt : ClassId) (bs : List Int32) (n : Nat) (h0 : Heap) (n0 : Nat) (v : Option Value) (h : Heap) (L : List Loc) : Prop := v = none ∧ Fr n0 L ∧ h = h0
set_option maxRecDepth 65536 in
set_option maxHeartbeats 40000000 in
theorem own_eci (l : Launch) (Z : State) (a0 : Array Value) (hw : ∀ d ∈ tables_1, d.before a0 Z = true) (b t : Addr) (kt : ClassId) (bs : List Int32) (n : Nat) (h0 : Heap) (n0 : Nat) (Z0 : n0 ≤ h0.size) (E : Exa Z h0 b "java/lang/StringBuilder") (C : Fld Z h0 b "java/lang/AbstractStringBuilder" "coder" "B" (.int (0 : Int32))) (N : Fld Z h0 b "java/lang/AbstractStringBuilder" "count" "I" (.int (Int32.ofNat bs.length))) (V : Fld Z h0 b "java/lang/AbstractStringBuilder" "value" "[B" (.ref t)) (A : Arv Z h0 t kt .byte (16 : Int32) (own_by bs) (.int (0 : Int32))) (hn : n ≤ 16) :
    MetFree l (⟨"java/lang/AbstractStringBuilder", "ensureCapacityInternal", "(I)V"⟩ : MethodName) (head1 [Jvm.Cond.code (⟨"java/lang/AbstractStringBuilder", "ensureCapacityInternal", "(I)V"⟩ : MethodName) jdk_68_method_9_code 3 none] ({ frames := 0, cells := 0, slots := 0, locals := 0 } : Room)) (fun a_ U_ => a_ = #[(.ref b), (.int (Int32.ofNat n))] ∧ Z.Warmed39 U_.vm ∧ U_.heap = h0) (fun _ _ _ _ _ => True) (fun _ U_ o_ V_ => ∃ v_ L_, o_ = .returned v_ ∧ Q_own_eci Z b t kt bs n h0 n0 v_ V_.heap L_ ∧ FrameEnd U_ o_ V_ L_ ({ frames := 0, cells := 0, slots := 0, locals := 0 } : Room).cells ({ frames := 0, cells := 0, slots := 0, locals := 0 } : Room).slots) := by
  refine MetFree.of_bodySF (plainFor_of_name own_pn7) hisR ?_
  intro p e s m args below meth c s₁ Bd hml0 hP hK
  obtain ⟨rfl, hZ, hh⟩ := hP
  have hx := Bd.exec
  have hby := Bd.bytes
  have hml : c.maxLocals = 3 := hml0
  have hown : s.vm.findClass "java/lang/AbstractStringBuilder" = some m.cls := findClass_of_methodNamed Bd.named
  have hnm := (name_of_methodNamed Bd.named Bd.method).1
  have X0 : Stand p l e ({ frames := 0, cells := 0, slots := 0, locals := 0 } : Room) s m #[(.ref b), (.int (Int32.ofNat n))] below meth c s₁ [] 0 0 := Stand.of_body Bd
  have e0 : s₁.heap = h0 := by rw [← hh, Bd.state]; rfl
  have N0 := Fr.nil n0
  have KK0 := Keep.refl h0 ([] : List Addr)
  have cc0 : Steps p.tables e below (s₁.setTop (entryFrame m #[(.ref b), (.int (Int32.ofNat n))] 3)) (s₁.setTop (mkF m 0 #[.val (.ref b), .val (.int (Int32.ofNat n)), .unset] [])) := XT.entry rfl
  obtain ⟨S0', hS0'⟩ : ∃ S, S = (s₁.setTop (entryFrame m #[(.ref b), (.int (Int32.ofNat n))] 3)) := ⟨_, rfl⟩
  rw [← hS0'] at cc0
  have cc21 : Steps p.tables e below S0' (s₁.setTop (mkF m 1 #[.val (.ref b), .val (.int (Int32.ofNat n)), .unset] [(.ref b)])) := Steps.trans cc0 (by
    refine XS.aloadN X0.here hx rfl (own_d hby d14_0) rfl rfl ?_
    exact Steps.refl _)
  obtain ⟨T22, X22, e22, st22⟩ := getF X0 hx hZ hown (host := "") (Or.inl (hw _ (List.mem_of_getElem? (i := 125) rfl))) Via.refl e0 V (g := (mkF m 1 #[.val (.ref b), .val (.int (Int32.ofNat n)), .unset] [(.ref b)])) rfl rfl (own_d hby d14_1)
  have cc23 : Steps p.tables e below S0' (T22.setTop (mkF m 4 #[.val (.ref b), .val (.int (Int32.ofNat n)), .unset] [(.ref t)])) := (cc21.trans (st22 _ (Steps.refl _)))
  obtain ⟨clu24, Aru24, -, Su24, Ngu24, -, -⟩ := id A
  have cl_u24 := X22.arraylength hx (by rw [e22]; exact Aru24.1) (State.isArrayOf_alike (hZ).alike Aru24.2.1) (g := (mkF m 4 #[.val (.ref b), .val (.int (Int32.ofNat n)), .unset] [(.ref t)])) rfl rfl (own_d hby d14_4) _ (Steps.refl _)
  rw [len_of Su24 Ngu24] at cl_u24
  have cc25 : Steps p.tables e below S0' (T22.setTop (mkF m 6 #[.val (.ref b), .val (.int (Int32.ofNat n)), .unset] [(.ref b), (.int (16 : Int32))])) := Steps.trans (Steps.trans cc23 cl_u24) (by
    refine XS.aloadN X22.here hx rfl (own_d hby d14_5) rfl rfl ?_
    exact Steps.refl _)
  obtain ⟨T26, X26, e26, st26⟩ := getF X22 hx hZ hown (host := "") (Or.inl (hw _ (List.mem_of_getElem? (i := 127) rfl))) Via.refl e22 C (g := (mkF m 6 #[.val (.ref b), .val (.int (Int32.ofNat n)), .unset] [(.ref b), (.int (16 : Int32))])) rfl rfl (own_d hby d14_6)
  have cc27 : Steps p.tables e below S0' (T26.setTop (mkF m 38 #[.val (.ref b), .val (.int (Int32.ofNat n)), .val (.int ((16 : Int32) >>> ((0 : Int32) &&& 31)))] [])) := Steps.trans (cc25.trans (st26 _ (Steps.refl _))) (by
    refine XT.ishr X26.here hx rfl (own_d hby d14_9) rfl ?_
    refine XS.istoreN X26.here hx rfl (own_d hby d14_10) rfl rfl ?_
    refine XS.iloadN X26.here hx rfl (own_d hby d14_11) rfl ?_
    refine XS.iloadN X26.here hx rfl (own_d hby d14_12) rfl ?_
    refine XS.isub X26.here hx rfl (own_d hby d14_13) rfl ?_
    refine XS.ifYes X26.here hx rfl (pc0 := 14) rfl (own_d hby d14_14) rfl (i0_le_t (own_cap hn)) (by decide) rfl ?_
    exact Steps.refl _)
  have cE := cc27
  rw [hS0'] at cE
  obtain ⟨fs, hr_, hrun, hended, hW, hsame⟩ := X26.leave (v := none) (fun _ => rfl)
  refine ⟨_, _, cE.trans (X26.returnOut hx Bd.returns (own_d hby d14_38) hr_), hrun, hended, _, _, rfl, ?_, ⟨_, rfl⟩, hW, hsame.mono (by first | decide | omega) (by first | decide | omega)⟩
  show Q_own_eci Z b t kt bs n h0 n0 _ T26.heap _
  rw [e26]
  exact ⟨rfl, N0, rfl⟩
theorem d15_0 : decode jdk_68_method_71_code 0 = .ok (.getstatic 18, 3) := by decide +kernel
theorem d15_3 : decode jdk_68_method_71_code 3 = .ok (.ifCond .eq 18, 3) := by decide +kernel
theorem d15_6 : decode jdk_68_method_71_code 6 = .ok (.aload_n 0, 1) := by decide +kernel
theorem d15_7 : decode jdk_68_method_71_code 7 = .ok (.getfield 22, 3) := by decide +kernel
theorem d15_10 : decode jdk_68_method_71_code 10 = .ok (.aload_n 1, 1) := by decide +kernel
theorem d15_11 : decode jdk_68_method_71_code 11 = .ok (.invokevirtual 40, 3) := by decide +kernel
theorem d15_14 : decode jdk_68_method_71_code 14 = .ok (.if_icmp .eq 7, 3) := by decide +kernel
theorem d15_21 : decode jdk_68_method_71_code 21 = .ok (.return_, 1) := by decide +kernel
def Q_own_ifn (Z : State) (b s1 : Addr) (z : Int32) (h0 : Heap) (n0 : Nat) (v : Option Value) (h : Heap) (L : List Loc) : Prop := v = none ∧ Fr n0 L ∧ h = h0
set_option maxRecDepth 65536 in
set_option maxHeartbeats 40000000 in
theorem own_ifn (l : Launch) (Z : State) (a0 : Array Value) (hw : ∀ d ∈ tables_1, d.before a0 Z = true) (b s1 : Addr) (z : Int32) (h0 : Heap) (n0 : Nat) (Z0 : n0 ≤ h0.size) (X00 : Old Z n0 h0) (O2 : Sta Z Z.heap "java/lang/String" "COMPACT_STRINGS" "Z" (.int z)) (P5 : ¬ z = 0) (C : Fld Z h0 b "java/lang/AbstractStringBuilder" "coder" "B" (.int (0 : Int32))) (Es : Exa Z h0 s1 "java/lang/String") (Cs : Fld Z h0 s1 "java/lang/String" "coder" "B" (.int (0 : Int32))) :
    MetFree l (⟨"java/lang/AbstractStringBuilder", "inflateIfNeededFor", "(Ljava/lang/String;)V"⟩ : MethodName) (head1 [Jvm.Cond.code (⟨"java/lang/AbstractStringBuilder", "inflateIfNeededFor", "(Ljava/lang/String;)V"⟩ : MethodName) jdk_68_method_71_code 2 none] ({ frames := 1, cells := 0, slots := 0, locals := 13 } : Room)) (fun a_ U_ => a_ = #[(.ref b), (.ref s1)] ∧ Z.Warmed39 U_.vm ∧ U_.heap = h0) (fun _ _ _ _ _ => True) (fun _ U_ o_ V_ => ∃ v_ L_, o_ = .returned v_ ∧ Q_own_ifn Z b s1 z h0 n0 v_ V_.heap L_ ∧ FrameEnd U_ o_ V_ L_ ({ frames := 1, cells := 0, slots := 0, locals := 13 } : Room).cells ({ frames := 1, cells := 0, slots := 0, locals := 13 } : Room).slots) := by
  refine MetFree.of_bodySF (plainFor_of_name own_pn7) hisR ?_
  intro p e s m args below meth c s₁ Bd hml0 hP hK
  obtain ⟨rfl, hZ, hh⟩ := hP
  have hx := Bd.exec
  have hby := Bd.bytes
  have hml : c.maxLocals = 2 := hml0
  have hown : s.vm.findClass "java/lang/AbstractStringBuilder" = some m.cls := findClass_of_methodNamed Bd.named
  have hnm := (name_of_methodNamed Bd.named Bd.method).1
  have X0 : Stand p l e ({ frames := 1, cells := 0, slots := 0, locals := 13 } : Room) s m #[(.ref b), (.ref s1)] below meth c s₁ [] 0 0 := Stand.of_body Bd
  have e0 : s₁.heap = h0 := by rw [← hh, Bd.state]; rfl
  have N0 := Fr.nil n0
  have KK0 := Keep.refl h0 ([] : List Addr)
  have cc0 : Steps p.tables e below (s₁.setTop (entryFrame m #[(.ref b), (.ref s1)] 2)) (s₁.setTop (mkF m 0 #[.val (.ref b), .val (.ref s1)] [])) := XT.entry rfl
  obtain ⟨S0', hS0'⟩ : ∃ S, S = (s₁.setTop (entryFrame m #[(.ref b), (.ref s1)] 2)) := ⟨_, rfl⟩
  rw [← hS0'] at cc0
  have w_66 := hw _ (List.mem_of_getElem? (i := 66) rfl)
  obtain ⟨T21, X21, e21, st21⟩ := getS2 X0 hx hZ hown (host := "") (Or.inl (hw _ (List.mem_of_getElem? (i := 124) rfl))) Via.refl e0 (O2.ext X00.2) (g := (mkF m 0 #[.val (.ref b), .val (.ref s1)] [])) rfl (own_d hby d15_0)
  have cc22 : Steps p.tables e below S0' (T21.setTop (mkF m 7 #[.val (.ref b), .val (.ref s1)] [(.ref b)])) := Steps.trans (cc0.trans (st21 _ (Steps.refl _))) (by
    refine XS.ifNo X21.here hx rfl (own_d hby d15_3) rfl (i0_eq_f P5) ?_
    refine XS.aloadN X21.here hx rfl (own_d hby d15_6) rfl rfl ?_
    exact Steps.refl _)
  obtain ⟨T23, X23, e23, st23⟩ := getF X21 hx hZ hown (host := "") (Or.inl (hw _ (List.mem_of_getElem? (i := 127) rfl))) Via.refl e21 C (g := (mkF m 7 #[.val (.ref b), .val (.ref s1)] [(.ref b)])) rfl rfl (own_d hby d15_7)
  have cc24 : Steps p.tables e below S0' (T23.setTop (mkF m 11 #[.val (.ref b), .val (.ref s1)] [(.ref s1), (.int (0 : Int32))])) := Steps.trans (cc22.trans (st23 _ (Steps.refl _))) (by
    refine XS.aloadN X23.here hx rfl (own_d hby d15_10) rfl rfl ?_
    exact Steps.refl _)
  obtain ⟨cq25, kq25, qa25, qb25, qc25⟩ := isOf hZ e23 Es
  obtain ⟨_, _, ⟨T25, L25, k25, n25⟩, -, X25, ⟨Lc25, hQ25, l25, y25, z25⟩, st25⟩ := X23.virtualBack hx (y := (⟨"java/lang/String", "coder", "()B"⟩ : MethodName)) (z := (⟨"java/lang/String", "coder", "()B"⟩ : MethodName)) hown (mvT hZ (hw _ (List.mem_of_getElem? (i := 158) rfl))) (mvT hZ (hw _ (List.mem_of_getElem? (i := 64) rfl))) (notFace_of_selects (args := #[]) (mvT hZ w_66)) (mvT hZ w_66) (mvT hZ (hw _ (List.mem_of_getElem? (i := 65) rfl))) (by decide) (backOf (W := 1) (own_coder l Z a0 hw s1 z h0 n0 Z0 X00 O2 P5 Cs) hZ (hw _ (List.mem_of_getElem? (i := 67) rfl)) (hw _ (List.mem_of_getElem? (i := 7) rfl)) (by decide) (by decide)) qa25 qc25 (g := (mkF m 11 #[.val (.ref b), .val (.ref s1)] [(.ref s1), (.int (0 : Int32))])) rfl (by rw [hml]; rfl) (Steps.refl _) (argsL := []) (rest := [(.int (0 : Int32))]) (lenOf own_pd9 rfl) rfl (by show 2 * 0 + _ ≤ _; exact Nat.le_of_eq rfl) (own_d hby d15_11) (fun _ _ => ⟨rfl, e23, Nat.le_of_ble_eq_true rfl, Nat.le_of_ble_eq_true rfl⟩)
  dsimp only [Pt.U, Pt.locs, Pt.cells, Pt.slots] at X25 l25 y25 z25 st25 hQ25
  subst l25 y25 z25
  obtain ⟨rfl, Nq25, eq25⟩ := hQ25
  have N25 := Fr.app N0 Nq25
  have e25 : T25.heap = h0 := eq25
  have cc26 : Steps p.tables e below S0' (T25.setTop (mkF m 21 #[.val (.ref b), .val (.ref s1)] [])) := Steps.trans (Steps.trans cc24 st25) (by
    refine XS.icmpYes X25.here hx rfl (pc0 := 14) rfl (own_d hby d15_14) rfl (ii_eq_t rfl) (by decide) rfl ?_
    exact Steps.refl _)
  have cE := cc26
  rw [hS0'] at cE
  obtain ⟨fs, hr_, hrun, hended, hW, hsame⟩ := X25.leave (v := none) (fun _ => rfl)
  refine ⟨_, _, cE.trans (X25.returnOut hx Bd.returns (own_d hby d15_21) hr_), hrun, hended, _, _, rfl, ?_, ⟨_, rfl⟩, hW, hsame.mono (by first | decide | omega) (by first | decide | omega)⟩
  show Q_own_ifn Z b s1 z h0 n0 _ T25.heap _
  rw [e25]
  exact ⟨rfl, N25, rfl⟩
theorem own_shl0 (x : Int32) : x <<< ((0 : Int32) &&& 31) = x := by
  have e : ((0 : Int32) &&& 31) = 0 := by decide
  rw [e]
  apply Int32.toBitVec_inj.mp
  rw [Int32.toBitVec_shiftLeft]
  have e1 : ((0 : Int32).toBitVec.smod 32) = 0#32 := by decide
  rw [e1, BitVec.shiftLeft_eq']
  exact BitVec.shiftLeft_zero _
theorem own_copy (bs cs : List Int32) (hl : bs.length + cs.length ≤ 16) : List.take bs.length (own_by bs ++ List.replicate (16 - bs.length) (.int (0 : Int32))) ++ own_by cs ++ List.drop (bs.length + cs.length) (own_by bs ++ List.replicate (16 - bs.length) (.int (0 : Int32))) = own_by (bs ++ cs) ++ List.replicate (16 - bs.length - cs.length) (.int (0 : Int32)) := by
  have h1 : List.take bs.length (own_by bs ++ List.replicate (16 - bs.length) (Value.int (0 : Int32))) = own_by bs := by
    rw [List.take_append_of_le_length (by simp), List.take_of_length_le (by simp)]
  have h2 : List.drop (bs.length + cs.length) (own_by bs ++ List.replicate (16 - bs.length) (Value.int (0 : Int32))) = List.replicate (16 - bs.length - cs.length) (Value.int (0 : Int32)) := by
    rw [List.drop_append, List.drop_of_length_le (by simp), own_by_len, List.drop_replicate]
    simp
  rw [h1, h2, own_by_app]
theorem d16_0 : decode jdk_42_method_147_code 0 = .ok (.aload_n 0, 1) := by decide +kernel
theorem d16_1 : decode jdk_42_method_147_code 1 = .ok (.invokevirtual 335, 3) := by decide +kernel
theorem d16_4 : decode jdk_42_method_147_code 4 = .ok (.iload_n 3, 1) := by decide +kernel
theorem d16_5 : decode jdk_42_method_147_code 5 = .ok (.if_icmp .ne 23, 3) := by decide +kernel
theorem d16_8 : decode jdk_42_method_147_code 8 = .ok (.aload_n 0, 1) := by decide +kernel
theorem d16_9 : decode jdk_42_method_147_code 9 = .ok (.getfield 9, 3) := by decide +kernel
theorem d16_12 : decode jdk_42_method_147_code 12 = .ok (.iconst 0, 1) := by decide +kernel
theorem d16_13 : decode jdk_42_method_147_code 13 = .ok (.aload_n 1, 1) := by decide +kernel
theorem d16_14 : decode jdk_42_method_147_code 14 = .ok (.iload_n 2, 1) := by decide +kernel
theorem d16_15 : decode jdk_42_method_147_code 15 = .ok (.iload_n 3, 1) := by decide +kernel
theorem d16_16 : decode jdk_42_method_147_code 16 = .ok (.ishl, 1) := by decide +kernel
theorem d16_17 : decode jdk_42_method_147_code 17 = .ok (.aload_n 0, 1) := by decide +kernel
theorem d16_18 : decode jdk_42_method_147_code 18 = .ok (.getfield 9, 3) := by decide +kernel
theorem d16_21 : decode jdk_42_method_147_code 21 = .ok (.arraylength, 1) := by decide +kernel
theorem d16_22 : decode jdk_42_method_147_code 22 = .ok (.invokestatic 212, 3) := by decide +kernel
theorem d16_25 : decode jdk_42_method_147_code 25 = .ok (.goto 18, 3) := by decide +kernel
theorem d16_43 : decode jdk_42_method_147_code 43 = .ok (.return_, 1) := by decide +kernel
def Q_own_gb (Z : State) (s1 : Addr) (cs : List Int32) (t : Addr) (kt : ClassId) (bs : List Int32) (z : Int32) (h0 : Heap) (n0 : Nat) (v : Option Value) (h : Heap) (L : List Loc) : Prop := v = none ∧ Fr n0 L ∧ Keep h0 h [t] ∧ Arv Z h t kt .byte (16 : Int32) (own_by (bs ++ cs)) (.int (0 : Int32))
set_option maxRecDepth 65536 in
set_option maxHeartbeats 40000000 in
theorem own_gb (l : Launch) (Z : State) (a0 : Array Value) (hw : ∀ d ∈ tables_1, d.before a0 Z = true) (s1 : Addr) (cs : List Int32) (t : Addr) (kt : ClassId) (bs : List Int32) (z : Int32) (h0 : Heap) (n0 : Nat) (Z0 : n0 ≤ h0.size) (X00 : Old Z n0 h0) (O2 : Sta Z Z.heap "java/lang/String" "COMPACT_STRINGS" "Z" (.int z)) (P5 : ¬ z = 0) (Hs : own_Lat Z h0 s1 cs) (A : Arv Z h0 t kt .byte (16 : Int32) (own_by bs) (.int (0 : Int32))) (gt : n0 ≤ t) (hl : bs.length + cs.length ≤ 16) :
    MetFree l (⟨"java/lang/String", "getBytes", "([BIB)V"⟩ : MethodName) (head1 [Jvm.Cond.code (⟨"java/lang/String", "getBytes", "([BIB)V"⟩ : MethodName) jdk_42_method_147_code 4 none] ({ frames := 1, cells := 0, slots := 0, locals := 40 } : Room)) (fun a_ U_ => a_ = #[(.ref s1), (.ref t), (.int (Int32.ofNat bs.length)), (.int 0)] ∧ Z.Warmed39 U_.vm ∧ U_.heap = h0) (fun _ _ _ _ _ => True) (fun _ U_ o_ V_ => ∃ v_ L_, o_ = .returned v_ ∧ Q_own_gb Z s1 cs t kt bs z h0 n0 v_ V_.heap L_ ∧ FrameEnd U_ o_ V_ L_ ({ frames := 1, cells := 0, slots := 0, locals := 40 } : Room).cells ({ frames := 1, cells := 0, slots := 0, locals := 40 } : Room).slots) := by
  refine MetFree.of_bodySF (plainFor_of_name own_pn5) hisR ?_
  intro p e s m args below meth c s₁ Bd hml0 hP hK
  obtain ⟨rfl, hZ, hh⟩ := hP
  have hx := Bd.exec
  have hby := Bd.bytes
  have hml : c.maxLocals = 4 := hml0
  have hown : s.vm.findClass "java/lang/String" = some m.cls := findClass_of_methodNamed Bd.named
  have hnm := (name_of_methodNamed Bd.named Bd.method).1
  have X0 : Stand p l e ({ frames := 1, cells := 0, slots := 0, locals := 40 } : Room) s m #[(.ref s1), (.ref t), (.int (Int32.ofNat bs.length)), (.int 0)] below meth c s₁ [] 0 0 := Stand.of_body Bd
  have e0 : s₁.heap = h0 := by rw [← hh, Bd.state]; rfl
  have N0 := Fr.nil n0
  have KK0 := Keep.refl h0 [t]
  have cc0 : Steps p.tables e below (s₁.setTop (entryFrame m #[(.ref s1), (.ref t), (.int (Int32.ofNat bs.length)), (.int 0)] 4)) (s₁.setTop (mkF m 0 #[.val (.ref s1), .val (.ref t), .val (.int (Int32.ofNat bs.length)), .val (.int 0)] [])) := XT.entry rfl
  obtain ⟨S0', hS0'⟩ : ∃ S, S = (s₁.setTop (entryFrame m #[(.ref s1), (.ref t), (.int (Int32.ofNat bs.length)), (.int 0)] 4)) := ⟨_, rfl⟩
  rw [← hS0'] at cc0
  have w_27 := hw _ (List.mem_of_getElem? (i := 27) rfl)
  have w_66 := hw _ (List.mem_of_getElem? (i := 66) rfl)
  obtain ⟨Es1, Cs1, ps1, ls1, ts1, ks1, Vs1, As1⟩ := Hs
  have Ap : Arv Z h0 t kt .byte (16 : Int32) (own_by bs ++ List.replicate (16 - bs.length) (.int (0 : Int32))) (.int (0 : Int32)) := A.pad (pad_rep _ _ _)
  have cc21 : Steps p.tables e below S0' (s₁.setTop (mkF m 1 #[.val (.ref s1), .val (.ref t), .val (.int (Int32.ofNat bs.length)), .val (.int 0)] [(.ref s1)])) := Steps.trans cc0 (by
    refine XS.aloadN X0.here hx rfl (own_d hby d16_0) rfl rfl ?_
    exact Steps.refl _)
  obtain ⟨cq22, kq22, qa22, qb22, qc22⟩ := isOf hZ e0 Es1
  obtain ⟨_, _, ⟨T22, L22, k22, n22⟩, -, X22, ⟨Lc22, hQ22, l22, y22, z22⟩, st22⟩ := X0.virtualBack hx (y := (⟨"java/lang/String", "coder", "()B"⟩ : MethodName)) (z := (⟨"java/lang/String", "coder", "()B"⟩ : MethodName)) hown (mvT hZ (hw _ (List.mem_of_getElem? (i := 63) rfl))) (mvT hZ (hw _ (List.mem_of_getElem? (i := 64) rfl))) (notFace_of_selects (args := #[]) (mvT hZ w_66)) (mvT hZ w_66) (mvT hZ (hw _ (List.mem_of_getElem? (i := 65) rfl))) (by decide) (backOf (W := 0) (own_coder l Z a0 hw s1 z h0 n0 Z0 X00 O2 P5 Cs1) hZ (hw _ (List.mem_of_getElem? (i := 67) rfl)) (hw _ (List.mem_of_getElem? (i := 7) rfl)) (by decide) (by decide)) qa22 qc22 (g := (mkF m 1 #[.val (.ref s1), .val (.ref t), .val (.int (Int32.ofNat bs.length)), .val (.int 0)] [(.ref s1)])) rfl (by rw [hml]; rfl) (Steps.refl _) (argsL := []) (rest := []) (lenOf own_pd9 rfl) rfl (by show 2 * 0 + _ ≤ _; exact Nat.le_of_eq rfl) (own_d hby d16_1) (fun _ _ => ⟨rfl, e0, Nat.le_of_ble_eq_true rfl, Nat.le_of_ble_eq_true rfl⟩)
  dsimp only [Pt.U, Pt.locs, Pt.cells, Pt.slots] at X22 l22 y22 z22 st22 hQ22
  subst l22 y22 z22
  obtain ⟨rfl, Nq22, eq22⟩ := hQ22
  have N22 := Fr.app N0 Nq22
  have e22 : T22.heap = h0 := eq22
  have cc23 : Steps p.tables e below S0' (T22.setTop (mkF m 9 #[.val (.ref s1), .val (.ref t), .val (.int (Int32.ofNat bs.length)), .val (.int 0)] [(.ref s1)])) := Steps.trans (Steps.trans cc21 st22) (by
    refine XS.iloadN X22.here hx rfl (own_d hby d16_4) rfl ?_
    refine XS.icmpNo X22.here hx rfl (own_d hby d16_5) rfl (ii_ne_f rfl) ?_
    refine XS.aloadN X22.here hx rfl (own_d hby d16_8) rfl rfl ?_
    exact Steps.refl _)
  obtain ⟨T24, X24, e24, st24⟩ := getF X22 hx hZ hown (host := "") (Or.inl w_27) Via.refl e22 Vs1 (g := (mkF m 9 #[.val (.ref s1), .val (.ref t), .val (.int (Int32.ofNat bs.length)), .val (.int 0)] [(.ref s1)])) rfl rfl (own_d hby d16_9)
  have cc25 : Steps p.tables e below S0' (T24.setTop (mkF m 18 #[.val (.ref s1), .val (.ref t), .val (.int (Int32.ofNat bs.length)), .val (.int 0)] [(.ref s1), (.int ((Int32.ofNat bs.length) <<< ((0 : Int32) &&& 31))), (.ref t), (.int 0), (.ref ts1)])) := Steps.trans (cc23.trans (st24 _ (Steps.refl _))) (by
    refine iconstV X24.here hx rfl 0 (own_d hby d16_12) (by decide) ?_
    refine XS.aloadN X24.here hx rfl (own_d hby d16_13) rfl rfl ?_
    refine XS.iloadN X24.here hx rfl (own_d hby d16_14) rfl ?_
    refine XS.iloadN X24.here hx rfl (own_d hby d16_15) rfl ?_
    refine XT.ishl X24.here hx rfl (own_d hby d16_16) rfl ?_
    refine XS.aloadN X24.here hx rfl (own_d hby d16_17) rfl rfl ?_
    exact Steps.refl _)
  obtain ⟨T26, X26, e26, st26⟩ := getF X24 hx hZ hown (host := "") (Or.inl w_27) Via.refl e24 Vs1 (g := (mkF m 18 #[.val (.ref s1), .val (.ref t), .val (.int (Int32.ofNat bs.length)), .val (.int 0)] [(.ref s1), (.int ((Int32.ofNat bs.length) <<< ((0 : Int32) &&& 31))), (.ref t), (.int 0), (.ref ts1)])) rfl rfl (own_d hby d16_18)
  have cc27 : Steps p.tables e below S0' (T26.setTop (mkF m 21 #[.val (.ref s1), .val (.ref t), .val (.int (Int32.ofNat bs.length)), .val (.int 0)] [(.ref ts1), (.int ((Int32.ofNat bs.length) <<< ((0 : Int32) &&& 31))), (.ref t), (.int 0), (.ref ts1)])) := (cc25.trans (st26 _ (Steps.refl _)))
  obtain ⟨clu28, Aru28, -, Su28, Ngu28, -, -⟩ := id As1
  have cl_u28 := X26.arraylength hx (by rw [e26]; exact Aru28.1) (State.isArrayOf_alike (hZ).alike Aru28.2.1) (g := (mkF m 21 #[.val (.ref s1), .val (.ref t), .val (.int (Int32.ofNat bs.length)), .val (.int 0)] [(.ref ts1), (.int ((Int32.ofNat bs.length) <<< ((0 : Int32) &&& 31))), (.ref t), (.int 0), (.ref ts1)])) rfl rfl (own_d hby d16_21) _ (Steps.refl _)
  rw [len_of Su28 Ngu28] at cl_u28
  have cc29 : Steps p.tables e below S0' (T26.setTop (mkF m 22 #[.val (.ref s1), .val (.ref t), .val (.int (Int32.ofNat bs.length)), .val (.int 0)] [(.int (Int32.ofNat cs.length)), (.int ((Int32.ofNat bs.length) <<< ((0 : Int32) &&& 31))), (.ref t), (.int 0), (.ref ts1)])) := (Steps.trans cc27 cl_u28)
  have cz : Steps p.tables e below S0' (T26.setTop (mkF m 22 #[.val (.ref s1), .val (.ref t), .val (.int (Int32.ofNat bs.length)), .val (.int 0)] [(.int (Int32.ofNat cs.length)), (.int (Int32.ofNat bs.length)), (.ref t), (.int 0), (.ref ts1)])) := by
    have := cc29
    rw [show Int32.ofNat bs.length <<< ((0 : Int32) &&& 31) = Int32.ofNat bs.length from own_shl0 _] at this
    exact this
  have e1 : (Int32.ofNat cs.length).toNatClampNeg = cs.length := n32 (by omega)
  have e2 : (Int32.ofNat bs.length).toNatClampNeg = bs.length := n32 (by omega)
  obtain ⟨T30, h30, L30, X30, e30, N30, K30, V30, st30⟩ := cpA X26 hx hZ hown (hw _ (List.mem_of_getElem? (i := 164) rfl)) (hw _ (List.mem_of_getElem? (i := 167) rfl)) (hw _ (List.mem_of_getElem? (i := 165) rfl)) (hw _ (List.mem_of_getElem? (i := 166) rfl)) e26 As1 Ap (Or.inl ⟨rfl, rfl⟩) (by decide) (Int32.ofNat_not_neg (by omega)) (Int32.ofNat_not_neg (by omega)) (us := (own_by cs)) (by rw [e1]; show 0 + _ ≤ _; omega) (by rw [e1, e2]; show _ ≤ 16; omega) (by rw [e1]; exact (own_take cs).symm) (by rw [e1, e2]; simp; omega) N22 gt (g := (mkF m 22 #[.val (.ref s1), .val (.ref t), .val (.int (Int32.ofNat bs.length)), .val (.int 0)] [(.int (Int32.ofNat cs.length)), (.int (Int32.ofNat bs.length)), (.ref t), (.int 0), (.ref ts1)])) rfl (by rw [hml]; rfl) rfl (own_d hby d16_22) (by decide) (W := 0) (by show 2 * 0 + _ ≤ _; exact Nat.le_of_eq rfl) (by decide)
  have KK1 : Keep h0 h30 [t] := KK0.trans K30 (allS (Or.inl (List.mem_of_getElem? (i := 0) rfl)) all0)
  have Zs1 : n0 ≤ h30.size := Nat.le_trans Z0 K30.1
  have V30' : Arv Z h30 t kt .byte (16 : Int32) (own_by (bs ++ cs) ++ List.replicate (16 - bs.length - cs.length) (.int (0 : Int32))) (.int (0 : Int32)) := own_arv_eq V30 (by rw [e1, e2]; exact own_copy bs cs hl)
  have cc31 : Steps p.tables e below S0' (T30.setTop (mkF m 43 #[.val (.ref s1), .val (.ref t), .val (.int (Int32.ofNat bs.length)), .val (.int 0)] [])) := Steps.trans (cz.trans (st30 _ (Steps.refl _))) (by
    refine XS.goto X30.here hx rfl (pc0 := 25) rfl (own_d hby d16_25) (by decide) rfl ?_
    exact Steps.refl _)
  have cE := cc31
  rw [hS0'] at cE
  obtain ⟨fs, hr_, hrun, hended, hW, hsame⟩ := X30.leave (v := none) (fun _ => rfl)
  refine ⟨_, _, cE.trans (X30.returnOut hx Bd.returns (own_d hby d16_43) hr_), hrun, hended, _, _, rfl, ?_, ⟨_, rfl⟩, hW, hsame.mono (by first | decide | omega) (by first | decide | omega)⟩
  show Q_own_gb Z s1 cs t kt bs z h0 n0 _ T30.heap _
  rw [e30]
  exact ⟨rfl, N30, KK1, (V30').pad (fun i => (pad_rep _ _ _ i).symm)⟩
theorem d17_0 : decode jdk_68_method_73_code 0 = .ok (.aload_n 0, 1) := by decide +kernel
theorem d17_1 : decode jdk_68_method_73_code 1 = .ok (.aload_n 2, 1) := by decide +kernel
theorem d17_2 : decode jdk_68_method_73_code 2 = .ok (.invokevirtual 397, 3) := by decide +kernel
theorem d17_5 : decode jdk_68_method_73_code 5 = .ok (.aload_n 2, 1) := by decide +kernel
theorem d17_6 : decode jdk_68_method_73_code 6 = .ok (.aload_n 0, 1) := by decide +kernel
theorem d17_7 : decode jdk_68_method_73_code 7 = .ok (.getfield 15, 3) := by decide +kernel
theorem d17_10 : decode jdk_68_method_73_code 10 = .ok (.iload_n 1, 1) := by decide +kernel
theorem d17_11 : decode jdk_68_method_73_code 11 = .ok (.aload_n 0, 1) := by decide +kernel
theorem d17_12 : decode jdk_68_method_73_code 12 = .ok (.getfield 22, 3) := by decide +kernel
theorem d17_15 : decode jdk_68_method_73_code 15 = .ok (.invokevirtual 399, 3) := by decide +kernel
theorem d17_18 : decode jdk_68_method_73_code 18 = .ok (.return_, 1) := by decide +kernel
def Q_own_psa (Z : State) (b t : Addr) (kt : ClassId) (bs : List Int32) (s1 : Addr) (cs : List Int32) (z : Int32) (h0 : Heap) (n0 : Nat) (v : Option Value) (h : Heap) (L : List Loc) : Prop := v = none ∧ Fr n0 L ∧ Keep h0 h [t] ∧ Arv Z h t kt .byte (16 : Int32) (own_by (bs ++ cs)) (.int (0 : Int32))
set_option maxRecDepth 65536 in
set_option maxHeartbeats 40000000 in
theorem own_psa (l : Launch) (Z : State) (a0 : Array Value) (hw : ∀ d ∈ tables_1, d.before a0 Z = true) (b t : Addr) (kt : ClassId) (bs : List Int32) (s1 : Addr) (cs : List Int32) (z : Int32) (h0 : Heap) (n0 : Nat) (Z0 : n0 ≤ h0.size) (X00 : Old Z n0 h0) (O2 : Sta Z Z.heap "java/lang/String" "COMPACT_STRINGS" "Z" (.int z)) (P5 : ¬ z = 0) (E : Exa Z h0 b "java/lang/StringBuilder") (C : Fld Z h0 b "java/lang/AbstractStringBuilder" "coder" "B" (.int (0 : Int32))) (N : Fld Z h0 b "java/lang/AbstractStringBuilder" "count" "I" (.int (Int32.ofNat bs.length))) (V : Fld Z h0 b "java/lang/AbstractStringBuilder" "value" "[B" (.ref t)) (A : Arv Z h0 t kt .byte (16 : Int32) (own_by bs) (.int (0 : Int32))) (Hs : own_Lat Z h0 s1 cs) (gt : n0 ≤ t) (hl : bs.length + cs.length ≤ 16) :
    MetFree l (⟨"java/lang/AbstractStringBuilder", "putStringAt", "(ILjava/lang/String;)V"⟩ : MethodName) (head1 [Jvm.Cond.code (⟨"java/lang/AbstractStringBuilder", "putStringAt", "(ILjava/lang/String;)V"⟩ : MethodName) jdk_68_method_73_code 3 none] ({ frames := 2, cells := 0, slots := 0, locals := 55 } : Room)) (fun a_ U_ => a_ = #[(.ref b), (.int (Int32.ofNat bs.length)), (.ref s1)] ∧ Z.Warmed39 U_.vm ∧ U_.heap = h0) (fun _ _ _ _ _ => True) (fun _ U_ o_ V_ => ∃ v_ L_, o_ = .returned v_ ∧ Q_own_psa Z b t kt bs s1 cs z h0 n0 v_ V_.heap L_ ∧ FrameEnd U_ o_ V_ L_ ({ frames := 2, cells := 0, slots := 0, locals := 55 } : Room).cells ({ frames := 2, cells := 0, slots := 0, locals := 55 } : Room).slots) := by
  refine MetFree.of_bodySF (plainFor_of_name own_pn7) hisR ?_
  intro p e s m args below meth c s₁ Bd hml0 hP hK
  obtain ⟨rfl, hZ, hh⟩ := hP
  have hx := Bd.exec
  have hby := Bd.bytes
  have hml : c.maxLocals = 3 := hml0
  have hown : s.vm.findClass "java/lang/AbstractStringBuilder" = some m.cls := findClass_of_methodNamed Bd.named
  have hnm := (name_of_methodNamed Bd.named Bd.method).1
  have X0 : Stand p l e ({ frames := 2, cells := 0, slots := 0, locals := 55 } : Room) s m #[(.ref b), (.int (Int32.ofNat bs.length)), (.ref s1)] below meth c s₁ [] 0 0 := Stand.of_body Bd
  have e0 : s₁.heap = h0 := by rw [← hh, Bd.state]; rfl
  have N0 := Fr.nil n0
  have KK0 := Keep.refl h0 [t]
  have cc0 : Steps p.tables e below (s₁.setTop (entryFrame m #[(.ref b), (.int (Int32.ofNat bs.length)), (.ref s1)] 3)) (s₁.setTop (mkF m 0 #[.val (.ref b), .val (.int (Int32.ofNat bs.length)), .val (.ref s1)] [])) := XT.entry rfl
  obtain ⟨S0', hS0'⟩ : ∃ S, S = (s₁.setTop (entryFrame m #[(.ref b), (.int (Int32.ofNat bs.length)), (.ref s1)] 3)) := ⟨_, rfl⟩
  rw [← hS0'] at cc0
  have w_154 := hw _ (List.mem_of_getElem? (i := 154) rfl)
  have w_155 := hw _ (List.mem_of_getElem? (i := 155) rfl)
  have w_157 := hw _ (List.mem_of_getElem? (i := 157) rfl)
  have w_162 := hw _ (List.mem_of_getElem? (i := 162) rfl)
  have Hs' := Hs
  obtain ⟨Es1, Cs1, ps1, ls1, ts1, ks1, Vs1, As1⟩ := Hs'
  have cc21 : Steps p.tables e below S0' (s₁.setTop (mkF m 2 #[.val (.ref b), .val (.int (Int32.ofNat bs.length)), .val (.ref s1)] [(.ref s1), (.ref b)])) := Steps.trans cc0 (by
    refine XS.aloadN X0.here hx rfl (own_d hby d17_0) rfl rfl ?_
    refine XS.aloadN X0.here hx rfl (own_d hby d17_1) rfl rfl ?_
    exact Steps.refl _)
  obtain ⟨cq22, q22a, q22b⟩ := E.cell
  obtain ⟨_, _, ⟨T22, L22, k22, n22⟩, -, X22, ⟨Lc22, hQ22, l22, y22, z22⟩, st22⟩ := X0.privateBack hx (y := (⟨"java/lang/AbstractStringBuilder", "inflateIfNeededFor", "(Ljava/lang/String;)V"⟩ : MethodName)) hown (mvT hZ (hw _ (List.mem_of_getElem? (i := 153) rfl))) (mvT hZ w_154) (own_selP hZ (hw _ (List.mem_of_getElem? (i := 156) rfl)) w_155 w_154 (by decide)) (Cond.privateMethod_at (mvP hZ w_155 (args := #[]))) (mvT hZ w_157) (by decide) (backOf (W := 0) (own_ifn l Z a0 hw b s1 z h0 n0 Z0 X00 O2 P5 C Es1 Cs1) hZ w_157 (hw _ (List.mem_of_getElem? (i := 121) rfl)) (by decide) (by decide)) (g := (mkF m 2 #[.val (.ref b), .val (.int (Int32.ofNat bs.length)), .val (.ref s1)] [(.ref s1), (.ref b)])) rfl (by rw [hml]; rfl) (Steps.refl _) (a := b) (by rw [e0]; exact q22a) q22b (argsL := [(.ref s1)]) (rest := []) (lenOf own_pd10 rfl) rfl (by show 2 * 0 + _ ≤ _; exact Nat.le_of_eq rfl) (own_d hby d17_2) (fun _ _ => ⟨rfl, e0, Nat.le_of_ble_eq_true rfl, Nat.le_of_ble_eq_true rfl⟩)
  dsimp only [Pt.U, Pt.locs, Pt.cells, Pt.slots] at X22 l22 y22 z22 st22 hQ22
  subst l22 y22 z22
  obtain ⟨rfl, Nq22, eq22⟩ := hQ22
  have N22 := Fr.app N0 Nq22
  have e22 : T22.heap = h0 := eq22
  have cc23 : Steps p.tables e below S0' (T22.setTop (mkF m 7 #[.val (.ref b), .val (.int (Int32.ofNat bs.length)), .val (.ref s1)] [(.ref b), (.ref s1)])) := Steps.trans (Steps.trans cc21 st22) (by
    refine XS.aloadN X22.here hx rfl (own_d hby d17_5) rfl rfl ?_
    refine XS.aloadN X22.here hx rfl (own_d hby d17_6) rfl rfl ?_
    exact Steps.refl _)
  obtain ⟨T24, X24, e24, st24⟩ := getF X22 hx hZ hown (host := "") (Or.inl (hw _ (List.mem_of_getElem? (i := 125) rfl))) Via.refl e22 V (g := (mkF m 7 #[.val (.ref b), .val (.int (Int32.ofNat bs.length)), .val (.ref s1)] [(.ref b), (.ref s1)])) rfl rfl (own_d hby d17_7)
  have cc25 : Steps p.tables e below S0' (T24.setTop (mkF m 12 #[.val (.ref b), .val (.int (Int32.ofNat bs.length)), .val (.ref s1)] [(.ref b), (.int (Int32.ofNat bs.length)), (.ref t), (.ref s1)])) := Steps.trans (cc23.trans (st24 _ (Steps.refl _))) (by
    refine XS.iloadN X24.here hx rfl (own_d hby d17_10) rfl ?_
    refine XS.aloadN X24.here hx rfl (own_d hby d17_11) rfl rfl ?_
    exact Steps.refl _)
  obtain ⟨T26, X26, e26, st26⟩ := getF X24 hx hZ hown (host := "") (Or.inl (hw _ (List.mem_of_getElem? (i := 127) rfl))) Via.refl e24 C (g := (mkF m 12 #[.val (.ref b), .val (.int (Int32.ofNat bs.length)), .val (.ref s1)] [(.ref b), (.int (Int32.ofNat bs.length)), (.ref t), (.ref s1)])) rfl rfl (own_d hby d17_12)
  have cc27 : Steps p.tables e below S0' (T26.setTop (mkF m 15 #[.val (.ref b), .val (.int (Int32.ofNat bs.length)), .val (.ref s1)] [(.int (0 : Int32)), (.int (Int32.ofNat bs.length)), (.ref t), (.ref s1)])) := (cc25.trans (st26 _ (Steps.refl _)))
  obtain ⟨cq28, kq28, qa28, qb28, qc28⟩ := isOf hZ e26 Es1
  obtain ⟨_, _, ⟨T28, L28, k28, n28⟩, -, X28, ⟨Lc28, hQ28, l28, y28, z28⟩, st28⟩ := X26.virtualBack hx (y := (⟨"java/lang/String", "getBytes", "([BIB)V"⟩ : MethodName)) (z := (⟨"java/lang/String", "getBytes", "([BIB)V"⟩ : MethodName)) hown (mvT hZ (hw _ (List.mem_of_getElem? (i := 159) rfl))) (mvT hZ (hw _ (List.mem_of_getElem? (i := 160) rfl))) (notFace_of_selects (args := #[]) (mvT hZ w_162)) (mvT hZ w_162) (mvT hZ (hw _ (List.mem_of_getElem? (i := 161) rfl))) (by decide) (backOf (W := 0) (own_gb l Z a0 hw s1 cs t kt bs z h0 n0 Z0 X00 O2 P5 Hs A gt hl) hZ (hw _ (List.mem_of_getElem? (i := 163) rfl)) (hw _ (List.mem_of_getElem? (i := 7) rfl)) (by decide) (by decide)) qa28 qc28 (g := (mkF m 15 #[.val (.ref b), .val (.int (Int32.ofNat bs.length)), .val (.ref s1)] [(.int (0 : Int32)), (.int (Int32.ofNat bs.length)), (.ref t), (.ref s1)])) rfl (by rw [hml]; rfl) (Steps.refl _) (argsL := [(.ref t), (.int (Int32.ofNat bs.length)), (.int (0 : Int32))]) (rest := []) (lenOf own_pd11 rfl) rfl (by show 2 * 0 + _ ≤ _; exact Nat.le_of_eq rfl) (own_d hby d17_15) (fun _ _ => ⟨rfl, e26, Nat.le_of_ble_eq_true rfl, Nat.le_of_ble_eq_true rfl⟩)
  dsimp only [Pt.U, Pt.locs, Pt.cells, Pt.slots] at X28 l28 y28 z28 st28 hQ28
  subst l28 y28 z28
  obtain ⟨rfl, Nq28, Kq28, Aq28⟩ := hQ28
  have N28 := Fr.app N22 Nq28
  have KK1 : Keep h0 T28.heap [t] := KK0.trans Kq28 (allS (Or.inl (List.mem_of_getElem? (i := 0) rfl)) all0)
  have Zs1 : n0 ≤ T28.heap.size := Nat.le_trans Z0 Kq28.1
  have e28 : T28.heap = T28.heap := rfl
  have cc29 : Steps p.tables e below S0' (T28.setTop (mkF m 18 #[.val (.ref b), .val (.int (Int32.ofNat bs.length)), .val (.ref s1)] [])) := (Steps.trans cc27 st28)
  have cE := cc29
  rw [hS0'] at cE
  obtain ⟨fs, hr_, hrun, hended, hW, hsame⟩ := X28.leave (v := none) (fun _ => rfl)
  refine ⟨_, _, cE.trans (X28.returnOut hx Bd.returns (own_d hby d17_18) hr_), hrun, hended, _, _, rfl, ?_, ⟨_, rfl⟩, hW, hsame.mono (by first | decide | omega) (by first | decide | omega)⟩
  show Q_own_psa Z b t kt bs s1 cs z h0 n0 _ T28.heap _
  rw [e28]
  exact ⟨rfl, N28, KK1, Aq28⟩
theorem d18_0 : decode jdk_68_method_22_code 0 = .ok (.aload_n 1, 1) := by decide +kernel
theorem d18_1 : decode jdk_68_method_22_code 1 = .ok (.ifnonnull 8, 3) := by decide +kernel
theorem d18_9 : decode jdk_68_method_22_code 9 = .ok (.aload_n 1, 1) := by decide +kernel
theorem d18_10 : decode jdk_68_method_22_code 10 = .ok (.invokevirtual 32, 3) := by decide +kernel
theorem d18_13 : decode jdk_68_method_22_code 13 = .ok (.istore_n 2, 1) := by decide +kernel
theorem d18_14 : decode jdk_68_method_22_code 14 = .ok (.aload_n 0, 1) := by decide +kernel
theorem d18_15 : decode jdk_68_method_22_code 15 = .ok (.aload_n 0, 1) := by decide +kernel
theorem d18_16 : decode jdk_68_method_22_code 16 = .ok (.getfield 79, 3) := by decide +kernel
theorem d18_19 : decode jdk_68_method_22_code 19 = .ok (.iload_n 2, 1) := by decide +kernel
theorem d18_20 : decode jdk_68_method_22_code 20 = .ok (.iadd, 1) := by decide +kernel
theorem d18_21 : decode jdk_68_method_22_code 21 = .ok (.invokevirtual 100, 3) := by decide +kernel
theorem d18_24 : decode jdk_68_method_22_code 24 = .ok (.aload_n 0, 1) := by decide +kernel
theorem d18_25 : decode jdk_68_method_22_code 25 = .ok (.aload_n 0, 1) := by decide +kernel
theorem d18_26 : decode jdk_68_method_22_code 26 = .ok (.getfield 79, 3) := by decide +kernel
theorem d18_29 : decode jdk_68_method_22_code 29 = .ok (.aload_n 1, 1) := by decide +kernel
theorem d18_30 : decode jdk_68_method_22_code 30 = .ok (.invokevirtual 208, 3) := by decide +kernel
theorem d18_33 : decode jdk_68_method_22_code 33 = .ok (.aload_n 0, 1) := by decide +kernel
theorem d18_34 : decode jdk_68_method_22_code 34 = .ok (.dup, 1) := by decide +kernel
theorem d18_35 : decode jdk_68_method_22_code 35 = .ok (.getfield 79, 3) := by decide +kernel
theorem d18_38 : decode jdk_68_method_22_code 38 = .ok (.iload_n 2, 1) := by decide +kernel
theorem d18_39 : decode jdk_68_method_22_code 39 = .ok (.iadd, 1) := by decide +kernel
theorem d18_40 : decode jdk_68_method_22_code 40 = .ok (.putfield 79, 3) := by decide +kernel
theorem d18_43 : decode jdk_68_method_22_code 43 = .ok (.aload_n 0, 1) := by decide +kernel
theorem d18_44 : decode jdk_68_method_22_code 44 = .ok (.areturn, 1) := by decide +kernel
def Q_own_aap (Z : State) (b t : Addr) (kt : ClassId) (bs : List Int32) (s1 : Addr) (cs : List Int32) (z : Int32) (h0 : Heap) (n0 : Nat) (v : Option Value) (h : Heap) (L : List Loc) : Prop := v = some (.ref b) ∧ Fr n0 L ∧ Keep h0 h [b, t] ∧ Fld Z h b "java/lang/AbstractStringBuilder" "coder" "B" (.int (0 : Int32)) ∧ Fld Z h b "java/lang/AbstractStringBuilder" "count" "I" (.int (Int32.ofNat (bs ++ cs).length)) ∧ Fld Z h b "java/lang/AbstractStringBuilder" "value" "[B" (.ref t) ∧ Arv Z h t kt .byte (16 : Int32) (own_by (bs ++ cs)) (.int (0 : Int32))
set_option maxRecDepth 65536 in
set_option maxHeartbeats 40000000 in
theorem own_aap (l : Launch) (Z : State) (a0 : Array Value) (hw : ∀ d ∈ tables_1, d.before a0 Z = true) (b t : Addr) (kt : ClassId) (bs : List Int32) (s1 : Addr) (cs : List Int32) (z : Int32) (h0 : Heap) (n0 : Nat) (Z0 : n0 ≤ h0.size) (X00 : Old Z n0 h0) (O2 : Sta Z Z.heap "java/lang/String" "COMPACT_STRINGS" "Z" (.int z)) (P5 : ¬ z = 0) (E : Exa Z h0 b "java/lang/StringBuilder") (C : Fld Z h0 b "java/lang/AbstractStringBuilder" "coder" "B" (.int (0 : Int32))) (N : Fld Z h0 b "java/lang/AbstractStringBuilder" "count" "I" (.int (Int32.ofNat bs.length))) (V : Fld Z h0 b "java/lang/AbstractStringBuilder" "value" "[B" (.ref t)) (A : Arv Z h0 t kt .byte (16 : Int32) (own_by bs) (.int (0 : Int32))) (Hs : own_Lat Z h0 s1 cs) (gb : n0 ≤ b) (gt : n0 ≤ t) (hl : bs.length + cs.length ≤ 16) :
    MetFree l (⟨"java/lang/AbstractStringBuilder", "append", "(Ljava/lang/String;)Ljava/lang/AbstractStringBuilder;"⟩ : MethodName) (head1 [Jvm.Cond.code (⟨"java/lang/AbstractStringBuilder", "append", "(Ljava/lang/String;)Ljava/lang/AbstractStringBuilder;"⟩ : MethodName) jdk_68_method_22_code 3 (some (.object "java/lang/AbstractStringBuilder"))] ({ frames := 3, cells := 0, slots := 0, locals := 69 } : Room)) (fun a_ U_ => a_ = #[(.ref b), (.ref s1)] ∧ Z.Warmed39 U_.vm ∧ U_.heap = h0) (fun _ _ _ _ _ => True) (fun _ U_ o_ V_ => ∃ v_ L_, o_ = .returned v_ ∧ Q_own_aap Z b t kt bs s1 cs z h0 n0 v_ V_.heap L_ ∧ FrameEnd U_ o_ V_ L_ ({ frames := 3, cells := 0, slots := 0, locals := 69 } : Room).cells ({ frames := 3, cells := 0, slots := 0, locals := 69 } : Room).slots) := by
  refine MetFree.of_bodySF (plainFor_of_name own_pn7) hisR ?_
  intro p e s m args below meth c s₁ Bd hml0 hP hK
  obtain ⟨rfl, hZ, hh⟩ := hP
  have hx := Bd.exec
  have hby := Bd.bytes
  have hml : c.maxLocals = 3 := hml0
  have hown : s.vm.findClass "java/lang/AbstractStringBuilder" = some m.cls := findClass_of_methodNamed Bd.named
  have hnm := (name_of_methodNamed Bd.named Bd.method).1
  have X0 : Stand p l e ({ frames := 3, cells := 0, slots := 0, locals := 69 } : Room) s m #[(.ref b), (.ref s1)] below meth c s₁ [] 0 0 := Stand.of_body Bd
  have e0 : s₁.heap = h0 := by rw [← hh, Bd.state]; rfl
  have N0 := Fr.nil n0
  have KK0 := Keep.refl h0 [b, t]
  have cc0 : Steps p.tables e below (s₁.setTop (entryFrame m #[(.ref b), (.ref s1)] 3)) (s₁.setTop (mkF m 0 #[.val (.ref b), .val (.ref s1), .unset] [])) := XT.entry rfl
  obtain ⟨S0', hS0'⟩ : ∃ S, S = (s₁.setTop (entryFrame m #[(.ref b), (.ref s1)] 3)) := ⟨_, rfl⟩
  rw [← hS0'] at cc0
  have w_61 := hw _ (List.mem_of_getElem? (i := 61) rfl)
  have w_112 := hw _ (List.mem_of_getElem? (i := 112) rfl)
  have w_121 := hw _ (List.mem_of_getElem? (i := 121) rfl)
  have w_141 := hw _ (List.mem_of_getElem? (i := 141) rfl)
  have w_142 := hw _ (List.mem_of_getElem? (i := 142) rfl)
  have w_144 := hw _ (List.mem_of_getElem? (i := 144) rfl)
  have w_145 := hw _ (List.mem_of_getElem? (i := 145) rfl)
  have w_147 := hw _ (List.mem_of_getElem? (i := 147) rfl)
  have w_149 := hw _ (List.mem_of_getElem? (i := 149) rfl)
  have w_150 := hw _ (List.mem_of_getElem? (i := 150) rfl)
  have w_152 := hw _ (List.mem_of_getElem? (i := 152) rfl)
  have hw_wordsLen : ∀ d ∈ StrChars.Road.wordsLen, d.before a0 Z = true := fun d hd => hw d ((by decide +kernel : ∀ d ∈ StrChars.Road.wordsLen, d ∈ tables_1) d hd)
  have Hs' := Hs
  obtain ⟨Es1, Cs1, ps1, ls1, ts1, ks1, Vs1, As1⟩ := Hs'
  have ne_b_t : b ≠ t := own_ne_arv E w_112 A
  have cc21 : Steps p.tables e below S0' (s₁.setTop (mkF m 10 #[.val (.ref b), .val (.ref s1), .unset] [(.ref s1)])) := Steps.trans cc0 (by
    refine XS.aloadN X0.here hx rfl (own_d hby d18_0) rfl rfl ?_
    refine XT.ifnonnullYes X0.here hx rfl (pc0 := 1) rfl (own_d hby d18_1) rfl (by decide) rfl ?_
    refine XS.aloadN X0.here hx rfl (own_d hby d18_9) rfl rfl ?_
    exact Steps.refl _)
  obtain ⟨cq22, kq22, qa22, qb22, qc22⟩ := isOf hZ e0 Es1
  obtain ⟨_, _, ⟨T22, L22, k22, n22⟩, -, X22, ⟨Lc22, hQ22, l22, y22, z22⟩, st22⟩ := X0.virtualBack hx (y := (⟨"java/lang/String", "length", "()I"⟩ : MethodName)) (z := (⟨"java/lang/String", "length", "()I"⟩ : MethodName)) hown (mvT hZ (hw _ (List.mem_of_getElem? (i := 140) rfl))) (mvT hZ (hw _ (List.mem_of_getElem? (i := 59) rfl))) (notFace_of_selects (args := #[]) (mvT hZ w_61)) (mvT hZ w_61) (mvT hZ (hw _ (List.mem_of_getElem? (i := 60) rfl))) (by decide) (StrChars.Road.lenW (W := 0) hZ hw_wordsLen (kI := 4) (hw _ (List.mem_of_getElem? (i := 15) rfl)) Es1 Vs1 Cs1 As1 (StrChars.Road.codOf (cs := cs) rfl (fun c hc => (ps1 c hc).2)) (own_up _ ps1) (O2.ext X00.2) P5 ls1 (by decide) (by decide)) qa22 qc22 (g := (mkF m 10 #[.val (.ref b), .val (.ref s1), .unset] [(.ref s1)])) rfl (by rw [hml]; rfl) (Steps.refl _) (argsL := []) (rest := []) (lenOf own_pd6 rfl) rfl (by show 2 * 0 + _ ≤ _; exact Nat.le_of_eq rfl) (own_d hby d18_10) (fun _ _ => ⟨rfl, e0, Nat.le_of_ble_eq_true rfl, Nat.le_of_ble_eq_true rfl⟩)
  dsimp only [Pt.U, Pt.locs, Pt.cells, Pt.slots] at X22 l22 y22 z22 st22 hQ22
  subst l22 y22 z22
  obtain ⟨rfl, rfl, eq22⟩ := hQ22
  have N22 := Fr.app N0 (Fr.nil n0)
  have e22 : T22.heap = h0 := eq22
  have cc23 : Steps p.tables e below S0' (T22.setTop (mkF m 16 #[.val (.ref b), .val (.ref s1), .val (.int (Int32.ofNat cs.length))] [(.ref b), (.ref b)])) := Steps.trans (Steps.trans cc21 st22) (by
    refine XS.istoreN X22.here hx rfl (own_d hby d18_13) rfl rfl ?_
    refine XS.aloadN X22.here hx rfl (own_d hby d18_14) rfl rfl ?_
    refine XS.aloadN X22.here hx rfl (own_d hby d18_15) rfl rfl ?_
    exact Steps.refl _)
  obtain ⟨T24, X24, e24, st24⟩ := getF X22 hx hZ hown (host := "") (Or.inl w_141) Via.refl e22 N (g := (mkF m 16 #[.val (.ref b), .val (.ref s1), .val (.int (Int32.ofNat cs.length))] [(.ref b), (.ref b)])) rfl rfl (own_d hby d18_16)
  have cc25 : Steps p.tables e below S0' (T24.setTop (mkF m 21 #[.val (.ref b), .val (.ref s1), .val (.int (Int32.ofNat cs.length))] [(.int ((Int32.ofNat bs.length) + (Int32.ofNat cs.length))), (.ref b)])) := Steps.trans (cc23.trans (st24 _ (Steps.refl _))) (by
    refine XS.iloadN X24.here hx rfl (own_d hby d18_19) rfl ?_
    refine XS.iadd X24.here hx rfl (own_d hby d18_20) rfl ?_
    exact Steps.refl _)
  have cz : Steps p.tables e below S0' (T24.setTop (mkF m 21 #[.val (.ref b), .val (.ref s1), .val (.int (Int32.ofNat cs.length))] [(.int (Int32.ofNat (bs.length + cs.length))), (.ref b)])) := by
    have := cc25
    rw [add32n] at this
    exact this
  obtain ⟨cq26, q26a, q26b⟩ := E.cell
  obtain ⟨_, _, ⟨T26, L26, k26, n26⟩, -, X26, ⟨Lc26, hQ26, l26, y26, z26⟩, st26⟩ := X24.privateBack hx (y := (⟨"java/lang/AbstractStringBuilder", "ensureCapacityInternal", "(I)V"⟩ : MethodName)) hown (mvT hZ (hw _ (List.mem_of_getElem? (i := 143) rfl))) (mvT hZ w_144) (own_selP hZ (hw _ (List.mem_of_getElem? (i := 146) rfl)) w_145 w_144 (by decide)) (Cond.privateMethod_at (mvP hZ w_145 (args := #[]))) (mvT hZ w_147) (by decide) (backOf (W := 0) (own_eci l Z a0 hw b t kt bs (bs.length + cs.length) h0 n0 Z0 E C N V A hl) hZ w_147 w_121 (by decide) (by decide)) (g := (mkF m 21 #[.val (.ref b), .val (.ref s1), .val (.int (Int32.ofNat cs.length))] [(.int (Int32.ofNat (bs.length + cs.length))), (.ref b)])) rfl (by rw [hml]; rfl) (Steps.refl _) (a := b) (by rw [e24]; exact q26a) q26b (argsL := [(.int (Int32.ofNat (bs.length + cs.length)))]) (rest := []) (lenOf own_pd8 rfl) rfl (by show 2 * 0 + _ ≤ _; exact Nat.le_of_eq rfl) (own_d hby d18_21) (fun _ _ => ⟨rfl, e24, Nat.le_of_ble_eq_true rfl, Nat.le_of_ble_eq_true rfl⟩)
  dsimp only [Pt.U, Pt.locs, Pt.cells, Pt.slots] at X26 l26 y26 z26 st26 hQ26
  subst l26 y26 z26
  obtain ⟨rfl, Nq26, eq26⟩ := hQ26
  have N26 := Fr.app N22 Nq26
  have e26 : T26.heap = h0 := eq26
  have cc27 : Steps p.tables e below S0' (T26.setTop (mkF m 26 #[.val (.ref b), .val (.ref s1), .val (.int (Int32.ofNat cs.length))] [(.ref b), (.ref b)])) := Steps.trans (Steps.trans cz st26) (by
    refine XS.aloadN X26.here hx rfl (own_d hby d18_24) rfl rfl ?_
    refine XS.aloadN X26.here hx rfl (own_d hby d18_25) rfl rfl ?_
    exact Steps.refl _)
  obtain ⟨T28, X28, e28, st28⟩ := getF X26 hx hZ hown (host := "") (Or.inl w_141) Via.refl e26 N (g := (mkF m 26 #[.val (.ref b), .val (.ref s1), .val (.int (Int32.ofNat cs.length))] [(.ref b), (.ref b)])) rfl rfl (own_d hby d18_26)
  have cc29 : Steps p.tables e below S0' (T28.setTop (mkF m 30 #[.val (.ref b), .val (.ref s1), .val (.int (Int32.ofNat cs.length))] [(.ref s1), (.int (Int32.ofNat bs.length)), (.ref b)])) := Steps.trans (cc27.trans (st28 _ (Steps.refl _))) (by
    refine XS.aloadN X28.here hx rfl (own_d hby d18_29) rfl rfl ?_
    exact Steps.refl _)
  obtain ⟨cq30, q30a, q30b⟩ := E.cell
  obtain ⟨_, _, ⟨T30, L30, k30, n30⟩, -, X30, ⟨Lc30, hQ30, l30, y30, z30⟩, st30⟩ := X28.privateBack hx (y := (⟨"java/lang/AbstractStringBuilder", "putStringAt", "(ILjava/lang/String;)V"⟩ : MethodName)) hown (mvT hZ (hw _ (List.mem_of_getElem? (i := 148) rfl))) (mvT hZ w_149) (own_selP hZ (hw _ (List.mem_of_getElem? (i := 151) rfl)) w_150 w_149 (by decide)) (Cond.privateMethod_at (mvP hZ w_150 (args := #[]))) (mvT hZ w_152) (by decide) (backOf (W := 0) (own_psa l Z a0 hw b t kt bs s1 cs z h0 n0 Z0 X00 O2 P5 E C N V A Hs gt hl) hZ w_152 w_121 (by decide) (by decide)) (g := (mkF m 30 #[.val (.ref b), .val (.ref s1), .val (.int (Int32.ofNat cs.length))] [(.ref s1), (.int (Int32.ofNat bs.length)), (.ref b)])) rfl (by rw [hml]; rfl) (Steps.refl _) (a := b) (by rw [e28]; exact q30a) q30b (argsL := [(.int (Int32.ofNat bs.length)), (.ref s1)]) (rest := []) (lenOf own_pd12 rfl) rfl (by show 2 * 0 + _ ≤ _; exact Nat.le_of_eq rfl) (own_d hby d18_30) (fun _ _ => ⟨rfl, e28, Nat.le_of_ble_eq_true rfl, Nat.le_of_ble_eq_true rfl⟩)
  dsimp only [Pt.U, Pt.locs, Pt.cells, Pt.slots] at X30 l30 y30 z30 st30 hQ30
  subst l30 y30 z30
  obtain ⟨rfl, Nq30, Kq30, Aq30⟩ := hQ30
  have N30 := Fr.app N26 Nq30
  have KK1 : Keep h0 T30.heap [b, t] := KK0.trans Kq30 (allS (Or.inl (List.mem_of_getElem? (i := 1) rfl)) all0)
  have Zs1 : n0 ≤ T30.heap.size := Nat.le_trans Z0 Kq30.1
  have e30 : T30.heap = T30.heap := rfl
  have cc32 : Steps p.tables e below S0' (T30.setTop (mkF m 35 #[.val (.ref b), .val (.ref s1), .val (.int (Int32.ofNat cs.length))] [(.ref b), (.ref b)])) := Steps.trans (Steps.trans cc29 st30) (by
    refine XS.aloadN X30.here hx rfl (own_d hby d18_33) rfl rfl ?_
    refine XS.dup X30.here hx rfl (own_d hby d18_34) rfl rfl ?_
    exact Steps.refl _)
  have fa31 : Fld Z T30.heap b "java/lang/AbstractStringBuilder" "count" "I" (.int (Int32.ofNat bs.length)) := (N.keep Kq30 (ninS ne_b_t nin0))
  obtain ⟨T33, X33, e33, st33⟩ := getF X30 hx hZ hown (host := "") (Or.inl w_141) Via.refl e30 fa31 (g := (mkF m 35 #[.val (.ref b), .val (.ref s1), .val (.int (Int32.ofNat cs.length))] [(.ref b), (.ref b)])) rfl rfl (own_d hby d18_35)
  have cc34 : Steps p.tables e below S0' (T33.setTop (mkF m 40 #[.val (.ref b), .val (.ref s1), .val (.int (Int32.ofNat cs.length))] [(.int ((Int32.ofNat bs.length) + (Int32.ofNat cs.length))), (.ref b)])) := Steps.trans (cc32.trans (st33 _ (Steps.refl _))) (by
    refine XS.iloadN X33.here hx rfl (own_d hby d18_38) rfl ?_
    refine XS.iadd X33.here hx rfl (own_d hby d18_39) rfl ?_
    exact Steps.refl _)
  have cy : Steps p.tables e below S0' (T33.setTop (mkF m 40 #[.val (.ref b), .val (.ref s1), .val (.int (Int32.ofNat cs.length))] [(.int (Int32.ofNat (bs ++ cs).length)), (.ref b)])) := by
    have := cc34
    rw [add32n, ← List.length_append] at this
    exact this
  have fa35 : Exa Z T30.heap b "java/lang/StringBuilder" := (E.keep Kq30)
  obtain ⟨T36, h36, X36, e36, W36, st36⟩ := putF X33 hx hZ hown (host := "") (Or.inl w_141) Via.refl e33 fa31 fa35 (Or.inl w_142) w_112 (ty := .int) (by decide) rfl rfl (g := (mkF m 40 #[.val (.ref b), .val (.ref s1), .val (.int (Int32.ofNat cs.length))] [(.int (Int32.ofNat (bs ++ cs).length)), (.ref b)])) rfl rfl (own_d hby d18_40)
  have K36 := Keep.of_wr W36
  have N36 := Fr.snoc X36 N30 gb
  have KK2 : Keep h0 h36 [b, t] := KK1.trans K36 (allS (Or.inl (List.mem_of_getElem? (i := 0) rfl)) all0)
  have Zs2 : n0 ≤ h36.size := Nat.le_trans Zs1 K36.1
  have cc38 : Steps p.tables e below S0' (T36.setTop (mkF m 44 #[.val (.ref b), .val (.ref s1), .val (.int (Int32.ofNat cs.length))] [(.ref b)])) := Steps.trans (cy.trans (st36 _ (Steps.refl _))) (by
    refine XS.aloadN X36.here hx rfl (own_d hby d18_43) rfl rfl ?_
    exact Steps.refl _)
  have fa37 : Fld Z h36 b "java/lang/AbstractStringBuilder" "coder" "B" (.int (0 : Int32)) := ((C.keep Kq30 (ninS ne_b_t nin0)).other W36 (Or.inr (slot_ne (Or.inl (hw _ (List.mem_of_getElem? (i := 128) rfl))) (Or.inl w_142) (by decide) (t := .byte) (t' := .int) (by decide) (by decide))))
  have fa39 : Fld Z h36 b "java/lang/AbstractStringBuilder" "value" "[B" (.ref t) := ((V.keep Kq30 (ninS ne_b_t nin0)).other W36 (Or.inr (slot_ne (Or.inl (hw _ (List.mem_of_getElem? (i := 126) rfl))) (Or.inl w_142) (by decide) (t := (.array .byte)) (t' := .int) (by decide) (by decide))))
  have fa40 : Arv Z h36 t kt .byte (16 : Int32) (own_by (bs ++ cs)) (.int (0 : Int32)) := (Aq30.keep K36 (ninS (Ne.symm ne_b_t) nin0))
  have cE := cc38
  rw [hS0'] at cE
  obtain ⟨fs, hr_, hrun, hended, hW, hsame⟩ := X36.leave (v := some (.ref b)) (fun h => by rw [Bd.returns] at h; cases h)
  refine ⟨_, _, cE.trans (X36.areturnOut hx (rfl) Bd.returns rfl (own_d hby d18_44) hr_), hrun, hended, _, _, rfl, ?_, ⟨_, rfl⟩, hW, hsame.mono (by first | decide | omega) (by first | decide | omega)⟩
  show Q_own_aap Z b t kt bs s1 cs z h0 n0 _ T36.heap _
  rw [e36]
  exact ⟨rfl, N36, KK2, fa37, (Fld.same W36 fa31), fa39, fa40⟩
theorem d19_0 : decode jdk_67_method_7_code 0 = .ok (.aload_n 0, 1) := by decide +kernel
theorem d19_1 : decode jdk_67_method_7_code 1 = .ok (.aload_n 1, 1) := by decide +kernel
theorem d19_2 : decode jdk_67_method_7_code 2 = .ok (.invokespecial 29, 3) := by decide +kernel
theorem d19_5 : decode jdk_67_method_7_code 5 = .ok (.pop, 1) := by decide +kernel
theorem d19_6 : decode jdk_67_method_7_code 6 = .ok (.aload_n 0, 1) := by decide +kernel
theorem d19_7 : decode jdk_67_method_7_code 7 = .ok (.areturn, 1) := by decide +kernel
def Q_own_app (Z : State) (b t : Addr) (kt : ClassId) (bs : List Int32) (s1 : Addr) (cs : List Int32) (z : Int32) (h0 : Heap) (n0 : Nat) (v : Option Value) (h : Heap) (L : List Loc) : Prop := v = some (.ref b) ∧ Fr n0 L ∧ Keep h0 h [b, t] ∧ Fld Z h b "java/lang/AbstractStringBuilder" "coder" "B" (.int (0 : Int32)) ∧ Fld Z h b "java/lang/AbstractStringBuilder" "count" "I" (.int (Int32.ofNat (bs ++ cs).length)) ∧ Fld Z h b "java/lang/AbstractStringBuilder" "value" "[B" (.ref t) ∧ Arv Z h t kt .byte (16 : Int32) (own_by (bs ++ cs)) (.int (0 : Int32))
set_option maxRecDepth 65536 in
set_option maxHeartbeats 40000000 in
theorem own_app (l : Launch) (Z : State) (a0 : Array Value) (hw : ∀ d ∈ tables_1, d.before a0 Z = true) (b t : Addr) (kt : ClassId) (bs : List Int32) (s1 : Addr) (cs : List Int32) (z : Int32) (h0 : Heap) (n0 : Nat) (Z0 : n0 ≤ h0.size) (X00 : Old Z n0 h0) (O2 : Sta Z Z.heap "java/lang/String" "COMPACT_STRINGS" "Z" (.int z)) (P5 : ¬ z = 0) (E : Exa Z h0 b "java/lang/StringBuilder") (C : Fld Z h0 b "java/lang/AbstractStringBuilder" "coder" "B" (.int (0 : Int32))) (N : Fld Z h0 b "java/lang/AbstractStringBuilder" "count" "I" (.int (Int32.ofNat bs.length))) (V : Fld Z h0 b "java/lang/AbstractStringBuilder" "value" "[B" (.ref t)) (A : Arv Z h0 t kt .byte (16 : Int32) (own_by bs) (.int (0 : Int32))) (Hs : own_Lat Z h0 s1 cs) (gb : n0 ≤ b) (gt : n0 ≤ t) (hl : bs.length + cs.length ≤ 16) :
    MetFree l (⟨"java/lang/StringBuilder", "append", "(Ljava/lang/String;)Ljava/lang/StringBuilder;"⟩ : MethodName) (head1 [Jvm.Cond.code (⟨"java/lang/StringBuilder", "append", "(Ljava/lang/String;)Ljava/lang/StringBuilder;"⟩ : MethodName) jdk_67_method_7_code 2 (some (.object "java/lang/StringBuilder"))] ({ frames := 4, cells := 0, slots := 0, locals := 83 } : Room)) (fun a_ U_ => a_ = #[(.ref b), (.ref s1)] ∧ Z.Warmed39 U_.vm ∧ U_.heap = h0) (fun _ _ _ _ _ => True) (fun _ U_ o_ V_ => ∃ v_ L_, o_ = .returned v_ ∧ Q_own_app Z b t kt bs s1 cs z h0 n0 v_ V_.heap L_ ∧ FrameEnd U_ o_ V_ L_ ({ frames := 4, cells := 0, slots := 0, locals := 83 } : Room).cells ({ frames := 4, cells := 0, slots := 0, locals := 83 } : Room).slots) := by
  refine MetFree.of_bodySF (plainFor_of_name own_pn8) hisR ?_
  intro p e s m args below meth c s₁ Bd hml0 hP hK
  obtain ⟨rfl, hZ, hh⟩ := hP
  have hx := Bd.exec
  have hby := Bd.bytes
  have hml : c.maxLocals = 2 := hml0
  have hown : s.vm.findClass "java/lang/StringBuilder" = some m.cls := findClass_of_methodNamed Bd.named
  have hnm := (name_of_methodNamed Bd.named Bd.method).1
  have X0 : Stand p l e ({ frames := 4, cells := 0, slots := 0, locals := 83 } : Room) s m #[(.ref b), (.ref s1)] below meth c s₁ [] 0 0 := Stand.of_body Bd
  have e0 : s₁.heap = h0 := by rw [← hh, Bd.state]; rfl
  have N0 := Fr.nil n0
  have KK0 := Keep.refl h0 [b, t]
  have cc0 : Steps p.tables e below (s₁.setTop (entryFrame m #[(.ref b), (.ref s1)] 2)) (s₁.setTop (mkF m 0 #[.val (.ref b), .val (.ref s1)] [])) := XT.entry rfl
  obtain ⟨S0', hS0'⟩ : ∃ S, S = (s₁.setTop (entryFrame m #[(.ref b), (.ref s1)] 2)) := ⟨_, rfl⟩
  rw [← hS0'] at cc0
  have w_136 := hw _ (List.mem_of_getElem? (i := 136) rfl)
  have w_139 := hw _ (List.mem_of_getElem? (i := 139) rfl)
  have cc21 : Steps p.tables e below S0' (s₁.setTop (mkF m 2 #[.val (.ref b), .val (.ref s1)] [(.ref s1), (.ref b)])) := Steps.trans cc0 (by
    refine XS.aloadN X0.here hx rfl (own_d hby d19_0) rfl rfl ?_
    refine XS.aloadN X0.here hx rfl (own_d hby d19_1) rfl rfl ?_
    exact Steps.refl _)
  obtain ⟨_, _, ⟨T22, L22, k22, n22⟩, -, X22, ⟨Lc22, hQ22, l22, y22, z22⟩, st22⟩ := superBack X0 hx hZ (y := (⟨"java/lang/AbstractStringBuilder", "append", "(Ljava/lang/String;)Ljava/lang/AbstractStringBuilder;"⟩ : MethodName)) hown (hw _ (List.mem_of_getElem? (i := 135) rfl)) (own_sameM w_136 (hw _ (List.mem_of_getElem? (i := 146) rfl)) rfl (by decide)) w_136 (hw _ (List.mem_of_getElem? (i := 137) rfl)) (by decide) (backOf (W := 0) (own_aap l Z a0 hw b t kt bs s1 cs z h0 n0 Z0 X00 O2 P5 E C N V A Hs gb gt hl) hZ w_139 (hw _ (List.mem_of_getElem? (i := 121) rfl)) (by decide) (by decide)) e0 (Ins.self E) (g := (mkF m 2 #[.val (.ref b), .val (.ref s1)] [(.ref s1), (.ref b)])) rfl (by rw [hml]; rfl) w_139 (argsL := [(.ref s1)]) (rest := []) (lenOf own_pd13 rfl) rfl (by show 2 * 0 + _ ≤ _; exact Nat.le_of_eq rfl) (own_d hby d19_2) (fun _ _ => ⟨rfl, e0, Nat.le_of_ble_eq_true rfl, Nat.le_of_ble_eq_true rfl⟩)
  dsimp only [Pt.U, Pt.locs, Pt.cells, Pt.slots] at X22 l22 y22 z22 st22 hQ22
  subst l22 y22 z22
  obtain ⟨rfl, Nq22, Kq22, f122, f222, f322, f422⟩ := hQ22
  have N22 := Fr.app N0 Nq22
  have KK1 : Keep h0 T22.heap [b, t] := KK0.trans Kq22 (allS (Or.inl (List.mem_of_getElem? (i := 0) rfl)) (allS (Or.inl (List.mem_of_getElem? (i := 1) rfl)) all0))
  have Zs1 : n0 ≤ T22.heap.size := Nat.le_trans Z0 Kq22.1
  have e22 : T22.heap = T22.heap := rfl
  have cc23 : Steps p.tables e below S0' (T22.setTop (mkF m 7 #[.val (.ref b), .val (.ref s1)] [(.ref b)])) := Steps.trans (Steps.trans cc21 st22) (by
    refine XT.pop X22.here hx rfl (own_d hby d19_5) rfl rfl ?_
    refine XS.aloadN X22.here hx rfl (own_d hby d19_6) rfl rfl ?_
    exact Steps.refl _)
  have cE := cc23
  rw [hS0'] at cE
  obtain ⟨fs, hr_, hrun, hended, hW, hsame⟩ := X22.leave (v := some (.ref b)) (fun h => by rw [Bd.returns] at h; cases h)
  refine ⟨_, _, cE.trans (X22.areturnOut hx (rfl) Bd.returns rfl (own_d hby d19_7) hr_), hrun, hended, _, _, rfl, ?_, ⟨_, rfl⟩, hW, hsame.mono (by first | decide | omega) (by first | decide | omega)⟩
  show Q_own_app Z b t kt bs s1 cs z h0 n0 _ T22.heap _
  rw [e22]
  exact ⟨rfl, N22, KK1, f122, f222, f322, f422⟩
theorem d20_0 : decode jdk_68_method_64_code 0 = .ok (.aload_n 0, 1) := by decide +kernel
theorem d20_1 : decode jdk_68_method_64_code 1 = .ok (.getfield 15, 3) := by decide +kernel
theorem d20_4 : decode jdk_68_method_64_code 4 = .ok (.areturn, 1) := by decide +kernel
def Q_own_gv (Z : State) (b t : Addr) (h0 : Heap) (n0 : Nat) (v : Option Value) (h : Heap) (L : List Loc) : Prop := v = some (.ref t) ∧ Fr n0 L ∧ h = h0
set_option maxRecDepth 65536 in
set_option maxHeartbeats 40000000 in
theorem own_gv (l : Launch) (Z : State) (a0 : Array Value) (hw : ∀ d ∈ tables_1, d.before a0 Z = true) (b t : Addr) (h0 : Heap) (n0 : Nat) (Z0 : n0 ≤ h0.size) (V : Fld Z h0 b "java/lang/AbstractStringBuilder" "value" "[B" (.ref t)) :
    MetFree l (⟨"java/lang/AbstractStringBuilder", "getValue", "()[B"⟩ : MethodName) (head1 [Jvm.Cond.code (⟨"java/lang/AbstractStringBuilder", "getValue", "()[B"⟩ : MethodName) jdk_68_method_64_code 1 (some (.array .byte))] ({ frames := 0, cells := 0, slots := 0, locals := 0 } : Room)) (fun a_ U_ => a_ = #[(.ref b)] ∧ Z.Warmed39 U_.vm ∧ U_.heap = h0) (fun _ _ _ _ _ => True) (fun _ U_ o_ V_ => ∃ v_ L_, o_ = .returned v_ ∧ Q_own_gv Z b t h0 n0 v_ V_.heap L_ ∧ FrameEnd U_ o_ V_ L_ ({ frames := 0, cells := 0, slots := 0, locals := 0 } : Room).cells ({ frames := 0, cells := 0, slots := 0, locals := 0 } : Room).slots) := by
  refine MetFree.of_bodySF (plainFor_of_name own_pn7) hisR ?_
  intro p e s m args below meth c s₁ Bd hml0 hP hK
  obtain ⟨rfl, hZ, hh⟩ := hP
  have hx := Bd.exec
  have hby := Bd.bytes
  have hml : c.maxLocals = 1 := hml0
  have hown : s.vm.findClass "java/lang/AbstractStringBuilder" = some m.cls := findClass_of_methodNamed Bd.named
  have hnm := (name_of_methodNamed Bd.named Bd.method).1
  have X0 : Stand p l e ({ frames := 0, cells := 0, slots := 0, locals := 0 } : Room) s m #[(.ref b)] below meth c s₁ [] 0 0 := Stand.of_body Bd
  have e0 : s₁.heap = h0 := by rw [← hh, Bd.state]; rfl
  have N0 := Fr.nil n0
  have KK0 := Keep.refl h0 ([] : List Addr)
  have cc0 : Steps p.tables e below (s₁.setTop (entryFrame m #[(.ref b)] 1)) (s₁.setTop (mkF m 0 #[.val (.ref b)] [])) := XT.entry rfl
  obtain ⟨S0', hS0'⟩ : ∃ S, S = (s₁.setTop (entryFrame m #[(.ref b)] 1)) := ⟨_, rfl⟩
  rw [← hS0'] at cc0
  have cc21 : Steps p.tables e below S0' (s₁.setTop (mkF m 1 #[.val (.ref b)] [(.ref b)])) := Steps.trans cc0 (by
    refine XS.aloadN X0.here hx rfl (own_d hby d20_0) rfl rfl ?_
    exact Steps.refl _)
  obtain ⟨T22, X22, e22, st22⟩ := getF X0 hx hZ hown (host := "") (Or.inl (hw _ (List.mem_of_getElem? (i := 125) rfl))) Via.refl e0 V (g := (mkF m 1 #[.val (.ref b)] [(.ref b)])) rfl rfl (own_d hby d20_1)
  have cc23 : Steps p.tables e below S0' (T22.setTop (mkF m 4 #[.val (.ref b)] [(.ref t)])) := (cc21.trans (st22 _ (Steps.refl _)))
  have cE := cc23
  rw [hS0'] at cE
  obtain ⟨fs, hr_, hrun, hended, hW, hsame⟩ := X22.leave (v := some (.ref t)) (fun h => by rw [Bd.returns] at h; cases h)
  refine ⟨_, _, cE.trans (X22.areturnOut hx (rfl) Bd.returns rfl (own_d hby d20_4) hr_), hrun, hended, _, _, rfl, ?_, ⟨_, rfl⟩, hW, hsame.mono (by first | decide | omega) (by first | decide | omega)⟩
  show Q_own_gv Z b t h0 n0 _ T22.heap _
  rw [e22]
  exact ⟨rfl, N0, rfl⟩
theorem d21_0 : decode jdk_68_method_6_code 0 = .ok (.aload_n 0, 1) := by decide +kernel
theorem d21_1 : decode jdk_68_method_6_code 1 = .ok (.getfield 79, 3) := by decide +kernel
theorem d21_4 : decode jdk_68_method_6_code 4 = .ok (.ireturn, 1) := by decide +kernel
def Q_own_asl (Z : State) (b : Addr) (n : Int32) (h0 : Heap) (n0 : Nat) (v : Option Value) (h : Heap) (L : List Loc) : Prop := v = some (.int n) ∧ Fr n0 L ∧ h = h0
set_option maxRecDepth 65536 in
set_option maxHeartbeats 40000000 in
theorem own_asl (l : Launch) (Z : State) (a0 : Array Value) (hw : ∀ d ∈ tables_1, d.before a0 Z = true) (b : Addr) (n : Int32) (h0 : Heap) (n0 : Nat) (Z0 : n0 ≤ h0.size) (N : Fld Z h0 b "java/lang/AbstractStringBuilder" "count" "I" (.int n)) :
    MetFree l (⟨"java/lang/AbstractStringBuilder", "length", "()I"⟩ : MethodName) (head1 [Jvm.Cond.code (⟨"java/lang/AbstractStringBuilder", "length", "()I"⟩ : MethodName) jdk_68_method_6_code 1 (some .int)] ({ frames := 0, cells := 0, slots := 0, locals := 0 } : Room)) (fun a_ U_ => a_ = #[(.ref b)] ∧ Z.Warmed39 U_.vm ∧ U_.heap = h0) (fun _ _ _ _ _ => True) (fun _ U_ o_ V_ => ∃ v_ L_, o_ = .returned v_ ∧ Q_own_asl Z b n h0 n0 v_ V_.heap L_ ∧ FrameEnd U_ o_ V_ L_ ({ frames := 0, cells := 0, slots := 0, locals := 0 } : Room).cells ({ frames := 0, cells := 0, slots := 0, locals := 0 } : Room).slots) := by
  refine MetFree.of_bodySF (plainFor_of_name own_pn7) hisR ?_
  intro p e s m args below meth c s₁ Bd hml0 hP hK
  obtain ⟨rfl, hZ, hh⟩ := hP
  have hx := Bd.exec
  have hby := Bd.bytes
  have hml : c.maxLocals = 1 := hml0
  have hown : s.vm.findClass "java/lang/AbstractStringBuilder" = some m.cls := findClass_of_methodNamed Bd.named
  have hnm := (name_of_methodNamed Bd.named Bd.method).1
  have X0 : Stand p l e ({ frames := 0, cells := 0, slots := 0, locals := 0 } : Room) s m #[(.ref b)] below meth c s₁ [] 0 0 := Stand.of_body Bd
  have e0 : s₁.heap = h0 := by rw [← hh, Bd.state]; rfl
  have N0 := Fr.nil n0
  have KK0 := Keep.refl h0 ([] : List Addr)
  have cc0 : Steps p.tables e below (s₁.setTop (entryFrame m #[(.ref b)] 1)) (s₁.setTop (mkF m 0 #[.val (.ref b)] [])) := XT.entry rfl
  obtain ⟨S0', hS0'⟩ : ∃ S, S = (s₁.setTop (entryFrame m #[(.ref b)] 1)) := ⟨_, rfl⟩
  rw [← hS0'] at cc0
  have cc21 : Steps p.tables e below S0' (s₁.setTop (mkF m 1 #[.val (.ref b)] [(.ref b)])) := Steps.trans cc0 (by
    refine XS.aloadN X0.here hx rfl (own_d hby d21_0) rfl rfl ?_
    exact Steps.refl _)
  obtain ⟨T22, X22, e22, st22⟩ := getF X0 hx hZ hown (host := "") (Or.inl (hw _ (List.mem_of_getElem? (i := 141) rfl))) Via.refl e0 N (g := (mkF m 1 #[.val (.ref b)] [(.ref b)])) rfl rfl (own_d hby d21_1)
  have cc23 : Steps p.tables e below S0' (T22.setTop (mkF m 4 #[.val (.ref b)] [(.int n)])) := (cc21.trans (st22 _ (Steps.refl _)))
  have cE := cc23
  rw [hS0'] at cE
  obtain ⟨fs, hr_, hrun, hended, hW, hsame⟩ := X22.leave (v := some (.int n)) (fun h => by rw [Bd.returns] at h; cases h)
  refine ⟨_, _, cE.trans (X22.ireturnOut hx Bd.returns (rfl) (by simp) (own_d hby d21_4) hr_), hrun, hended, _, _, rfl, ?_, ⟨_, rfl⟩, hW, hsame.mono (by first | decide | omega) (by first | decide | omega)⟩
  show Q_own_asl Z b n h0 n0 _ T22.heap _
  rw [e22]
  exact ⟨rfl, N0, rfl⟩
theorem d22_0 : decode jdk_67_method_93_code 0 = .ok (.aload_n 0, 1) := by decide +kernel
theorem d22_1 : decode jdk_67_method_93_code 1 = .ok (.invokespecial 343, 3) := by decide +kernel
theorem d22_4 : decode jdk_67_method_93_code 4 = .ok (.ireturn, 1) := by decide +kernel
def Q_own_sbl (Z : State) (b : Addr) (n : Int32) (h0 : Heap) (n0 : Nat) (v : Option Value) (h : Heap) (L : List Loc) : Prop := v = some (.int n) ∧ Fr n0 L ∧ h = h0
set_option maxRecDepth 65536 in
set_option maxHeartbeats 40000000 in
theorem own_sbl (l : Launch) (Z : State) (a0 : Array Value) (hw : ∀ d ∈ tables_1, d.before a0 Z = true) (b : Addr) (n : Int32) (h0 : Heap) (n0 : Nat) (Z0 : n0 ≤ h0.size) (E : Exa Z h0 b "java/lang/StringBuilder") (N : Fld Z h0 b "java/lang/AbstractStringBuilder" "count" "I" (.int n)) :
    MetFree l (⟨"java/lang/StringBuilder", "length", "()I"⟩ : MethodName) (head1 [Jvm.Cond.code (⟨"java/lang/StringBuilder", "length", "()I"⟩ : MethodName) jdk_67_method_93_code 1 (some .int)] ({ frames := 1, cells := 0, slots := 0, locals := 12 } : Room)) (fun a_ U_ => a_ = #[(.ref b)] ∧ Z.Warmed39 U_.vm ∧ U_.heap = h0) (fun _ _ _ _ _ => True) (fun _ U_ o_ V_ => ∃ v_ L_, o_ = .returned v_ ∧ Q_own_sbl Z b n h0 n0 v_ V_.heap L_ ∧ FrameEnd U_ o_ V_ L_ ({ frames := 1, cells := 0, slots := 0, locals := 12 } : Room).cells ({ frames := 1, cells := 0, slots := 0, locals := 12 } : Room).slots) := by
  refine MetFree.of_bodySF (plainFor_of_name own_pn8) hisR ?_
  intro p e s m args below meth c s₁ Bd hml0 hP hK
  obtain ⟨rfl, hZ, hh⟩ := hP
  have hx := Bd.exec
  have hby := Bd.bytes
  have hml : c.maxLocals = 1 := hml0
  have hown : s.vm.findClass "java/lang/StringBuilder" = some m.cls := findClass_of_methodNamed Bd.named
  have hnm := (name_of_methodNamed Bd.named Bd.method).1
  have X0 : Stand p l e ({ frames := 1, cells := 0, slots := 0, locals := 12 } : Room) s m #[(.ref b)] below meth c s₁ [] 0 0 := Stand.of_body Bd
  have e0 : s₁.heap = h0 := by rw [← hh, Bd.state]; rfl
  have N0 := Fr.nil n0
  have KK0 := Keep.refl h0 ([] : List Addr)
  have cc0 : Steps p.tables e below (s₁.setTop (entryFrame m #[(.ref b)] 1)) (s₁.setTop (mkF m 0 #[.val (.ref b)] [])) := XT.entry rfl
  obtain ⟨S0', hS0'⟩ : ∃ S, S = (s₁.setTop (entryFrame m #[(.ref b)] 1)) := ⟨_, rfl⟩
  rw [← hS0'] at cc0
  have w_194 := hw _ (List.mem_of_getElem? (i := 194) rfl)
  have w_199 := hw _ (List.mem_of_getElem? (i := 199) rfl)
  have cc21 : Steps p.tables e below S0' (s₁.setTop (mkF m 1 #[.val (.ref b)] [(.ref b)])) := Steps.trans cc0 (by
    refine XS.aloadN X0.here hx rfl (own_d hby d22_0) rfl rfl ?_
    exact Steps.refl _)
  obtain ⟨_, _, ⟨T22, L22, k22, n22⟩, -, X22, ⟨Lc22, hQ22, l22, y22, z22⟩, st22⟩ := superBack X0 hx hZ (y := (⟨"java/lang/AbstractStringBuilder", "length", "()I"⟩ : MethodName)) hown (hw _ (List.mem_of_getElem? (i := 198) rfl)) (own_sameM w_194 (hw _ (List.mem_of_getElem? (i := 146) rfl)) rfl (by decide)) w_194 (hw _ (List.mem_of_getElem? (i := 137) rfl)) (by decide) (backOf (W := 0) (own_asl l Z a0 hw b n h0 n0 Z0 N) hZ w_199 (hw _ (List.mem_of_getElem? (i := 121) rfl)) (by decide) (by decide)) e0 (Ins.self E) (g := (mkF m 1 #[.val (.ref b)] [(.ref b)])) rfl (by rw [hml]; rfl) w_199 (argsL := []) (rest := []) (lenOf own_pd6 rfl) rfl (by show 2 * 0 + _ ≤ _; exact Nat.le_of_eq rfl) (own_d hby d22_1) (fun _ _ => ⟨rfl, e0, Nat.le_of_ble_eq_true rfl, Nat.le_of_ble_eq_true rfl⟩)
  dsimp only [Pt.U, Pt.locs, Pt.cells, Pt.slots] at X22 l22 y22 z22 st22 hQ22
  subst l22 y22 z22
  obtain ⟨rfl, Nq22, eq22⟩ := hQ22
  have N22 := Fr.app N0 Nq22
  have e22 : T22.heap = h0 := eq22
  have cc23 : Steps p.tables e below S0' (T22.setTop (mkF m 4 #[.val (.ref b)] [(.int n)])) := (Steps.trans cc21 st22)
  have cE := cc23
  rw [hS0'] at cE
  obtain ⟨fs, hr_, hrun, hended, hW, hsame⟩ := X22.leave (v := some (.int n)) (fun h => by rw [Bd.returns] at h; cases h)
  refine ⟨_, _, cE.trans (X22.ireturnOut hx Bd.returns (rfl) (by simp) (own_d hby d22_4) hr_), hrun, hended, _, _, rfl, ?_, ⟨_, rfl⟩, hW, hsame.mono (by first | decide | omega) (by first | decide | omega)⟩
  show Q_own_sbl Z b n h0 n0 _ T22.heap _
  rw [e22]
  exact ⟨rfl, N22, rfl⟩
theorem d23_0 : decode jdk_68_method_68_code 0 = .ok (.getstatic 18, 3) := by decide +kernel
theorem d23_3 : decode jdk_68_method_68_code 3 = .ok (.ifCond .eq 14, 3) := by decide +kernel
theorem d23_6 : decode jdk_68_method_68_code 6 = .ok (.aload_n 0, 1) := by decide +kernel
theorem d23_7 : decode jdk_68_method_68_code 7 = .ok (.getfield 22, 3) := by decide +kernel
theorem d23_10 : decode jdk_68_method_68_code 10 = .ok (.ifCond .ne 7, 3) := by decide +kernel
theorem d23_13 : decode jdk_68_method_68_code 13 = .ok (.iconst 1, 1) := by decide +kernel
theorem d23_14 : decode jdk_68_method_68_code 14 = .ok (.goto 4, 3) := by decide +kernel
theorem d23_18 : decode jdk_68_method_68_code 18 = .ok (.ireturn, 1) := by decide +kernel
def Q_own_sil (Z : State) (b : Addr) (z : Int32) (h0 : Heap) (n0 : Nat) (v : Option Value) (h : Heap) (L : List Loc) : Prop := v = some (.int 1) ∧ Fr n0 L ∧ h = h0
set_option maxRecDepth 65536 in
set_option maxHeartbeats 40000000 in
theorem own_sil (l : Launch) (Z : State) (a0 : Array Value) (hw : ∀ d ∈ tables_1, d.before a0 Z = true) (b : Addr) (z : Int32) (h0 : Heap) (n0 : Nat) (Z0 : n0 ≤ h0.size) (X00 : Old Z n0 h0) (O2 : Sta Z Z.heap "java/lang/String" "COMPACT_STRINGS" "Z" (.int z)) (P5 : ¬ z = 0) (C : Fld Z h0 b "java/lang/AbstractStringBuilder" "coder" "B" (.int (0 : Int32))) :
    MetFree l (⟨"java/lang/AbstractStringBuilder", "isLatin1", "()Z"⟩ : MethodName) (head1 [Jvm.Cond.code (⟨"java/lang/AbstractStringBuilder", "isLatin1", "()Z"⟩ : MethodName) jdk_68_method_68_code 1 (some .boolean)] ({ frames := 0, cells := 0, slots := 0, locals := 0 } : Room)) (fun a_ U_ => a_ = #[(.ref b)] ∧ Z.Warmed39 U_.vm ∧ U_.heap = h0) (fun _ _ _ _ _ => True) (fun _ U_ o_ V_ => ∃ v_ L_, o_ = .returned v_ ∧ Q_own_sil Z b z h0 n0 v_ V_.heap L_ ∧ FrameEnd U_ o_ V_ L_ ({ frames := 0, cells := 0, slots := 0, locals := 0 } : Room).cells ({ frames := 0, cells := 0, slots := 0, locals := 0 } : Room).slots) := by
  refine MetFree.of_bodySF (plainFor_of_name own_pn7) hisR ?_
  intro p e s m args below meth c s₁ Bd hml0 hP hK
  obtain ⟨rfl, hZ, hh⟩ := hP
  have hx := Bd.exec
  have hby := Bd.bytes
  have hml : c.maxLocals = 1 := hml0
  have hown : s.vm.findClass "java/lang/AbstractStringBuilder" = some m.cls := findClass_of_methodNamed Bd.named
  have hnm := (name_of_methodNamed Bd.named Bd.method).1
  have X0 : Stand p l e ({ frames := 0, cells := 0, slots := 0, locals := 0 } : Room) s m #[(.ref b)] below meth c s₁ [] 0 0 := Stand.of_body Bd
  have e0 : s₁.heap = h0 := by rw [← hh, Bd.state]; rfl
  have N0 := Fr.nil n0
  have KK0 := Keep.refl h0 ([] : List Addr)
  have cc0 : Steps p.tables e below (s₁.setTop (entryFrame m #[(.ref b)] 1)) (s₁.setTop (mkF m 0 #[.val (.ref b)] [])) := XT.entry rfl
  obtain ⟨S0', hS0'⟩ : ∃ S, S = (s₁.setTop (entryFrame m #[(.ref b)] 1)) := ⟨_, rfl⟩
  rw [← hS0'] at cc0
  obtain ⟨T21, X21, e21, st21⟩ := getS2 X0 hx hZ hown (host := "") (Or.inl (hw _ (List.mem_of_getElem? (i := 124) rfl))) Via.refl e0 (O2.ext X00.2) (g := (mkF m 0 #[.val (.ref b)] [])) rfl (own_d hby d23_0)
  have cc22 : Steps p.tables e below S0' (T21.setTop (mkF m 7 #[.val (.ref b)] [(.ref b)])) := Steps.trans (cc0.trans (st21 _ (Steps.refl _))) (by
    refine XS.ifNo X21.here hx rfl (own_d hby d23_3) rfl (i0_eq_f P5) ?_
    refine XS.aloadN X21.here hx rfl (own_d hby d23_6) rfl rfl ?_
    exact Steps.refl _)
  obtain ⟨T23, X23, e23, st23⟩ := getF X21 hx hZ hown (host := "") (Or.inl (hw _ (List.mem_of_getElem? (i := 127) rfl))) Via.refl e21 C (g := (mkF m 7 #[.val (.ref b)] [(.ref b)])) rfl rfl (own_d hby d23_7)
  have cc24 : Steps p.tables e below S0' (T23.setTop (mkF m 18 #[.val (.ref b)] [(.int 1)])) := Steps.trans (cc22.trans (st23 _ (Steps.refl _))) (by
    refine XS.ifNo X23.here hx rfl (own_d hby d23_10) rfl (i0_ne_f rfl) ?_
    refine iconstV X23.here hx rfl 1 (own_d hby d23_13) (by decide) ?_
    refine XS.goto X23.here hx rfl (pc0 := 14) rfl (own_d hby d23_14) (by decide) rfl ?_
    exact Steps.refl _)
  have cE := cc24
  rw [hS0'] at cE
  obtain ⟨fs, hr_, hrun, hended, hW, hsame⟩ := X23.leave (v := some (.int 1)) (fun h => by rw [Bd.returns] at h; cases h)
  refine ⟨_, _, cE.trans (X23.ireturnOut hx Bd.returns (rfl) (by simp) (own_d hby d23_18) hr_), hrun, hended, _, _, rfl, ?_, ⟨_, rfl⟩, hW, hsame.mono (by first | decide | omega) (by first | decide | omega)⟩
  show Q_own_sil Z b z h0 n0 _ T23.heap _
  rw [e23]
  exact ⟨rfl, N0, rfl⟩
theorem d24_0 : decode jdk_65_method_131_code 0 = .ok (.iload_n 1, 1) := by decide +kernel
theorem d24_1 : decode jdk_65_method_131_code 1 = .ok (.iload_n 0, 1) := by decide +kernel
theorem d24_2 : decode jdk_65_method_131_code 2 = .ok (.if_icmp .ge 35, 3) := by decide +kernel
theorem d24_37 : decode jdk_65_method_131_code 37 = .ok (.return_, 1) := by decide +kernel
def Q_own_chk (Z : State) (a b : Int32) (h0 : Heap) (n0 : Nat) (v : Option Value) (h : Heap) (L : List Loc) : Prop := v = none ∧ Fr n0 L ∧ h = h0
set_option maxRecDepth 65536 in
set_option maxHeartbeats 40000000 in
theorem own_chk (l : Launch) (Z : State) (a0 : Array Value) (hw : ∀ d ∈ tables_1, d.before a0 Z = true) (a b : Int32) (h0 : Heap) (n0 : Nat) (Z0 : n0 ≤ h0.size) (h1 : ¬ b < a) :
    MetFree l (⟨"java/util/Arrays", "checkLength", "(II)V"⟩ : MethodName) (head1 [Jvm.Cond.code (⟨"java/util/Arrays", "checkLength", "(II)V"⟩ : MethodName) jdk_65_method_131_code 2 none] ({ frames := 0, cells := 0, slots := 0, locals := 0 } : Room)) (fun a_ U_ => a_ = #[(.int a), (.int b)] ∧ Z.Warmed39 U_.vm ∧ U_.heap = h0) (fun _ _ _ _ _ => True) (fun _ U_ o_ V_ => ∃ v_ L_, o_ = .returned v_ ∧ Q_own_chk Z a b h0 n0 v_ V_.heap L_ ∧ FrameEnd U_ o_ V_ L_ ({ frames := 0, cells := 0, slots := 0, locals := 0 } : Room).cells ({ frames := 0, cells := 0, slots := 0, locals := 0 } : Room).slots) := by
  refine MetFree.of_bodySF (plainFor_of_name own_pn9) hisR ?_
  intro p e s m args below meth c s₁ Bd hml0 hP hK
  obtain ⟨rfl, hZ, hh⟩ := hP
  have hx := Bd.exec
  have hby := Bd.bytes
  have hml : c.maxLocals = 2 := hml0
  have hown : s.vm.findClass "java/util/Arrays" = some m.cls := findClass_of_methodNamed Bd.named
  have hnm := (name_of_methodNamed Bd.named Bd.method).1
  have X0 : Stand p l e ({ frames := 0, cells := 0, slots := 0, locals := 0 } : Room) s m #[(.int a), (.int b)] below meth c s₁ [] 0 0 := Stand.of_body Bd
  have e0 : s₁.heap = h0 := by rw [← hh, Bd.state]; rfl
  have N0 := Fr.nil n0
  have KK0 := Keep.refl h0 ([] : List Addr)
  have cc0 : Steps p.tables e below (s₁.setTop (entryFrame m #[(.int a), (.int b)] 2)) (s₁.setTop (mkF m 0 #[.val (.int a), .val (.int b)] [])) := XT.entry rfl
  obtain ⟨S0', hS0'⟩ : ∃ S, S = (s₁.setTop (entryFrame m #[(.int a), (.int b)] 2)) := ⟨_, rfl⟩
  rw [← hS0'] at cc0
  have cc21 : Steps p.tables e below S0' (s₁.setTop (mkF m 37 #[.val (.int a), .val (.int b)] [])) := Steps.trans cc0 (by
    refine XS.iloadN X0.here hx rfl (own_d hby d24_0) rfl ?_
    refine XS.iloadN X0.here hx rfl (own_d hby d24_1) rfl ?_
    refine XS.icmpYes X0.here hx rfl (pc0 := 2) rfl (own_d hby d24_2) rfl (ii_ge_t h1) (by decide) rfl ?_
    exact Steps.refl _)
  have cE := cc21
  rw [hS0'] at cE
  obtain ⟨fs, hr_, hrun, hended, hW, hsame⟩ := X0.leave (v := none) (fun _ => rfl)
  refine ⟨_, _, cE.trans (X0.returnOut hx Bd.returns (own_d hby d24_37) hr_), hrun, hended, _, _, rfl, ?_, ⟨_, rfl⟩, hW, hsame.mono (by first | decide | omega) (by first | decide | omega)⟩
  show Q_own_chk Z a b h0 n0 _ s₁.heap _
  rw [e0]
  exact ⟨rfl, N0, rfl⟩
theorem d25_0 : decode jdk_29_method_69_code 0 = .ok (.iload_n 0, 1) := by decide +kernel
theorem d25_1 : decode jdk_29_method_69_code 1 = .ok (.iload_n 1, 1) := by decide +kernel
theorem d25_2 : decode jdk_29_method_69_code 2 = .ok (.if_icmp .gt 7, 3) := by decide +kernel
theorem d25_9 : decode jdk_29_method_69_code 9 = .ok (.iload_n 1, 1) := by decide +kernel
theorem d25_10 : decode jdk_29_method_69_code 10 = .ok (.ireturn, 1) := by decide +kernel
def Q_own_minb (Z : State) (a b : Int32) (h0 : Heap) (n0 : Nat) (v : Option Value) (h : Heap) (L : List Loc) : Prop := v = some (.int b) ∧ Fr n0 L ∧ h = h0
set_option maxRecDepth 65536 in
set_option maxHeartbeats 40000000 in
theorem own_minb (l : Launch) (Z : State) (a0 : Array Value) (hw : ∀ d ∈ tables_1, d.before a0 Z = true) (a b : Int32) (h0 : Heap) (n0 : Nat) (Z0 : n0 ≤ h0.size) (h1 : b < a) :
    MetFree l (⟨"java/lang/Math", "min", "(II)I"⟩ : MethodName) (head1 [Jvm.Cond.code (⟨"java/lang/Math", "min", "(II)I"⟩ : MethodName) jdk_29_method_69_code 2 (some .int)] ({ frames := 0, cells := 0, slots := 0, locals := 0 } : Room)) (fun a_ U_ => a_ = #[(.int a), (.int b)] ∧ Z.Warmed39 U_.vm ∧ U_.heap = h0) (fun _ _ _ _ _ => True) (fun _ U_ o_ V_ => ∃ v_ L_, o_ = .returned v_ ∧ Q_own_minb Z a b h0 n0 v_ V_.heap L_ ∧ FrameEnd U_ o_ V_ L_ ({ frames := 0, cells := 0, slots := 0, locals := 0 } : Room).cells ({ frames := 0, cells := 0, slots := 0, locals := 0 } : Room).slots) := by
  refine MetFree.of_bodySF (by decide +kernel) hisR ?_
  intro p e s m args below meth c s₁ Bd hml0 hP hK
  obtain ⟨rfl, hZ, hh⟩ := hP
  have hx := Bd.exec
  have hby := Bd.bytes
  have hml : c.maxLocals = 2 := hml0
  have hown : s.vm.findClass "java/lang/Math" = some m.cls := findClass_of_methodNamed Bd.named
  have hnm := (name_of_methodNamed Bd.named Bd.method).1
  have X0 : Stand p l e ({ frames := 0, cells := 0, slots := 0, locals := 0 } : Room) s m #[(.int a), (.int b)] below meth c s₁ [] 0 0 := Stand.of_body Bd
  have e0 : s₁.heap = h0 := by rw [← hh, Bd.state]; rfl
  have N0 := Fr.nil n0
  have KK0 := Keep.refl h0 ([] : List Addr)
  have cc0 : Steps p.tables e below (s₁.setTop (entryFrame m #[(.int a), (.int b)] 2)) (s₁.setTop (mkF m 0 #[.val (.int a), .val (.int b)] [])) := XT.entry rfl
  obtain ⟨S0', hS0'⟩ : ∃ S, S = (s₁.setTop (entryFrame m #[(.int a), (.int b)] 2)) := ⟨_, rfl⟩
  rw [← hS0'] at cc0
  have cc21 : Steps p.tables e below S0' (s₁.setTop (mkF m 10 #[.val (.int a), .val (.int b)] [(.int b)])) := Steps.trans cc0 (by
    refine XS.iloadN X0.here hx rfl (own_d hby d25_0) rfl ?_
    refine XS.iloadN X0.here hx rfl (own_d hby d25_1) rfl ?_
    refine XS.icmpYes X0.here hx rfl (pc0 := 2) rfl (own_d hby d25_2) rfl (ii_gt_t h1) (by decide) rfl ?_
    refine XS.iloadN X0.here hx rfl (own_d hby d25_9) rfl ?_
    exact Steps.refl _)
  have cE := cc21
  rw [hS0'] at cE
  obtain ⟨fs, hr_, hrun, hended, hW, hsame⟩ := X0.leave (v := some (.int b)) (fun h => by rw [Bd.returns] at h; cases h)
  refine ⟨_, _, cE.trans (X0.ireturnOut hx Bd.returns (rfl) (by simp) (own_d hby d25_10) hr_), hrun, hended, _, _, rfl, ?_, ⟨_, rfl⟩, hW, hsame.mono (by first | decide | omega) (by first | decide | omega)⟩
  show Q_own_minb Z a b h0 n0 _ s₁.heap _
  rw [e0]
  exact ⟨rfl, N0, rfl⟩
theorem d26_0 : decode jdk_65_method_133_code 0 = .ok (.iload_n 1, 1) := by decide +kernel
theorem d26_1 : decode jdk_65_method_133_code 1 = .ok (.iload_n 2, 1) := by decide +kernel
theorem d26_2 : decode jdk_65_method_133_code 2 = .ok (.invokestatic 343, 3) := by decide +kernel
theorem d26_5 : decode jdk_65_method_133_code 5 = .ok (.iload_n 2, 1) := by decide +kernel
theorem d26_6 : decode jdk_65_method_133_code 6 = .ok (.iload_n 1, 1) := by decide +kernel
theorem d26_7 : decode jdk_65_method_133_code 7 = .ok (.isub, 1) := by decide +kernel
theorem d26_8 : decode jdk_65_method_133_code 8 = .ok (.istore_n 3, 1) := by decide +kernel
theorem d26_9 : decode jdk_65_method_133_code 9 = .ok (.iload_n 3, 1) := by decide +kernel
theorem d26_10 : decode jdk_65_method_133_code 10 = .ok (.newarray .byte, 2) := by decide +kernel
theorem d26_12 : decode jdk_65_method_133_code 12 = .ok (.astore 4, 2) := by decide +kernel
theorem d26_14 : decode jdk_65_method_133_code 14 = .ok (.aload_n 0, 1) := by decide +kernel
theorem d26_15 : decode jdk_65_method_133_code 15 = .ok (.iload_n 1, 1) := by decide +kernel
theorem d26_16 : decode jdk_65_method_133_code 16 = .ok (.aload 4, 2) := by decide +kernel
theorem d26_18 : decode jdk_65_method_133_code 18 = .ok (.iconst 0, 1) := by decide +kernel
theorem d26_19 : decode jdk_65_method_133_code 19 = .ok (.aload_n 0, 1) := by decide +kernel
theorem d26_20 : decode jdk_65_method_133_code 20 = .ok (.arraylength, 1) := by decide +kernel
theorem d26_21 : decode jdk_65_method_133_code 21 = .ok (.iload_n 1, 1) := by decide +kernel
theorem d26_22 : decode jdk_65_method_133_code 22 = .ok (.isub, 1) := by decide +kernel
theorem d26_23 : decode jdk_65_method_133_code 23 = .ok (.iload_n 3, 1) := by decide +kernel
theorem d26_24 : decode jdk_65_method_133_code 24 = .ok (.invokestatic 304, 3) := by decide +kernel
theorem d26_27 : decode jdk_65_method_133_code 27 = .ok (.invokestatic 150, 3) := by decide +kernel
theorem d26_30 : decode jdk_65_method_133_code 30 = .ok (.aload 4, 2) := by decide +kernel
theorem d26_32 : decode jdk_65_method_133_code 32 = .ok (.areturn, 1) := by decide +kernel
def Q_own_crb0 (Z : State) (a : Addr) (k : ClassId) (bs : List Int32) (h0 : Heap) (n0 : Nat) (v : Option Value) (h : Heap) (L : List Loc) : Prop := ∃ (t : Addr) (kt : ClassId), v = some (.ref t) ∧ Fr n0 L ∧ Keep h0 h [] ∧ h0.size ≤ t ∧ Arv Z h t kt .byte (Int32.ofNat bs.length) (own_by bs) (.int (0 : Int32))
set_option maxRecDepth 65536 in
set_option maxHeartbeats 40000000 in
theorem own_crb0 (l : Launch) (Z : State) (a0 : Array Value) (hw : ∀ d ∈ tables_1, d.before a0 Z = true) (a : Addr) (k : ClassId) (bs : List Int32) (h0 : Heap) (n0 : Nat) (Z0 : n0 ≤ h0.size) (A : Arv Z h0 a k .byte (16 : Int32) (own_by bs) (.int (0 : Int32))) (hb : bs.length < 16) :
    MetFree l (⟨"java/util/Arrays", "copyOfRangeByte", "([BII)[B"⟩ : MethodName) (head1 [Jvm.Cond.code (⟨"java/util/Arrays", "copyOfRangeByte", "([BII)[B"⟩ : MethodName) jdk_65_method_133_code 5 (some (.array .byte))] ({ frames := 1, cells := 1, slots := 16, locals := 40 } : Room)) (fun a_ U_ => a_ = #[(.ref a), (.int 0), (.int (Int32.ofNat bs.length))] ∧ Z.Warmed39 U_.vm ∧ U_.heap = h0) (fun _ _ _ _ _ => True) (fun _ U_ o_ V_ => ∃ v_ L_, o_ = .returned v_ ∧ Q_own_crb0 Z a k bs h0 n0 v_ V_.heap L_ ∧ FrameEnd U_ o_ V_ L_ ({ frames := 1, cells := 1, slots := 16, locals := 40 } : Room).cells ({ frames := 1, cells := 1, slots := 16, locals := 40 } : Room).slots) := by
  refine MetFree.of_bodySF (plainFor_of_name own_pn9) hisR ?_
  intro p e s m args below meth c s₁ Bd hml0 hP hK
  obtain ⟨rfl, hZ, hh⟩ := hP
  have hx := Bd.exec
  have hby := Bd.bytes
  have hml : c.maxLocals = 5 := hml0
  have hown : s.vm.findClass "java/util/Arrays" = some m.cls := findClass_of_methodNamed Bd.named
  have hnm := (name_of_methodNamed Bd.named Bd.method).1
  have X0 : Stand p l e ({ frames := 1, cells := 1, slots := 16, locals := 40 } : Room) s m #[(.ref a), (.int 0), (.int (Int32.ofNat bs.length))] below meth c s₁ [] 0 0 := Stand.of_body Bd
  have e0 : s₁.heap = h0 := by rw [← hh, Bd.state]; rfl
  have N0 := Fr.nil n0
  have KK0 := Keep.refl h0 ([] : List Addr)
  have cc0 : Steps p.tables e below (s₁.setTop (entryFrame m #[(.ref a), (.int 0), (.int (Int32.ofNat bs.length))] 5)) (s₁.setTop (mkF m 0 #[.val (.ref a), .val (.int 0), .val (.int (Int32.ofNat bs.length)), .unset, .unset] [])) := XT.entry rfl
  obtain ⟨S0', hS0'⟩ : ∃ S, S = (s₁.setTop (entryFrame m #[(.ref a), (.int 0), (.int (Int32.ofNat bs.length))] 5)) := ⟨_, rfl⟩
  rw [← hS0'] at cc0
  have w_207 := hw _ (List.mem_of_getElem? (i := 207) rfl)
  have w_214 := hw _ (List.mem_of_getElem? (i := 214) rfl)
  have w_217 := hw _ (List.mem_of_getElem? (i := 217) rfl)
  have w_218 := hw _ (List.mem_of_getElem? (i := 218) rfl)
  have cc21 : Steps p.tables e below S0' (s₁.setTop (mkF m 2 #[.val (.ref a), .val (.int 0), .val (.int (Int32.ofNat bs.length)), .unset, .unset] [(.int (Int32.ofNat bs.length)), (.int 0)])) := Steps.trans cc0 (by
    refine XS.iloadN X0.here hx rfl (own_d hby d26_0) rfl ?_
    refine XS.iloadN X0.here hx rfl (own_d hby d26_1) rfl ?_
    exact Steps.refl _)
  obtain ⟨_, _, ⟨T22, L22, k22, n22⟩, -, X22, ⟨Lc22, hQ22, l22, y22, z22⟩, st22⟩ := Jvm.LawKit.callS X0 hx (y := (⟨"java/util/Arrays", "checkLength", "(II)V"⟩ : MethodName)) hown (mvT hZ (hw _ (List.mem_of_getElem? (i := 212) rfl))) (mvT hZ (hw _ (List.mem_of_getElem? (i := 213) rfl))) (mvT hZ w_207) (mvT hZ w_214) (by decide) (backOf (W := 0) (own_chk l Z a0 hw 0 (Int32.ofNat bs.length) h0 n0 Z0 (Int32.ofNat_not_neg (by omega))) hZ w_214 w_207 (by decide) (by decide)) (g := (mkF m 2 #[.val (.ref a), .val (.int 0), .val (.int (Int32.ofNat bs.length)), .unset, .unset] [(.int (Int32.ofNat bs.length)), (.int 0)])) rfl (by rw [hml]; rfl) (argsL := [(.int 0), (.int (Int32.ofNat bs.length))]) (rest := []) (lenOf own_pd14 rfl) rfl (by show 2 * 0 + _ ≤ _; exact Nat.le_of_eq rfl) (own_d hby d26_2) (fun _ _ => ⟨rfl, e0, Nat.le_of_ble_eq_true rfl, Nat.le_of_ble_eq_true rfl⟩)
  dsimp only [Pt.U, Pt.locs, Pt.cells, Pt.slots] at X22 l22 y22 z22 st22 hQ22
  subst l22 y22 z22
  obtain ⟨rfl, Nq22, eq22⟩ := hQ22
  have N22 := Fr.app N0 Nq22
  have e22 : T22.heap = h0 := eq22
  have cc23 : Steps p.tables e below S0' (T22.setTop (mkF m 8 #[.val (.ref a), .val (.int 0), .val (.int (Int32.ofNat bs.length)), .unset, .unset] [(.int ((Int32.ofNat bs.length) - (0 : Int32)))])) := Steps.trans (cc21.trans (st22 _ (Steps.refl _))) (by
    refine XS.iloadN X22.here hx rfl (own_d hby d26_5) rfl ?_
    refine XS.iloadN X22.here hx rfl (own_d hby d26_6) rfl ?_
    refine XS.isub X22.here hx rfl (own_d hby d26_7) rfl ?_
    exact Steps.refl _)
  have es : Int32.ofNat bs.length - 0 = Int32.ofNat bs.length := sub32n (b := 0) (Nat.zero_le _)
  have ng : ¬ Int32.ofNat bs.length < 0 := Int32.ofNat_not_neg (by omega)
  have en : (Int32.ofNat bs.length).toNatClampNeg = bs.length := n32 (by omega)
  have cz : Steps p.tables e below S0' (T22.setTop (mkF m 8 #[.val (.ref a), .val (.int 0), .val (.int (Int32.ofNat bs.length)), .unset, .unset] [(.int (Int32.ofNat bs.length))])) := by
    have := cc23
    rw [es] at this
    exact this
  have cc24 : Steps p.tables e below S0' (T22.setTop (mkF m 10 #[.val (.ref a), .val (.int 0), .val (.int (Int32.ofNat bs.length)), .val (.int (Int32.ofNat bs.length)), .unset] [(.int (Int32.ofNat bs.length))])) := Steps.trans cz (by
    refine XS.istoreN X22.here hx rfl (own_d hby d26_8) rfl rfl ?_
    refine XS.iloadN X22.here hx rfl (own_d hby d26_9) rfl ?_
    exact Steps.refl _)
  obtain ⟨T25, h25, k25, X25, e25, E25, A25, st25⟩ := newP X22 hx hZ (aty := .byte) (hw _ (List.mem_of_getElem? (i := 19) rfl)) e22 (g := (mkF m 10 #[.val (.ref a), .val (.int 0), .val (.int (Int32.ofNat bs.length)), .val (.int (Int32.ofNat bs.length)), .unset] [(.int (Int32.ofNat bs.length))])) rfl (own_d hby d26_10) rfl ng (cap := 16) (by rw [en]; omega) (by decide) (by decide) (by decide)
  obtain ⟨t, g_t⟩ : ∃ z, z = h0.size := ⟨_, rfl⟩
  rw [← g_t] at A25 st25
  have K25 := (Keep.refl h0 ([] : List Addr)).ext E25
  have b_t : h0.size ≤ t := (Nat.le_of_eq g_t.symm)
  have gn_t : n0 ≤ t := Nat.le_trans Z0 b_t
  have s0_t : h0.size ≤ t := Nat.le_trans KK0.1 b_t
  have ne_a_t : a ≠ t := Nat.ne_of_lt (Nat.lt_of_lt_of_le A.lt b_t)
  have KK1 : Keep h0 h25 ([] : List Addr) := KK0.trans K25 all0
  have Zs1 : n0 ≤ h25.size := Nat.le_trans Z0 K25.1
  have Vp : Arv Z h25 t k25 .byte (Int32.ofNat bs.length) ([] ++ List.replicate bs.length (.int (0 : Int32))) (.int (0 : Int32)) := (Arv.new A25 ng).pad (pad_rep [] _ _)
  have cc27 : Steps p.tables e below S0' (T25.setTop (mkF m 20 #[.val (.ref a), .val (.int 0), .val (.int (Int32.ofNat bs.length)), .val (.int (Int32.ofNat bs.length)), .val (.ref t)] [(.ref a), (.int 0), (.ref t), (.int 0), (.ref a)])) := Steps.trans (cc24.trans (st25 _ (Steps.refl _))) (by
    refine XS.astore X25.here hx rfl (own_d hby d26_12) rfl rfl rfl ?_
    refine XS.aloadN X25.here hx rfl (own_d hby d26_14) rfl rfl ?_
    refine XS.iloadN X25.here hx rfl (own_d hby d26_15) rfl ?_
    refine XS.aload X25.here hx rfl (own_d hby d26_16) rfl rfl ?_
    refine iconstV X25.here hx rfl 0 (own_d hby d26_18) (by decide) ?_
    refine XS.aloadN X25.here hx rfl (own_d hby d26_19) rfl rfl ?_
    exact Steps.refl _)
  have fa26 : Arv Z h25 a k .byte (16 : Int32) (own_by bs) (.int (0 : Int32)) := (A.keep K25 nin0)
  obtain ⟨clu28, Aru28, -, Su28, Ngu28, -, -⟩ := id fa26
  have cl_u28 := X25.arraylength hx (by rw [e25]; exact Aru28.1) (State.isArrayOf_alike (hZ).alike Aru28.2.1) (g := (mkF m 20 #[.val (.ref a), .val (.int 0), .val (.int (Int32.ofNat bs.length)), .val (.int (Int32.ofNat bs.length)), .val (.ref t)] [(.ref a), (.int 0), (.ref t), (.int 0), (.ref a)])) rfl rfl (own_d hby d26_20) _ (Steps.refl _)
  rw [len_of Su28 Ngu28] at cl_u28
  have cc29 : Steps p.tables e below S0' (T25.setTop (mkF m 24 #[.val (.ref a), .val (.int 0), .val (.int (Int32.ofNat bs.length)), .val (.int (Int32.ofNat bs.length)), .val (.ref t)] [(.int (Int32.ofNat bs.length)), (.int ((16 : Int32) - (0 : Int32))), (.int 0), (.ref t), (.int 0), (.ref a)])) := Steps.trans (Steps.trans cc27 cl_u28) (by
    refine XS.iloadN X25.here hx rfl (own_d hby d26_21) rfl ?_
    refine XS.isub X25.here hx rfl (own_d hby d26_22) rfl ?_
    refine XS.iloadN X25.here hx rfl (own_d hby d26_23) rfl ?_
    exact Steps.refl _)
  obtain ⟨_, _, ⟨T30, L30, k30, n30⟩, -, X30, ⟨Lc30, hQ30, l30, y30, z30⟩, st30⟩ := Jvm.LawKit.callS X25 hx (y := (⟨"java/lang/Math", "min", "(II)I"⟩ : MethodName)) hown (mvT hZ (hw _ (List.mem_of_getElem? (i := 215) rfl))) (mvT hZ (hw _ (List.mem_of_getElem? (i := 216) rfl))) (mvT hZ w_217) (mvT hZ w_218) (by decide) (backOf (W := 4) (own_minb l Z a0 hw ((16 : Int32) - 0) (Int32.ofNat bs.length) h25 n0 Zs1 (lt32 (b := 16) (by decide) hb)) hZ w_218 w_217 (by decide) (by decide)) (g := (mkF m 24 #[.val (.ref a), .val (.int 0), .val (.int (Int32.ofNat bs.length)), .val (.int (Int32.ofNat bs.length)), .val (.ref t)] [(.int (Int32.ofNat bs.length)), (.int ((16 : Int32) - (0 : Int32))), (.int 0), (.ref t), (.int 0), (.ref a)])) rfl (by rw [hml]; rfl) (argsL := [(.int ((16 : Int32) - (0 : Int32))), (.int (Int32.ofNat bs.length))]) (rest := [(.int 0), (.ref t), (.int 0), (.ref a)]) (lenOf own_pd15 rfl) rfl (by show 2 * 0 + _ ≤ _; exact Nat.le_of_eq rfl) (own_d hby d26_24) (fun _ _ => ⟨rfl, e25, Nat.le_of_ble_eq_true rfl, Nat.le_of_ble_eq_true rfl⟩)
  dsimp only [Pt.U, Pt.locs, Pt.cells, Pt.slots] at X30 l30 y30 z30 st30 hQ30
  subst l30 y30 z30
  obtain ⟨rfl, Nq30, eq30⟩ := hQ30
  have N30 := Fr.app N22 Nq30
  have e30 : T30.heap = h25 := eq30
  have cc31 : Steps p.tables e below S0' (T30.setTop (mkF m 27 #[.val (.ref a), .val (.int 0), .val (.int (Int32.ofNat bs.length)), .val (.int (Int32.ofNat bs.length)), .val (.ref t)] [(.int (Int32.ofNat bs.length)), (.int 0), (.ref t), (.int 0), (.ref a)])) := (cc29.trans (st30 _ (Steps.refl _)))
  obtain ⟨T32, h32, L32, X32, e32, N32, K32, V32, st32⟩ := cpA X30 hx hZ hown (hw _ (List.mem_of_getElem? (i := 219) rfl)) (hw _ (List.mem_of_getElem? (i := 167) rfl)) (hw _ (List.mem_of_getElem? (i := 165) rfl)) (hw _ (List.mem_of_getElem? (i := 166) rfl)) e30 fa26 Vp (Or.inl ⟨rfl, rfl⟩) (by decide) (by decide) ng (us := (own_by bs)) (by rw [en]; show 0 + _ ≤ 16; omega) (by rw [en]; show 0 + _ ≤ _; omega) (by rw [en]; exact (own_take bs).symm) (by rw [en]; show 0 + _ ≤ _; simp) N30 gn_t (g := (mkF m 27 #[.val (.ref a), .val (.int 0), .val (.int (Int32.ofNat bs.length)), .val (.int (Int32.ofNat bs.length)), .val (.ref t)] [(.int (Int32.ofNat bs.length)), (.int 0), (.ref t), (.int 0), (.ref a)])) rfl (by rw [hml]; rfl) rfl (own_d hby d26_27) (by decide) (W := 0) (by show 2 * 0 + _ ≤ _; exact Nat.le_of_eq rfl) (by decide)
  have KK2 : Keep h0 h32 ([] : List Addr) := KK1.trans K32 (allS (Or.inr s0_t) all0)
  have Zs2 : n0 ≤ h32.size := Nat.le_trans Zs1 K32.1
  have V32' : Arv Z h32 t k25 .byte (Int32.ofNat bs.length) (own_by bs) (.int (0 : Int32)) := own_arv_eq V32 (by rw [en]; show [] ++ _ ++ List.drop (0 + bs.length) _ = _; simp)
  have cc33 : Steps p.tables e below S0' (T32.setTop (mkF m 32 #[.val (.ref a), .val (.int 0), .val (.int (Int32.ofNat bs.length)), .val (.int (Int32.ofNat bs.length)), .val (.ref t)] [(.ref t)])) := Steps.trans (cc31.trans (st32 _ (Steps.refl _))) (by
    refine XS.aload X32.here hx rfl (own_d hby d26_30) rfl rfl ?_
    exact Steps.refl _)
  have cE := cc33
  rw [hS0'] at cE
  obtain ⟨fs, hr_, hrun, hended, hW, hsame⟩ := X32.leave (v := some (.ref t)) (fun h => by rw [Bd.returns] at h; cases h)
  refine ⟨_, _, cE.trans (X32.areturnOut hx (rfl) Bd.returns rfl (own_d hby d26_32) hr_), hrun, hended, _, _, rfl, ?_, ⟨_, rfl⟩, hW, hsame.mono (by first | decide | omega) (by first | decide | omega)⟩
  show Q_own_crb0 Z a k bs h0 n0 _ T32.heap _
  rw [e32]
  exact ⟨t, _, rfl, N32, KK2, s0_t, V32'⟩
theorem d27_0 : decode jdk_65_method_132_code 0 = .ok (.iload_n 1, 1) := by decide +kernel
theorem d27_1 : decode jdk_65_method_132_code 1 = .ok (.ifCond .ne 9, 3) := by decide +kernel
theorem d27_4 : decode jdk_65_method_132_code 4 = .ok (.iload_n 2, 1) := by decide +kernel
theorem d27_5 : decode jdk_65_method_132_code 5 = .ok (.aload_n 0, 1) := by decide +kernel
theorem d27_6 : decode jdk_65_method_132_code 6 = .ok (.arraylength, 1) := by decide +kernel
theorem d27_7 : decode jdk_65_method_132_code 7 = .ok (.if_icmp .eq 10, 3) := by decide +kernel
theorem d27_10 : decode jdk_65_method_132_code 10 = .ok (.aload_n 0, 1) := by decide +kernel
theorem d27_11 : decode jdk_65_method_132_code 11 = .ok (.iload_n 1, 1) := by decide +kernel
theorem d27_12 : decode jdk_65_method_132_code 12 = .ok (.iload_n 2, 1) := by decide +kernel
theorem d27_13 : decode jdk_65_method_132_code 13 = .ok (.invokestatic 339, 3) := by decide +kernel
theorem d27_16 : decode jdk_65_method_132_code 16 = .ok (.areturn, 1) := by decide +kernel
def Q_own_cr0 (Z : State) (a : Addr) (k : ClassId) (bs : List Int32) (h0 : Heap) (n0 : Nat) (v : Option Value) (h : Heap) (L : List Loc) : Prop := ∃ (t : Addr) (kt : ClassId), v = some (.ref t) ∧ Fr n0 L ∧ Keep h0 h [] ∧ h0.size ≤ t ∧ Arv Z h t kt .byte (Int32.ofNat bs.length) (own_by bs) (.int (0 : Int32))
set_option maxRecDepth 65536 in
set_option maxHeartbeats 40000000 in
theorem own_cr0 (l : Launch) (Z : State) (a0 : Array Value) (hw : ∀ d ∈ tables_1, d.before a0 Z = true) (a : Addr) (k : ClassId) (bs : List Int32) (h0 : Heap) (n0 : Nat) (Z0 : n0 ≤ h0.size) (A : Arv Z h0 a k .byte (16 : Int32) (own_by bs) (.int (0 : Int32))) (hb : bs.length < 16) :
    MetFree l (⟨"java/util/Arrays", "copyOfRange", "([BII)[B"⟩ : MethodName) (head1 [Jvm.Cond.code (⟨"java/util/Arrays", "copyOfRange", "([BII)[B"⟩ : MethodName) jdk_65_method_132_code 3 (some (.array .byte))] ({ frames := 2, cells := 1, slots := 16, locals := 56 } : Room)) (fun a_ U_ => a_ = #[(.ref a), (.int 0), (.int (Int32.ofNat bs.length))] ∧ Z.Warmed39 U_.vm ∧ U_.heap = h0) (fun _ _ _ _ _ => True) (fun _ U_ o_ V_ => ∃ v_ L_, o_ = .returned v_ ∧ Q_own_cr0 Z a k bs h0 n0 v_ V_.heap L_ ∧ FrameEnd U_ o_ V_ L_ ({ frames := 2, cells := 1, slots := 16, locals := 56 } : Room).cells ({ frames := 2, cells := 1, slots := 16, locals := 56 } : Room).slots) := by
  refine MetFree.of_bodySF (plainFor_of_name own_pn9) hisR ?_
  intro p e s m args below meth c s₁ Bd hml0 hP hK
  obtain ⟨rfl, hZ, hh⟩ := hP
  have hx := Bd.exec
  have hby := Bd.bytes
  have hml : c.maxLocals = 3 := hml0
  have hown : s.vm.findClass "java/util/Arrays" = some m.cls := findClass_of_methodNamed Bd.named
  have hnm := (name_of_methodNamed Bd.named Bd.method).1
  have X0 : Stand p l e ({ frames := 2, cells := 1, slots := 16, locals := 56 } : Room) s m #[(.ref a), (.int 0), (.int (Int32.ofNat bs.length))] below meth c s₁ [] 0 0 := Stand.of_body Bd
  have e0 : s₁.heap = h0 := by rw [← hh, Bd.state]; rfl
  have N0 := Fr.nil n0
  have KK0 := Keep.refl h0 ([] : List Addr)
  have cc0 : Steps p.tables e below (s₁.setTop (entryFrame m #[(.ref a), (.int 0), (.int (Int32.ofNat bs.length))] 3)) (s₁.setTop (mkF m 0 #[.val (.ref a), .val (.int 0), .val (.int (Int32.ofNat bs.length))] [])) := XT.entry rfl
  obtain ⟨S0', hS0'⟩ : ∃ S, S = (s₁.setTop (entryFrame m #[(.ref a), (.int 0), (.int (Int32.ofNat bs.length))] 3)) := ⟨_, rfl⟩
  rw [← hS0'] at cc0
  have w_207 := hw _ (List.mem_of_getElem? (i := 207) rfl)
  have w_211 := hw _ (List.mem_of_getElem? (i := 211) rfl)
  have cc21 : Steps p.tables e below S0' (s₁.setTop (mkF m 6 #[.val (.ref a), .val (.int 0), .val (.int (Int32.ofNat bs.length))] [(.ref a), (.int (Int32.ofNat bs.length))])) := Steps.trans cc0 (by
    refine XS.iloadN X0.here hx rfl (own_d hby d27_0) rfl ?_
    refine XS.ifNo X0.here hx rfl (own_d hby d27_1) rfl (i0_ne_f rfl) ?_
    refine XS.iloadN X0.here hx rfl (own_d hby d27_4) rfl ?_
    refine XS.aloadN X0.here hx rfl (own_d hby d27_5) rfl rfl ?_
    exact Steps.refl _)
  obtain ⟨clu22, Aru22, -, Su22, Ngu22, -, -⟩ := id A
  have cl_u22 := X0.arraylength hx (by rw [e0]; exact Aru22.1) (State.isArrayOf_alike (hZ).alike Aru22.2.1) (g := (mkF m 6 #[.val (.ref a), .val (.int 0), .val (.int (Int32.ofNat bs.length))] [(.ref a), (.int (Int32.ofNat bs.length))])) rfl rfl (own_d hby d27_6) _ (Steps.refl _)
  rw [len_of Su22 Ngu22] at cl_u22
  have cc23 : Steps p.tables e below S0' (s₁.setTop (mkF m 13 #[.val (.ref a), .val (.int 0), .val (.int (Int32.ofNat bs.length))] [(.int (Int32.ofNat bs.length)), (.int 0), (.ref a)])) := Steps.trans (Steps.trans cc21 cl_u22) (by
    refine XS.icmpNo X0.here hx rfl (own_d hby d27_7) rfl (ii_eq_f (ne32 (b := 16) (by omega) (by decide) (by omega))) ?_
    refine XS.aloadN X0.here hx rfl (own_d hby d27_10) rfl rfl ?_
    refine XS.iloadN X0.here hx rfl (own_d hby d27_11) rfl ?_
    refine XS.iloadN X0.here hx rfl (own_d hby d27_12) rfl ?_
    exact Steps.refl _)
  obtain ⟨_, _, ⟨T24, L24, k24, n24⟩, -, X24, ⟨Lc24, hQ24, l24, y24, z24⟩, st24⟩ := Jvm.LawKit.callS X0 hx (y := (⟨"java/util/Arrays", "copyOfRangeByte", "([BII)[B"⟩ : MethodName)) hown (mvT hZ (hw _ (List.mem_of_getElem? (i := 209) rfl))) (mvT hZ (hw _ (List.mem_of_getElem? (i := 210) rfl))) (mvT hZ w_207) (mvT hZ w_211) (by decide) (backOf (W := 0) (own_crb0 l Z a0 hw a k bs h0 n0 Z0 A hb) hZ w_211 w_207 (by decide) (by decide)) (g := (mkF m 13 #[.val (.ref a), .val (.int 0), .val (.int (Int32.ofNat bs.length))] [(.int (Int32.ofNat bs.length)), (.int 0), (.ref a)])) rfl (by rw [hml]; rfl) (argsL := [(.ref a), (.int 0), (.int (Int32.ofNat bs.length))]) (rest := []) (lenOf own_pd16 rfl) rfl (by show 2 * 0 + _ ≤ _; exact Nat.le_of_eq rfl) (own_d hby d27_13) (fun _ _ => ⟨rfl, e0, Nat.le_of_ble_eq_true rfl, Nat.le_of_ble_eq_true rfl⟩)
  dsimp only [Pt.U, Pt.locs, Pt.cells, Pt.slots] at X24 l24 y24 z24 st24 hQ24
  subst l24 y24 z24
  obtain ⟨t, kt, rfl, Nq24, Kq24, sq24, Aq24⟩ := hQ24
  have N24 := Fr.app N0 Nq24
  have KK1 : Keep h0 T24.heap ([] : List Addr) := KK0.trans Kq24 all0
  have Zs1 : n0 ≤ T24.heap.size := Nat.le_trans Z0 Kq24.1
  have e24 : T24.heap = T24.heap := rfl
  have cc25 : Steps p.tables e below S0' (T24.setTop (mkF m 16 #[.val (.ref a), .val (.int 0), .val (.int (Int32.ofNat bs.length))] [(.ref t)])) := (cc23.trans (st24 _ (Steps.refl _)))
  have cE := cc25
  rw [hS0'] at cE
  obtain ⟨fs, hr_, hrun, hended, hW, hsame⟩ := X24.leave (v := some (.ref t)) (fun h => by rw [Bd.returns] at h; cases h)
  refine ⟨_, _, cE.trans (X24.areturnOut hx (rfl) Bd.returns rfl (own_d hby d27_16) hr_), hrun, hended, _, _, rfl, ?_, ⟨_, rfl⟩, hW, hsame.mono (by first | decide | omega) (by first | decide | omega)⟩
  show Q_own_cr0 Z a k bs h0 n0 _ T24.heap _
  rw [e24]
  exact ⟨t, kt, rfl, N24, KK1, sq24, Aq24⟩
theorem d28_0 : decode jdk_42_method_150_code 0 = .ok (.aload_n 0, 1) := by decide +kernel
theorem d28_1 : decode jdk_42_method_150_code 1 = .ok (.invokespecial 1, 3) := by decide +kernel
theorem d28_4 : decode jdk_42_method_150_code 4 = .ok (.aload_n 1, 1) := by decide +kernel
theorem d28_5 : decode jdk_42_method_150_code 5 = .ok (.invokevirtual 552, 3) := by decide +kernel
theorem d28_8 : decode jdk_42_method_150_code 8 = .ok (.astore_n 3, 1) := by decide +kernel
theorem d28_9 : decode jdk_42_method_150_code 9 = .ok (.aload_n 1, 1) := by decide +kernel
theorem d28_10 : decode jdk_42_method_150_code 10 = .ok (.invokevirtual 549, 3) := by decide +kernel
theorem d28_13 : decode jdk_42_method_150_code 13 = .ok (.istore 4, 2) := by decide +kernel
theorem d28_15 : decode jdk_42_method_150_code 15 = .ok (.aload_n 1, 1) := by decide +kernel
theorem d28_16 : decode jdk_42_method_150_code 16 = .ok (.invokevirtual 1047, 3) := by decide +kernel
theorem d28_19 : decode jdk_42_method_150_code 19 = .ok (.ifCond .eq 22, 3) := by decide +kernel
theorem d28_22 : decode jdk_42_method_150_code 22 = .ok (.aload_n 0, 1) := by decide +kernel
theorem d28_23 : decode jdk_42_method_150_code 23 = .ok (.iconst 0, 1) := by decide +kernel
theorem d28_24 : decode jdk_42_method_150_code 24 = .ok (.putfield 15, 3) := by decide +kernel
theorem d28_27 : decode jdk_42_method_150_code 27 = .ok (.aload_n 0, 1) := by decide +kernel
theorem d28_28 : decode jdk_42_method_150_code 28 = .ok (.aload_n 3, 1) := by decide +kernel
theorem d28_29 : decode jdk_42_method_150_code 29 = .ok (.iconst 0, 1) := by decide +kernel
theorem d28_30 : decode jdk_42_method_150_code 30 = .ok (.iload 4, 2) := by decide +kernel
theorem d28_32 : decode jdk_42_method_150_code 32 = .ok (.invokestatic 54, 3) := by decide +kernel
theorem d28_35 : decode jdk_42_method_150_code 35 = .ok (.putfield 9, 3) := by decide +kernel
theorem d28_38 : decode jdk_42_method_150_code 38 = .ok (.goto 59, 3) := by decide +kernel
theorem d28_97 : decode jdk_42_method_150_code 97 = .ok (.return_, 1) := by decide +kernel
def Q_own_si2 (Z : State) (x b t : Addr) (kt : ClassId) (bs : List Int32) (z : Int32) (h0 : Heap) (n0 : Nat) (v : Option Value) (h : Heap) (L : List Loc) : Prop := v = none ∧ Fr n0 L ∧ Keep h0 h [x] ∧ own_Lat Z h x bs
set_option maxRecDepth 65536 in
set_option maxHeartbeats 40000000 in
theorem own_si2 (l : Launch) (Z : State) (a0 : Array Value) (hw : ∀ d ∈ tables_1, d.before a0 Z = true) (x b t : Addr) (kt : ClassId) (bs : List Int32) (z : Int32) (h0 : Heap) (n0 : Nat) (Z0 : n0 ≤ h0.size) (X00 : Old Z n0 h0) (O2 : Sta Z Z.heap "java/lang/String" "COMPACT_STRINGS" "Z" (.int z)) (P5 : ¬ z = 0) (E : Exa Z h0 x "java/lang/String") (V : Fld Z h0 x "java/lang/String" "value" "[B" .null) (C : Fld Z h0 x "java/lang/String" "coder" "B" (.int (0 : Int32))) (gx : n0 ≤ x) (Eb : Exa Z h0 b "java/lang/StringBuilder") (Cb : Fld Z h0 b "java/lang/AbstractStringBuilder" "coder" "B" (.int (0 : Int32))) (Nb : Fld Z h0 b "java/lang/AbstractStringBuilder" "count" "I" (.int (Int32.ofNat bs.length))) (Vb : Fld Z h0 b "java/lang/AbstractStringBuilder" "value" "[B" (.ref t)) (Ab : Arv Z h0 t kt .byte (16 : Int32) (own_by bs) (.int (0 : Int32))) (hp : ∀ c ∈ bs, ¬ c < 0 ∧ ¬ (255 : Int32) < c) (hb : bs.length < 16) :
    MetFree l (⟨"java/lang/String", "<init>", "(Ljava/lang/AbstractStringBuilder;Ljava/lang/Void;)V"⟩ : MethodName) (head1 [Jvm.Cond.code (⟨"java/lang/String", "<init>", "(Ljava/lang/AbstractStringBuilder;Ljava/lang/Void;)V"⟩ : MethodName) jdk_42_method_150_code 5 none] ({ frames := 3, cells := 1, slots := 16, locals := 71 } : Room)) (fun a_ U_ => a_ = #[(.ref x), (.ref b), .null] ∧ Z.Warmed39 U_.vm ∧ U_.heap = h0) (fun _ _ _ _ _ => True) (fun _ U_ o_ V_ => ∃ v_ L_, o_ = .returned v_ ∧ Q_own_si2 Z x b t kt bs z h0 n0 v_ V_.heap L_ ∧ FrameEnd U_ o_ V_ L_ ({ frames := 3, cells := 1, slots := 16, locals := 71 } : Room).cells ({ frames := 3, cells := 1, slots := 16, locals := 71 } : Room).slots) := by
  refine MetFree.of_bodySF (plainFor_of_name own_pn5) hisR ?_
  intro p e s m args below meth c s₁ Bd hml0 hP hK
  obtain ⟨rfl, hZ, hh⟩ := hP
  have hx := Bd.exec
  have hby := Bd.bytes
  have hml : c.maxLocals = 5 := hml0
  have hown : s.vm.findClass "java/lang/String" = some m.cls := findClass_of_methodNamed Bd.named
  have hnm := (name_of_methodNamed Bd.named Bd.method).1
  have X0 : Stand p l e ({ frames := 3, cells := 1, slots := 16, locals := 71 } : Room) s m #[(.ref x), (.ref b), .null] below meth c s₁ [] 0 0 := Stand.of_body Bd
  have e0 : s₁.heap = h0 := by rw [← hh, Bd.state]; rfl
  have N0 := Fr.nil n0
  have KK0 := Keep.refl h0 [x]
  have cc0 : Steps p.tables e below (s₁.setTop (entryFrame m #[(.ref x), (.ref b), .null] 5)) (s₁.setTop (mkF m 0 #[.val (.ref x), .val (.ref b), .val .null, .unset, .unset] [])) := XT.entry rfl
  obtain ⟨S0', hS0'⟩ : ∃ S, S = (s₁.setTop (entryFrame m #[(.ref x), (.ref b), .null] 5)) := ⟨_, rfl⟩
  rw [← hS0'] at cc0
  have w_15 := hw _ (List.mem_of_getElem? (i := 15) rfl)
  have w_28 := hw _ (List.mem_of_getElem? (i := 28) rfl)
  have w_30 := hw _ (List.mem_of_getElem? (i := 30) rfl)
  have w_121 := hw _ (List.mem_of_getElem? (i := 121) rfl)
  have w_190 := hw _ (List.mem_of_getElem? (i := 190) rfl)
  have w_203 := hw _ (List.mem_of_getElem? (i := 203) rfl)
  have w_207 := hw _ (List.mem_of_getElem? (i := 207) rfl)
  have w_208 := hw _ (List.mem_of_getElem? (i := 208) rfl)
  have ne_x_t : x ≠ t := own_ne_arv E w_15 Ab
  have ne_x_b : x ≠ b := ne_exa E Eb (by decide)
  have cc21 : Steps p.tables e below S0' (s₁.setTop (mkF m 1 #[.val (.ref x), .val (.ref b), .val .null, .unset, .unset] [(.ref x)])) := Steps.trans cc0 (by
    refine XS.aloadN X0.here hx rfl (own_d hby d28_0) rfl rfl ?_
    exact Steps.refl _)
  obtain ⟨T22, X22, e22, st22⟩ := initO X0 hx hZ hown (hw _ (List.mem_of_getElem? (i := 24) rfl)) (hw _ (List.mem_of_getElem? (i := 25) rfl)) (hw _ (List.mem_of_getElem? (i := 26) rfl)) e0 (g := (mkF m 1 #[.val (.ref x), .val (.ref b), .val .null, .unset, .unset] [(.ref x)])) rfl (by rw [hml]; rfl) rfl (own_d hby d28_1) (by decide) (W := 0) (by show 2 * 0 + _ ≤ _; exact Nat.le_of_eq rfl) (by decide)
  have cc23 : Steps p.tables e below S0' (T22.setTop (mkF m 5 #[.val (.ref x), .val (.ref b), .val .null, .unset, .unset] [(.ref b)])) := Steps.trans (cc21.trans (st22 _ (Steps.refl _))) (by
    refine XS.aloadN X22.here hx rfl (own_d hby d28_4) rfl rfl ?_
    exact Steps.refl _)
  obtain ⟨cq24, kq24, qa24, qb24, qc24⟩ := isOf hZ e22 Eb
  obtain ⟨_, _, ⟨T24, L24, k24, n24⟩, -, X24, ⟨Lc24, hQ24, l24, y24, z24⟩, st24⟩ := X22.virtualBack hx (y := (⟨"java/lang/AbstractStringBuilder", "getValue", "()[B"⟩ : MethodName)) (z := (⟨"java/lang/AbstractStringBuilder", "getValue", "()[B"⟩ : MethodName)) hown (mvT hZ (hw _ (List.mem_of_getElem? (i := 187) rfl))) (mvT hZ (hw _ (List.mem_of_getElem? (i := 188) rfl))) (notFace_of_selects (args := #[]) (mvT hZ w_190)) (mvT hZ w_190) (mvT hZ (hw _ (List.mem_of_getElem? (i := 189) rfl))) (by decide) (backOf (W := 0) (own_gv l Z a0 hw b t h0 n0 Z0 Vb) hZ (hw _ (List.mem_of_getElem? (i := 191) rfl)) w_121 (by decide) (by decide)) qa24 qc24 (g := (mkF m 5 #[.val (.ref x), .val (.ref b), .val .null, .unset, .unset] [(.ref b)])) rfl (by rw [hml]; rfl) (Steps.refl _) (argsL := []) (rest := []) (lenOf own_pd17 rfl) rfl (by show 2 * 0 + _ ≤ _; exact Nat.le_of_eq rfl) (own_d hby d28_5) (fun _ _ => ⟨rfl, e22, Nat.le_of_ble_eq_true rfl, Nat.le_of_ble_eq_true rfl⟩)
  dsimp only [Pt.U, Pt.locs, Pt.cells, Pt.slots] at X24 l24 y24 z24 st24 hQ24
  subst l24 y24 z24
  obtain ⟨rfl, Nq24, eq24⟩ := hQ24
  have N24 := Fr.app N0 Nq24
  have e24 : T24.heap = h0 := eq24
  have cc25 : Steps p.tables e below S0' (T24.setTop (mkF m 10 #[.val (.ref x), .val (.ref b), .val .null, .val (.ref t), .unset] [(.ref b)])) := Steps.trans (Steps.trans cc23 st24) (by
    refine XS.astoreN X24.here hx rfl (own_d hby d28_8) rfl rfl rfl ?_
    refine XS.aloadN X24.here hx rfl (own_d hby d28_9) rfl rfl ?_
    exact Steps.refl _)
  obtain ⟨cq26, kq26, qa26, qb26, qc26⟩ := isOf hZ e24 Eb
  obtain ⟨_, _, ⟨T26, L26, k26, n26⟩, -, X26, ⟨Lc26, hQ26, l26, y26, z26⟩, st26⟩ := X24.virtualBack hx (y := (⟨"java/lang/AbstractStringBuilder", "length", "()I"⟩ : MethodName)) (z := (⟨"java/lang/StringBuilder", "length", "()I"⟩ : MethodName)) hown (mvT hZ (hw _ (List.mem_of_getElem? (i := 192) rfl))) (mvT hZ (hw _ (List.mem_of_getElem? (i := 193) rfl))) (own_nf hZ (hw _ (List.mem_of_getElem? (i := 146) rfl)) rfl) (mvT hZ (hw _ (List.mem_of_getElem? (i := 195) rfl))) (mvT hZ (hw _ (List.mem_of_getElem? (i := 196) rfl))) (by decide) (backOf (W := 0) (own_sbl l Z a0 hw b (Int32.ofNat bs.length) h0 n0 Z0 Eb Nb) hZ (hw _ (List.mem_of_getElem? (i := 197) rfl)) (hw _ (List.mem_of_getElem? (i := 113) rfl)) (by decide) (by decide)) qa26 qc26 (g := (mkF m 10 #[.val (.ref x), .val (.ref b), .val .null, .val (.ref t), .unset] [(.ref b)])) rfl (by rw [hml]; rfl) (Steps.refl _) (argsL := []) (rest := []) (lenOf own_pd6 rfl) rfl (by show 2 * 0 + _ ≤ _; exact Nat.le_of_eq rfl) (own_d hby d28_10) (fun _ _ => ⟨rfl, e24, Nat.le_of_ble_eq_true rfl, Nat.le_of_ble_eq_true rfl⟩)
  dsimp only [Pt.U, Pt.locs, Pt.cells, Pt.slots] at X26 l26 y26 z26 st26 hQ26
  subst l26 y26 z26
  obtain ⟨rfl, Nq26, eq26⟩ := hQ26
  have N26 := Fr.app N24 Nq26
  have e26 : T26.heap = h0 := eq26
  have cc27 : Steps p.tables e below S0' (T26.setTop (mkF m 16 #[.val (.ref x), .val (.ref b), .val .null, .val (.ref t), .val (.int (Int32.ofNat bs.length))] [(.ref b)])) := Steps.trans (Steps.trans cc25 st26) (by
    refine XS.istore X26.here hx rfl (own_d hby d28_13) rfl rfl ?_
    refine XS.aloadN X26.here hx rfl (own_d hby d28_15) rfl rfl ?_
    exact Steps.refl _)
  obtain ⟨cq28, kq28, qa28, qb28, qc28⟩ := isOf hZ e26 Eb
  obtain ⟨_, _, ⟨T28, L28, k28, n28⟩, -, X28, ⟨Lc28, hQ28, l28, y28, z28⟩, st28⟩ := X26.virtualBack hx (y := (⟨"java/lang/AbstractStringBuilder", "isLatin1", "()Z"⟩ : MethodName)) (z := (⟨"java/lang/AbstractStringBuilder", "isLatin1", "()Z"⟩ : MethodName)) hown (mvT hZ (hw _ (List.mem_of_getElem? (i := 200) rfl))) (mvT hZ (hw _ (List.mem_of_getElem? (i := 201) rfl))) (notFace_of_selects (args := #[]) (mvT hZ w_203)) (mvT hZ w_203) (mvT hZ (hw _ (List.mem_of_getElem? (i := 202) rfl))) (by decide) (backOf (W := 0) (own_sil l Z a0 hw b z h0 n0 Z0 X00 O2 P5 Cb) hZ (hw _ (List.mem_of_getElem? (i := 204) rfl)) w_121 (by decide) (by decide)) qa28 qc28 (g := (mkF m 16 #[.val (.ref x), .val (.ref b), .val .null, .val (.ref t), .val (.int (Int32.ofNat bs.length))] [(.ref b)])) rfl (by rw [hml]; rfl) (Steps.refl _) (argsL := []) (rest := []) (lenOf own_pd5 rfl) rfl (by show 2 * 0 + _ ≤ _; exact Nat.le_of_eq rfl) (own_d hby d28_16) (fun _ _ => ⟨rfl, e26, Nat.le_of_ble_eq_true rfl, Nat.le_of_ble_eq_true rfl⟩)
  dsimp only [Pt.U, Pt.locs, Pt.cells, Pt.slots] at X28 l28 y28 z28 st28 hQ28
  subst l28 y28 z28
  obtain ⟨rfl, Nq28, eq28⟩ := hQ28
  have N28 := Fr.app N26 Nq28
  have e28 : T28.heap = h0 := eq28
  have cc29 : Steps p.tables e below S0' (T28.setTop (mkF m 24 #[.val (.ref x), .val (.ref b), .val .null, .val (.ref t), .val (.int (Int32.ofNat bs.length))] [(.int 0), (.ref x)])) := Steps.trans (Steps.trans cc27 st28) (by
    refine XS.ifNo X28.here hx rfl (own_d hby d28_19) rfl (i0_eq_f (by decide)) ?_
    refine XS.aloadN X28.here hx rfl (own_d hby d28_22) rfl rfl ?_
    refine iconstV X28.here hx rfl 0 (own_d hby d28_23) (by decide) ?_
    exact Steps.refl _)
  obtain ⟨T30, h30, X30, e30, W30, st30⟩ := putFN X28 hx hZ hown (hw _ (List.mem_of_getElem? (i := 29) rfl)) Via.refl e28 C E (Or.inr ⟨w_30, rfl, hnm⟩) w_15 (ty := .byte) (v' := (.int (0 : Int32))) (by decide) rfl rfl (g := (mkF m 24 #[.val (.ref x), .val (.ref b), .val .null, .val (.ref t), .val (.int (Int32.ofNat bs.length))] [(.int 0), (.ref x)])) rfl rfl (own_d hby d28_24)
  have K30 := Keep.of_wr W30
  have N30 := Fr.snoc X30 N28 gx
  have KK1 : Keep h0 h30 [x] := KK0.trans K30 (allS (Or.inl (List.mem_of_getElem? (i := 0) rfl)) all0)
  have Zs1 : n0 ≤ h30.size := Nat.le_trans Z0 K30.1
  have cc32 : Steps p.tables e below S0' (T30.setTop (mkF m 32 #[.val (.ref x), .val (.ref b), .val .null, .val (.ref t), .val (.int (Int32.ofNat bs.length))] [(.int (Int32.ofNat bs.length)), (.int 0), (.ref t), (.ref x)])) := Steps.trans (cc29.trans (st30 _ (Steps.refl _))) (by
    refine XS.aloadN X30.here hx rfl (own_d hby d28_27) rfl rfl ?_
    refine XS.aloadN X30.here hx rfl (own_d hby d28_28) rfl rfl ?_
    refine iconstV X30.here hx rfl 0 (own_d hby d28_29) (by decide) ?_
    refine XS.iload X30.here hx rfl (own_d hby d28_30) rfl ?_
    exact Steps.refl _)
  have fa31 : Arv Z h30 t kt .byte (16 : Int32) (own_by bs) (.int (0 : Int32)) := (Ab.keep K30 (ninS (Ne.symm ne_x_t) nin0))
  obtain ⟨_, _, ⟨T33, L33, k33, n33⟩, -, X33, ⟨Lc33, hQ33, l33, y33, z33⟩, st33⟩ := Jvm.LawKit.callS X30 hx (y := (⟨"java/util/Arrays", "copyOfRange", "([BII)[B"⟩ : MethodName)) hown (mvT hZ (hw _ (List.mem_of_getElem? (i := 205) rfl))) (mvT hZ (hw _ (List.mem_of_getElem? (i := 206) rfl))) (mvT hZ w_207) (mvT hZ w_208) (by decide) (backOf (W := 1) (own_cr0 l Z a0 hw t kt bs h30 n0 Zs1 fa31 hb) hZ w_208 w_207 (by decide) (by decide)) (g := (mkF m 32 #[.val (.ref x), .val (.ref b), .val .null, .val (.ref t), .val (.int (Int32.ofNat bs.length))] [(.int (Int32.ofNat bs.length)), (.int 0), (.ref t), (.ref x)])) rfl (by rw [hml]; rfl) (argsL := [(.ref t), (.int 0), (.int (Int32.ofNat bs.length))]) (rest := [(.ref x)]) (lenOf own_pd16 rfl) rfl (by show 2 * 0 + _ ≤ _; exact Nat.le_of_eq rfl) (own_d hby d28_32) (fun _ _ => ⟨rfl, e30, Nat.le_of_ble_eq_true rfl, Nat.le_of_ble_eq_true rfl⟩)
  dsimp only [Pt.U, Pt.locs, Pt.cells, Pt.slots] at X33 l33 y33 z33 st33 hQ33
  subst l33 y33 z33
  obtain ⟨u, ku, rfl, Nq33, Kq33, sq33, Aq33⟩ := hQ33
  have N33 := Fr.app N30 Nq33
  have b_u : h30.size ≤ u := sq33
  have gn_u : n0 ≤ u := Nat.le_trans Zs1 b_u
  have s0_u : h0.size ≤ u := Nat.le_trans KK1.1 b_u
  have fa34 : Exa Z h30 x "java/lang/String" := (E.keep K30)
  have ne_x_u : x ≠ u := Nat.ne_of_lt (Nat.lt_of_lt_of_le fa34.lt b_u)
  have fa35 : Exa Z h30 b "java/lang/StringBuilder" := (Eb.keep K30)
  have ne_b_u : b ≠ u := Nat.ne_of_lt (Nat.lt_of_lt_of_le fa35.lt b_u)
  have ne_t_u : t ≠ u := Nat.ne_of_lt (Nat.lt_of_lt_of_le fa31.lt b_u)
  have KK2 : Keep h0 T33.heap [x] := KK1.trans Kq33 all0
  have Zs2 : n0 ≤ T33.heap.size := Nat.le_trans Zs1 Kq33.1
  have e33 : T33.heap = T33.heap := rfl
  have cc37 : Steps p.tables e below S0' (T33.setTop (mkF m 35 #[.val (.ref x), .val (.ref b), .val .null, .val (.ref t), .val (.int (Int32.ofNat bs.length))] [(.ref u), (.ref x)])) := (cc32.trans (st33 _ (Steps.refl _)))
  have fa36 : Fld Z T33.heap x "java/lang/String" "value" "[B" .null := ((V.other W30 (Or.inr (slot_ne (Or.inr w_28) (Or.inr w_30) (by decide) (t := (.array .byte)) (t' := .byte) (by decide) (by decide)))).keep Kq33 nin0)
  have fa38 : Exa Z T33.heap x "java/lang/String" := (fa34.keep Kq33)
  obtain ⟨T39, h39, X39, e39, W39, st39⟩ := putF X33 hx hZ hown (host := "") (Or.inl (hw _ (List.mem_of_getElem? (i := 27) rfl))) Via.refl e33 fa36 fa38 (Or.inr ⟨w_28, rfl, hnm⟩) w_15 (ty := (.array .byte)) (by decide) rfl rfl (g := (mkF m 35 #[.val (.ref x), .val (.ref b), .val .null, .val (.ref t), .val (.int (Int32.ofNat bs.length))] [(.ref u), (.ref x)])) rfl rfl (own_d hby d28_35)
  have K39 := Keep.of_wr W39
  have N39 := Fr.snoc X39 N33 gx
  have KK3 : Keep h0 h39 [x] := KK2.trans K39 (allS (Or.inl (List.mem_of_getElem? (i := 0) rfl)) all0)
  have Zs3 : n0 ≤ h39.size := Nat.le_trans Zs2 K39.1
  have cc41 : Steps p.tables e below S0' (T39.setTop (mkF m 97 #[.val (.ref x), .val (.ref b), .val .null, .val (.ref t), .val (.int (Int32.ofNat bs.length))] [])) := Steps.trans (cc37.trans (st39 _ (Steps.refl _))) (by
    refine XS.goto X39.here hx rfl (pc0 := 38) rfl (own_d hby d28_38) (by decide) rfl ?_
    exact Steps.refl _)
  have fa40 : Exa Z h39 x "java/lang/String" := (fa38.keep K39)
  have fa42 : Fld Z h39 x "java/lang/String" "coder" "B" (.int (0 : Int32)) := (((Fld.same W30 C).keep Kq33 nin0).other W39 (Or.inr (slot_ne (Or.inr w_30) (Or.inr w_28) (by decide) (t := .byte) (t' := (.array .byte)) (by decide) (by decide))))
  have fa43 : Arv Z h39 u ku .byte (Int32.ofNat bs.length) (own_by bs) (.int (0 : Int32)) := (Aq33.keep K39 (ninS (Ne.symm ne_x_u) nin0))
  have cE := cc41
  rw [hS0'] at cE
  obtain ⟨fs, hr_, hrun, hended, hW, hsame⟩ := X39.leave (v := none) (fun _ => rfl)
  refine ⟨_, _, cE.trans (X39.returnOut hx Bd.returns (own_d hby d28_97) hr_), hrun, hended, _, _, rfl, ?_, ⟨_, rfl⟩, hW, hsame.mono (by first | decide | omega) (by first | decide | omega)⟩
  show Q_own_si2 Z x b t kt bs z h0 n0 _ T39.heap _
  rw [e39]
  exact ⟨rfl, N39, KK3, fa40, fa42, hp, by omega, u, ku, (Fld.same W39 fa36), fa43⟩
theorem d29_0 : decode jdk_42_method_53_code 0 = .ok (.aload_n 0, 1) := by decide +kernel
theorem d29_1 : decode jdk_42_method_53_code 1 = .ok (.aload_n 1, 1) := by decide +kernel
theorem d29_2 : decode jdk_42_method_53_code 2 = .ok (.aconst_null, 1) := by decide +kernel
theorem d29_3 : decode jdk_42_method_53_code 3 = .ok (.invokespecial 489, 3) := by decide +kernel
theorem d29_6 : decode jdk_42_method_53_code 6 = .ok (.return_, 1) := by decide +kernel
def Q_own_si1 (Z : State) (x b t : Addr) (kt : ClassId) (bs : List Int32) (z : Int32) (h0 : Heap) (n0 : Nat) (v : Option Value) (h : Heap) (L : List Loc) : Prop := v = none ∧ Fr n0 L ∧ Keep h0 h [x] ∧ own_Lat Z h x bs
set_option maxRecDepth 65536 in
set_option maxHeartbeats 40000000 in
theorem own_si1 (l : Launch) (Z : State) (a0 : Array Value) (hw : ∀ d ∈ tables_1, d.before a0 Z = true) (x b t : Addr) (kt : ClassId) (bs : List Int32) (z : Int32) (h0 : Heap) (n0 : Nat) (Z0 : n0 ≤ h0.size) (X00 : Old Z n0 h0) (O2 : Sta Z Z.heap "java/lang/String" "COMPACT_STRINGS" "Z" (.int z)) (P5 : ¬ z = 0) (E : Exa Z h0 x "java/lang/String") (V : Fld Z h0 x "java/lang/String" "value" "[B" .null) (C : Fld Z h0 x "java/lang/String" "coder" "B" (.int (0 : Int32))) (gx : n0 ≤ x) (Eb : Exa Z h0 b "java/lang/StringBuilder") (Cb : Fld Z h0 b "java/lang/AbstractStringBuilder" "coder" "B" (.int (0 : Int32))) (Nb : Fld Z h0 b "java/lang/AbstractStringBuilder" "count" "I" (.int (Int32.ofNat bs.length))) (Vb : Fld Z h0 b "java/lang/AbstractStringBuilder" "value" "[B" (.ref t)) (Ab : Arv Z h0 t kt .byte (16 : Int32) (own_by bs) (.int (0 : Int32))) (hp : ∀ c ∈ bs, ¬ c < 0 ∧ ¬ (255 : Int32) < c) (hb : bs.length < 16) :
    MetFree l (⟨"java/lang/String", "<init>", "(Ljava/lang/StringBuilder;)V"⟩ : MethodName) (head1 [Jvm.Cond.code (⟨"java/lang/String", "<init>", "(Ljava/lang/StringBuilder;)V"⟩ : MethodName) jdk_42_method_53_code 2 none] ({ frames := 4, cells := 1, slots := 16, locals := 87 } : Room)) (fun a_ U_ => a_ = #[(.ref x), (.ref b)] ∧ Z.Warmed39 U_.vm ∧ U_.heap = h0) (fun _ _ _ _ _ => True) (fun _ U_ o_ V_ => ∃ v_ L_, o_ = .returned v_ ∧ Q_own_si1 Z x b t kt bs z h0 n0 v_ V_.heap L_ ∧ FrameEnd U_ o_ V_ L_ ({ frames := 4, cells := 1, slots := 16, locals := 87 } : Room).cells ({ frames := 4, cells := 1, slots := 16, locals := 87 } : Room).slots) := by
  refine MetFree.of_bodySF (plainFor_of_name own_pn5) hisR ?_
  intro p e s m args below meth c s₁ Bd hml0 hP hK
  obtain ⟨rfl, hZ, hh⟩ := hP
  have hx := Bd.exec
  have hby := Bd.bytes
  have hml : c.maxLocals = 2 := hml0
  have hown : s.vm.findClass "java/lang/String" = some m.cls := findClass_of_methodNamed Bd.named
  have hnm := (name_of_methodNamed Bd.named Bd.method).1
  have X0 : Stand p l e ({ frames := 4, cells := 1, slots := 16, locals := 87 } : Room) s m #[(.ref x), (.ref b)] below meth c s₁ [] 0 0 := Stand.of_body Bd
  have e0 : s₁.heap = h0 := by rw [← hh, Bd.state]; rfl
  have N0 := Fr.nil n0
  have KK0 := Keep.refl h0 [x]
  have cc0 : Steps p.tables e below (s₁.setTop (entryFrame m #[(.ref x), (.ref b)] 2)) (s₁.setTop (mkF m 0 #[.val (.ref x), .val (.ref b)] [])) := XT.entry rfl
  obtain ⟨S0', hS0'⟩ : ∃ S, S = (s₁.setTop (entryFrame m #[(.ref x), (.ref b)] 2)) := ⟨_, rfl⟩
  rw [← hS0'] at cc0
  have w_186 := hw _ (List.mem_of_getElem? (i := 186) rfl)
  have cc21 : Steps p.tables e below S0' (s₁.setTop (mkF m 3 #[.val (.ref x), .val (.ref b)] [.null, (.ref b), (.ref x)])) := Steps.trans cc0 (by
    refine XS.aloadN X0.here hx rfl (own_d hby d29_0) rfl rfl ?_
    refine XS.aloadN X0.here hx rfl (own_d hby d29_1) rfl rfl ?_
    refine XS.aconstNull X0.here hx rfl (own_d hby d29_2) ?_
    exact Steps.refl _)
  obtain ⟨_, _, ⟨T22, L22, k22, n22⟩, -, X22, ⟨Lc22, hQ22, l22, y22, z22⟩, st22⟩ := X0.specialBack hx (y := (⟨"java/lang/String", "<init>", "(Ljava/lang/AbstractStringBuilder;Ljava/lang/Void;)V"⟩ : MethodName)) rfl hown (mvT hZ (hw _ (List.mem_of_getElem? (i := 184) rfl))) (mvT hZ (hw _ (List.mem_of_getElem? (i := 185) rfl))) (mvT hZ w_186) (by decide) (backOf (W := 0) (own_si2 l Z a0 hw x b t kt bs z h0 n0 Z0 X00 O2 P5 E V C gx Eb Cb Nb Vb Ab hp hb) hZ w_186 (hw _ (List.mem_of_getElem? (i := 7) rfl)) (by decide) (by decide)) (g := (mkF m 3 #[.val (.ref x), .val (.ref b)] [.null, (.ref b), (.ref x)])) rfl (by rw [hml]; rfl) (Steps.refl _) (a := x) (argsL := [(.ref b), .null]) (rest := []) (lenOf own_pd18 rfl) rfl (by show 2 * 0 + _ ≤ _; exact Nat.le_of_eq rfl) (own_d hby d29_3) (fun _ _ => ⟨rfl, e0, Nat.le_of_ble_eq_true rfl, Nat.le_of_ble_eq_true rfl⟩)
  dsimp only [Pt.U, Pt.locs, Pt.cells, Pt.slots] at X22 l22 y22 z22 st22 hQ22
  subst l22 y22 z22
  obtain ⟨rfl, Nq22, Kq22, Hq22⟩ := hQ22
  have N22 := Fr.app N0 Nq22
  have KK1 : Keep h0 T22.heap [x] := KK0.trans Kq22 (allS (Or.inl (List.mem_of_getElem? (i := 0) rfl)) all0)
  have Zs1 : n0 ≤ T22.heap.size := Nat.le_trans Z0 Kq22.1
  have e22 : T22.heap = T22.heap := rfl
  have cc23 : Steps p.tables e below S0' (T22.setTop (mkF m 6 #[.val (.ref x), .val (.ref b)] [])) := (Steps.trans cc21 st22)
  have cE := cc23
  rw [hS0'] at cE
  obtain ⟨fs, hr_, hrun, hended, hW, hsame⟩ := X22.leave (v := none) (fun _ => rfl)
  refine ⟨_, _, cE.trans (X22.returnOut hx Bd.returns (own_d hby d29_6) hr_), hrun, hended, _, _, rfl, ?_, ⟨_, rfl⟩, hW, hsame.mono (by first | decide | omega) (by first | decide | omega)⟩
  show Q_own_si1 Z x b t kt bs z h0 n0 _ T22.heap _
  rw [e22]
  exact ⟨rfl, N22, KK1, Hq22⟩
theorem d30_0 : decode jdk_67_method_42_code 0 = .ok (.new 18, 3) := by decide +kernel
theorem d30_3 : decode jdk_67_method_42_code 3 = .ok (.dup, 1) := by decide +kernel
theorem d30_4 : decode jdk_67_method_42_code 4 = .ok (.aload_n 0, 1) := by decide +kernel
theorem d30_5 : decode jdk_67_method_42_code 5 = .ok (.invokespecial 137, 3) := by decide +kernel
theorem d30_8 : decode jdk_67_method_42_code 8 = .ok (.areturn, 1) := by decide +kernel
def Q_own_tos (Z : State) (b t : Addr) (kt : ClassId) (bs : List Int32) (z : Int32) (h0 : Heap) (n0 : Nat) (v : Option Value) (h : Heap) (L : List Loc) : Prop := ∃ x : Addr, v = some (.ref x) ∧ Fr n0 L ∧ Keep h0 h [] ∧ h0.size ≤ x ∧ own_Lat Z h x bs
set_option maxRecDepth 65536 in
set_option maxHeartbeats 40000000 in
theorem own_tos (l : Launch) (Z : State) (a0 : Array Value) (hw : ∀ d ∈ tables_1, d.before a0 Z = true) (b t : Addr) (kt : ClassId) (bs : List Int32) (z : Int32) (h0 : Heap) (n0 : Nat) (Z0 : n0 ≤ h0.size) (X00 : Old Z n0 h0) (O2 : Sta Z Z.heap "java/lang/String" "COMPACT_STRINGS" "Z" (.int z)) (P5 : ¬ z = 0) (E : Exa Z h0 b "java/lang/StringBuilder") (C : Fld Z h0 b "java/lang/AbstractStringBuilder" "coder" "B" (.int (0 : Int32))) (N : Fld Z h0 b "java/lang/AbstractStringBuilder" "count" "I" (.int (Int32.ofNat bs.length))) (V : Fld Z h0 b "java/lang/AbstractStringBuilder" "value" "[B" (.ref t)) (A : Arv Z h0 t kt .byte (16 : Int32) (own_by bs) (.int (0 : Int32))) (hp : ∀ c ∈ bs, ¬ c < 0 ∧ ¬ (255 : Int32) < c) (hb : bs.length < 16) :
    MetFree l (⟨"java/lang/StringBuilder", "toString", "()Ljava/lang/String;"⟩ : MethodName) (head1 [Jvm.Cond.code (⟨"java/lang/StringBuilder", "toString", "()Ljava/lang/String;"⟩ : MethodName) jdk_67_method_42_code 1 (some (.object "java/lang/String"))] ({ frames := 5, cells := 2, slots := 20, locals := 101 } : Room)) (fun a_ U_ => a_ = #[(.ref b)] ∧ Z.Warmed39 U_.vm ∧ U_.heap = h0) (fun _ _ _ _ _ => True) (fun _ U_ o_ V_ => ∃ v_ L_, o_ = .returned v_ ∧ Q_own_tos Z b t kt bs z h0 n0 v_ V_.heap L_ ∧ FrameEnd U_ o_ V_ L_ ({ frames := 5, cells := 2, slots := 20, locals := 101 } : Room).cells ({ frames := 5, cells := 2, slots := 20, locals := 101 } : Room).slots) := by
  refine MetFree.of_bodySF (plainFor_of_name own_pn8) hisR ?_
  intro p e s m args below meth c s₁ Bd hml0 hP hK
  obtain ⟨rfl, hZ, hh⟩ := hP
  have hx := Bd.exec
  have hby := Bd.bytes
  have hml : c.maxLocals = 1 := hml0
  have hown : s.vm.findClass "java/lang/StringBuilder" = some m.cls := findClass_of_methodNamed Bd.named
  have hnm := (name_of_methodNamed Bd.named Bd.method).1
  have X0 : Stand p l e ({ frames := 5, cells := 2, slots := 20, locals := 101 } : Room) s m #[(.ref b)] below meth c s₁ [] 0 0 := Stand.of_body Bd
  have e0 : s₁.heap = h0 := by rw [← hh, Bd.state]; rfl
  have N0 := Fr.nil n0
  have KK0 := Keep.refl h0 ([] : List Addr)
  have cc0 : Steps p.tables e below (s₁.setTop (entryFrame m #[(.ref b)] 1)) (s₁.setTop (mkF m 0 #[.val (.ref b)] [])) := XT.entry rfl
  obtain ⟨S0', hS0'⟩ : ∃ S, S = (s₁.setTop (entryFrame m #[(.ref b)] 1)) := ⟨_, rfl⟩
  rw [← hS0'] at cc0
  have w_7 := hw _ (List.mem_of_getElem? (i := 7) rfl)
  have w_183 := hw _ (List.mem_of_getElem? (i := 183) rfl)
  obtain ⟨T21, h21, X21, e21, E21, A21, D21, -, st21⟩ := newO X0 hx hZ hown (hw _ (List.mem_of_getElem? (i := 180) rfl)) (hw _ (List.mem_of_getElem? (i := 15) rfl)) w_7 e0 (g := (mkF m 0 #[.val (.ref b)] [])) rfl (own_d hby d30_0) (by decide) (by decide)
  obtain ⟨x, g_x⟩ : ∃ z, z = h0.size := ⟨_, rfl⟩
  rw [← g_x] at A21 D21 st21
  have K21 := (Keep.refl h0 ([] : List Addr)).ext E21
  have b_x : h0.size ≤ x := (Nat.le_of_eq g_x.symm)
  have gn_x : n0 ≤ x := Nat.le_trans Z0 b_x
  have s0_x : h0.size ≤ x := Nat.le_trans KK0.1 b_x
  have ne_b_x : b ≠ x := Nat.ne_of_lt (Nat.lt_of_lt_of_le E.lt b_x)
  have ne_t_x : t ≠ x := Nat.ne_of_lt (Nat.lt_of_lt_of_le A.lt b_x)
  have KK1 : Keep h0 h21 ([] : List Addr) := KK0.trans K21 all0
  have Zs1 : n0 ≤ h21.size := Nat.le_trans Z0 K21.1
  have F_value_x : Fld Z h21 x "java/lang/String" "value" "[B" .null := D21 (Or.inr (hw _ (List.mem_of_getElem? (i := 28) rfl))) (ty := (.array .byte)) (by decide)
  have F_coder_x : Fld Z h21 x "java/lang/String" "coder" "B" (.int (0 : Int32)) := D21 (Or.inr (hw _ (List.mem_of_getElem? (i := 30) rfl))) (ty := .byte) (by decide)
  have cc23 : Steps p.tables e below S0' (T21.setTop (mkF m 5 #[.val (.ref b)] [(.ref b), (.ref x), (.ref x)])) := Steps.trans (cc0.trans (st21 _ (Steps.refl _))) (by
    refine XS.dup X21.here hx rfl (own_d hby d30_3) rfl rfl ?_
    refine XS.aloadN X21.here hx rfl (own_d hby d30_4) rfl rfl ?_
    exact Steps.refl _)
  have fa22 : Old Z n0 h21 := (X00.keep K21 all0)
  have fa24 : Exa Z h21 b "java/lang/StringBuilder" := (E.keep K21)
  have fa25 : Fld Z h21 b "java/lang/AbstractStringBuilder" "coder" "B" (.int (0 : Int32)) := (C.keep K21 nin0)
  have fa26 : Fld Z h21 b "java/lang/AbstractStringBuilder" "count" "I" (.int (Int32.ofNat bs.length)) := (N.keep K21 nin0)
  have fa27 : Fld Z h21 b "java/lang/AbstractStringBuilder" "value" "[B" (.ref t) := (V.keep K21 nin0)
  have fa28 : Arv Z h21 t kt .byte (16 : Int32) (own_by bs) (.int (0 : Int32)) := (A.keep K21 nin0)
  obtain ⟨_, _, ⟨T29, L29, k29, n29⟩, -, X29, ⟨Lc29, hQ29, l29, y29, z29⟩, st29⟩ := X21.specialBack hx (y := (⟨"java/lang/String", "<init>", "(Ljava/lang/StringBuilder;)V"⟩ : MethodName)) rfl hown (mvT hZ (hw _ (List.mem_of_getElem? (i := 181) rfl))) (mvT hZ (hw _ (List.mem_of_getElem? (i := 182) rfl))) (mvT hZ w_183) (by decide) (backOf (W := 1) (own_si1 l Z a0 hw x b t kt bs z h21 n0 Zs1 fa22 O2 P5 A21 F_value_x F_coder_x gn_x fa24 fa25 fa26 fa27 fa28 hp hb) hZ w_183 w_7 (by decide) (by decide)) (g := (mkF m 5 #[.val (.ref b)] [(.ref b), (.ref x), (.ref x)])) rfl (by rw [hml]; rfl) (Steps.refl _) (a := x) (argsL := [(.ref b)]) (rest := [(.ref x)]) (lenOf own_pd19 rfl) rfl (by show 2 * 0 + _ ≤ _; exact Nat.le_of_eq rfl) (own_d hby d30_5) (fun _ _ => ⟨rfl, e21, Nat.le_of_ble_eq_true rfl, Nat.le_of_ble_eq_true rfl⟩)
  dsimp only [Pt.U, Pt.locs, Pt.cells, Pt.slots] at X29 l29 y29 z29 st29 hQ29
  subst l29 y29 z29
  obtain ⟨rfl, Nq29, Kq29, Hq29⟩ := hQ29
  have N29 := Fr.app N0 Nq29
  have KK2 : Keep h0 T29.heap ([] : List Addr) := KK1.trans Kq29 (allS (Or.inr s0_x) all0)
  have Zs2 : n0 ≤ T29.heap.size := Nat.le_trans Zs1 Kq29.1
  have e29 : T29.heap = T29.heap := rfl
  have cc30 : Steps p.tables e below S0' (T29.setTop (mkF m 8 #[.val (.ref b)] [(.ref x)])) := (Steps.trans cc23 st29)
  have cE := cc30
  rw [hS0'] at cE
  obtain ⟨fs, hr_, hrun, hended, hW, hsame⟩ := X29.leave (v := some (.ref x)) (fun h => by rw [Bd.returns] at h; cases h)
  refine ⟨_, _, cE.trans (X29.areturnOut hx (rfl) Bd.returns rfl (own_d hby d30_8) hr_), hrun, hended, _, _, rfl, ?_, ⟨_, rfl⟩, hW, hsame.mono (by first | decide | omega) (by first | decide | omega)⟩
  show Q_own_tos Z b t kt bs z h0 n0 _ T29.heap _
  rw [e29]
  exact ⟨x, rfl, N29, KK2, s0_x, Hq29⟩
theorem d31_0 : decode jdk_42_method_154_code 0 = .ok (.getstatic 38, 3) := by decide +kernel
theorem d31_3 : decode jdk_42_method_154_code 3 = .ok (.ifCond .eq 14, 3) := by decide +kernel
theorem d31_6 : decode jdk_42_method_154_code 6 = .ok (.aload_n 0, 1) := by decide +kernel
theorem d31_7 : decode jdk_42_method_154_code 7 = .ok (.getfield 15, 3) := by decide +kernel
theorem d31_10 : decode jdk_42_method_154_code 10 = .ok (.ifCond .ne 7, 3) := by decide +kernel
theorem d31_13 : decode jdk_42_method_154_code 13 = .ok (.iconst 1, 1) := by decide +kernel
theorem d31_14 : decode jdk_42_method_154_code 14 = .ok (.goto 4, 3) := by decide +kernel
theorem d31_17 : decode jdk_42_method_154_code 17 = .ok (.iconst 0, 1) := by decide +kernel
theorem d31_18 : decode jdk_42_method_154_code 18 = .ok (.ireturn, 1) := by decide +kernel
def Q_own_isL (Z : State) (x : Addr) (cd z : Int32) (h0 : Heap) (n0 : Nat) (v : Option Value) (h : Heap) (L : List Loc) : Prop := v = some (.int (1 - cd)) ∧ Fr n0 L ∧ h = h0
set_option maxRecDepth 65536 in
set_option maxHeartbeats 40000000 in
theorem own_isL (l : Launch) (Z : State) (a0 : Array Value) (hw : ∀ d ∈ tables_1, d.before a0 Z = true) (x : Addr) (cd z : Int32) (h0 : Heap) (n0 : Nat) (Z0 : n0 ≤ h0.size) (X00 : Old Z n0 h0) (O2 : Sta Z Z.heap "java/lang/String" "COMPACT_STRINGS" "Z" (.int z)) (P5 : ¬ z = 0) (C : Fld Z h0 x "java/lang/String" "coder" "B" (.int cd)) (hcd : cd = 0 ∨ cd = 1) :
    MetFree l (⟨"java/lang/String", "isLatin1", "()Z"⟩ : MethodName) (head1 [Jvm.Cond.code (⟨"java/lang/String", "isLatin1", "()Z"⟩ : MethodName) jdk_42_method_154_code 1 (some .boolean)] ({ frames := 0, cells := 0, slots := 0, locals := 0 } : Room)) (fun a_ U_ => a_ = #[(.ref x)] ∧ Z.Warmed39 U_.vm ∧ U_.heap = h0) (fun _ _ _ _ _ => True) (fun _ U_ o_ V_ => ∃ v_ L_, o_ = .returned v_ ∧ Q_own_isL Z x cd z h0 n0 v_ V_.heap L_ ∧ FrameEnd U_ o_ V_ L_ ({ frames := 0, cells := 0, slots := 0, locals := 0 } : Room).cells ({ frames := 0, cells := 0, slots := 0, locals := 0 } : Room).slots) := by
  refine MetFree.of_bodySF (plainFor_of_name own_pn5) hisR ?_
  intro p e s m args below meth c s₁ Bd hml0 hP hK
  obtain ⟨rfl, hZ, hh⟩ := hP
  have hx := Bd.exec
  have hby := Bd.bytes
  have hml : c.maxLocals = 1 := hml0
  have hown : s.vm.findClass "java/lang/String" = some m.cls := findClass_of_methodNamed Bd.named
  have hnm := (name_of_methodNamed Bd.named Bd.method).1
  have X0 : Stand p l e ({ frames := 0, cells := 0, slots := 0, locals := 0 } : Room) s m #[(.ref x)] below meth c s₁ [] 0 0 := Stand.of_body Bd
  have e0 : s₁.heap = h0 := by rw [← hh, Bd.state]; rfl
  have N0 := Fr.nil n0
  have KK0 := Keep.refl h0 ([] : List Addr)
  have cc0 : Steps p.tables e below (s₁.setTop (entryFrame m #[(.ref x)] 1)) (s₁.setTop (mkF m 0 #[.val (.ref x)] [])) := XT.entry rfl
  obtain ⟨S0', hS0'⟩ : ∃ S, S = (s₁.setTop (entryFrame m #[(.ref x)] 1)) := ⟨_, rfl⟩
  rw [← hS0'] at cc0
  obtain ⟨T21, X21, e21, st21⟩ := getS2 X0 hx hZ hown (host := "") (Or.inl (hw _ (List.mem_of_getElem? (i := 9) rfl))) Via.refl e0 (O2.ext X00.2) (g := (mkF m 0 #[.val (.ref x)] [])) rfl (own_d hby d31_0)
  have cc22 : Steps p.tables e below S0' (T21.setTop (mkF m 7 #[.val (.ref x)] [(.ref x)])) := Steps.trans (cc0.trans (st21 _ (Steps.refl _))) (by
    refine XS.ifNo X21.here hx rfl (own_d hby d31_3) rfl (i0_eq_f P5) ?_
    refine XS.aloadN X21.here hx rfl (own_d hby d31_6) rfl rfl ?_
    exact Steps.refl _)
  obtain ⟨T23, X23, e23, st23⟩ := getF X21 hx hZ hown (host := "") (Or.inl (hw _ (List.mem_of_getElem? (i := 29) rfl))) Via.refl e21 C (g := (mkF m 7 #[.val (.ref x)] [(.ref x)])) rfl rfl (own_d hby d31_7)
  have cc24 : Steps p.tables e below S0' (T23.setTop (mkF m 10 #[.val (.ref x)] [(.int cd)])) := (cc22.trans (st23 _ (Steps.refl _)))
  rcases hcd with rfl | rfl
  · skip
    have cc25 : Steps p.tables e below S0' (T23.setTop (mkF m 18 #[.val (.ref x)] [(.int 1)])) := Steps.trans cc24 (by
      refine XS.ifNo X23.here hx rfl (own_d hby d31_10) rfl (i0_ne_f rfl) ?_
      refine iconstV X23.here hx rfl 1 (own_d hby d31_13) (by decide) ?_
      refine XS.goto X23.here hx rfl (pc0 := 14) rfl (own_d hby d31_14) (by decide) rfl ?_
      exact Steps.refl _)
    have cE := cc25
    rw [hS0'] at cE
    obtain ⟨fs, hr_, hrun, hended, hW, hsame⟩ := X23.leave (v := some (.int 1)) (fun h => by rw [Bd.returns] at h; cases h)
    refine ⟨_, _, cE.trans (X23.ireturnOut hx Bd.returns (rfl) (by simp) (own_d hby d31_18) hr_), hrun, hended, _, _, rfl, ?_, ⟨_, rfl⟩, hW, hsame.mono (by first | decide | omega) (by first | decide | omega)⟩
    show Q_own_isL Z x 0 z h0 n0 _ T23.heap _
    rw [e23]
    exact ⟨rfl, N0, rfl⟩
  · skip
    have cc25 : Steps p.tables e below S0' (T23.setTop (mkF m 18 #[.val (.ref x)] [(.int 0)])) := Steps.trans cc24 (by
      refine XS.ifYes X23.here hx rfl (pc0 := 10) rfl (own_d hby d31_10) rfl (i0_ne_t (by decide)) (by decide) rfl ?_
      refine iconstV X23.here hx rfl 0 (own_d hby d31_17) (by decide) ?_
      exact Steps.refl _)
    have cE := cc25
    rw [hS0'] at cE
    obtain ⟨fs, hr_, hrun, hended, hW, hsame⟩ := X23.leave (v := some (.int 0)) (fun h => by rw [Bd.returns] at h; cases h)
    refine ⟨_, _, cE.trans (X23.ireturnOut hx Bd.returns (rfl) (by simp) (own_d hby d31_18) hr_), hrun, hended, _, _, rfl, ?_, ⟨_, rfl⟩, hW, hsame.mono (by first | decide | omega) (by first | decide | omega)⟩
    show Q_own_isL Z x 1 z h0 n0 _ T23.heap _
    rw [e23]
    exact ⟨rfl, N0, rfl⟩
theorem d32_0 : decode jdk_41_method_11_code 0 = .ok (.iload_n 0, 1) := by decide +kernel
theorem d32_1 : decode jdk_41_method_11_code 1 = .ok (.ifCond .lt 8, 3) := by decide +kernel
theorem d32_4 : decode jdk_41_method_11_code 4 = .ok (.iload_n 0, 1) := by decide +kernel
theorem d32_5 : decode jdk_41_method_11_code 5 = .ok (.iload_n 1, 1) := by decide +kernel
theorem d32_6 : decode jdk_41_method_11_code 6 = .ok (.if_icmp .lt 10, 3) := by decide +kernel
theorem d32_16 : decode jdk_41_method_11_code 16 = .ok (.iload_n 0, 1) := by decide +kernel
theorem d32_17 : decode jdk_41_method_11_code 17 = .ok (.ireturn, 1) := by decide +kernel
def Q_own_ck (Z : State) (a n : Int32) (f : Value) (h0 : Heap) (n0 : Nat) (v : Option Value) (h : Heap) (L : List Loc) : Prop := v = some (.int a) ∧ Fr n0 L ∧ h = h0
set_option maxRecDepth 65536 in
set_option maxHeartbeats 40000000 in
theorem own_ck (l : Launch) (Z : State) (a0 : Array Value) (hw : ∀ d ∈ tables_1, d.before a0 Z = true) (a n : Int32) (f : Value) (h0 : Heap) (n0 : Nat) (Z0 : n0 ≤ h0.size) (h1 : ¬ a < 0) (h2 : a < n) (hf : f.isRef = true) :
    MetFree l (⟨"jdk/internal/util/Preconditions", "checkIndex", "(IILjava/util/function/BiFunction;)I"⟩ : MethodName) (head1 [Jvm.Cond.code (⟨"jdk/internal/util/Preconditions", "checkIndex", "(IILjava/util/function/BiFunction;)I"⟩ : MethodName) jdk_41_method_11_code 3 (some .int)] ({ frames := 0, cells := 0, slots := 0, locals := 0 } : Room)) (fun a_ U_ => a_ = #[(.int a), (.int n), f] ∧ Z.Warmed39 U_.vm ∧ U_.heap = h0) (fun _ _ _ _ _ => True) (fun _ U_ o_ V_ => ∃ v_ L_, o_ = .returned v_ ∧ Q_own_ck Z a n f h0 n0 v_ V_.heap L_ ∧ FrameEnd U_ o_ V_ L_ ({ frames := 0, cells := 0, slots := 0, locals := 0 } : Room).cells ({ frames := 0, cells := 0, slots := 0, locals := 0 } : Room).slots) := by
  refine MetFree.of_bodySF (plainFor_of_name own_pn10) hisR ?_
  intro p e s m args below meth c s₁ Bd hml0 hP hK
  obtain ⟨rfl, hZ, hh⟩ := hP
  have hx := Bd.exec
  have hby := Bd.bytes
  have hml : c.maxLocals = 3 := hml0
  have hown : s.vm.findClass "jdk/internal/util/Preconditions" = some m.cls := findClass_of_methodNamed Bd.named
  have hnm := (name_of_methodNamed Bd.named Bd.method).1
  have X0 : Stand p l e ({ frames := 0, cells := 0, slots := 0, locals := 0 } : Room) s m #[(.int a), (.int n), f] below meth c s₁ [] 0 0 := Stand.of_body Bd
  have e0 : s₁.heap = h0 := by rw [← hh, Bd.state]; rfl
  have N0 := Fr.nil n0
  have KK0 := Keep.refl h0 ([] : List Addr)
  have cc0 : Steps p.tables e below (s₁.setTop (entryFrame m #[(.int a), (.int n), f] 3)) (s₁.setTop (mkF m 0 #[.val (.int a), .val (.int n), .val f] [])) := XT.entry (by cases f <;> first | rfl | (cases hf))
  obtain ⟨S0', hS0'⟩ : ∃ S, S = (s₁.setTop (entryFrame m #[(.int a), (.int n), f] 3)) := ⟨_, rfl⟩
  rw [← hS0'] at cc0
  have cc21 : Steps p.tables e below S0' (s₁.setTop (mkF m 17 #[.val (.int a), .val (.int n), .val f] [(.int a)])) := Steps.trans cc0 (by
    refine XS.iloadN X0.here hx rfl (own_d hby d32_0) rfl ?_
    refine XS.ifNo X0.here hx rfl (own_d hby d32_1) rfl (i0_lt_f h1) ?_
    refine XS.iloadN X0.here hx rfl (own_d hby d32_4) rfl ?_
    refine XS.iloadN X0.here hx rfl (own_d hby d32_5) rfl ?_
    refine XS.icmpYes X0.here hx rfl (pc0 := 6) rfl (own_d hby d32_6) rfl (ii_lt_t h2) (by decide) rfl ?_
    refine XS.iloadN X0.here hx rfl (own_d hby d32_16) rfl ?_
    exact Steps.refl _)
  have cE := cc21
  rw [hS0'] at cE
  obtain ⟨fs, hr_, hrun, hended, hW, hsame⟩ := X0.leave (v := some (.int a)) (fun h => by rw [Bd.returns] at h; cases h)
  refine ⟨_, _, cE.trans (X0.ireturnOut hx Bd.returns (rfl) (by simp) (own_d hby d32_17) hr_), hrun, hended, _, _, rfl, ?_, ⟨_, rfl⟩, hW, hsame.mono (by first | decide | omega) (by first | decide | omega)⟩
  show Q_own_ck Z a n f h0 n0 _ s₁.heap _
  rw [e0]
  exact ⟨rfl, N0, rfl⟩
theorem d33_0 : decode jdk_42_method_155_code 0 = .ok (.iload_n 0, 1) := by decide +kernel
theorem d33_1 : decode jdk_42_method_155_code 1 = .ok (.iload_n 1, 1) := by decide +kernel
theorem d33_2 : decode jdk_42_method_155_code 2 = .ok (.getstatic 1053, 3) := by decide +kernel
theorem d33_5 : decode jdk_42_method_155_code 5 = .ok (.invokestatic 1059, 3) := by decide +kernel
theorem d33_8 : decode jdk_42_method_155_code 8 = .ok (.pop, 1) := by decide +kernel
theorem d33_9 : decode jdk_42_method_155_code 9 = .ok (.return_, 1) := by decide +kernel
def Q_own_sck (Z : State) (a n : Int32) (f : Value) (h0 : Heap) (n0 : Nat) (v : Option Value) (h : Heap) (L : List Loc) : Prop := v = none ∧ Fr n0 L ∧ h = h0
set_option maxRecDepth 65536 in
set_option maxHeartbeats 40000000 in
theorem own_sck (l : Launch) (Z : State) (a0 : Array Value) (hw : ∀ d ∈ tables_1, d.before a0 Z = true) (a n : Int32) (f : Value) (h0 : Heap) (n0 : Nat) (Z0 : n0 ≤ h0.size) (X00 : Old Z n0 h0) (h1 : ¬ a < 0) (h2 : a < n) (O4 : Sta Z Z.heap "jdk/internal/util/Preconditions" "SIOOBE_FORMATTER" "Ljava/util/function/BiFunction;" f) (hf : f.isRef = true) :
    MetFree l (⟨"java/lang/String", "checkIndex", "(II)V"⟩ : MethodName) (head1 [Jvm.Cond.code (⟨"java/lang/String", "checkIndex", "(II)V"⟩ : MethodName) jdk_42_method_155_code 2 none] ({ frames := 1, cells := 0, slots := 0, locals := 15 } : Room)) (fun a_ U_ => a_ = #[(.int a), (.int n)] ∧ Z.Warmed39 U_.vm ∧ U_.heap = h0) (fun _ _ _ _ _ => True) (fun _ U_ o_ V_ => ∃ v_ L_, o_ = .returned v_ ∧ Q_own_sck Z a n f h0 n0 v_ V_.heap L_ ∧ FrameEnd U_ o_ V_ L_ ({ frames := 1, cells := 0, slots := 0, locals := 15 } : Room).cells ({ frames := 1, cells := 0, slots := 0, locals := 15 } : Room).slots) := by
  refine MetFree.of_bodySF (plainFor_of_name own_pn5) hisR ?_
  intro p e s m args below meth c s₁ Bd hml0 hP hK
  obtain ⟨rfl, hZ, hh⟩ := hP
  have hx := Bd.exec
  have hby := Bd.bytes
  have hml : c.maxLocals = 2 := hml0
  have hown : s.vm.findClass "java/lang/String" = some m.cls := findClass_of_methodNamed Bd.named
  have hnm := (name_of_methodNamed Bd.named Bd.method).1
  have X0 : Stand p l e ({ frames := 1, cells := 0, slots := 0, locals := 15 } : Room) s m #[(.int a), (.int n)] below meth c s₁ [] 0 0 := Stand.of_body Bd
  have e0 : s₁.heap = h0 := by rw [← hh, Bd.state]; rfl
  have N0 := Fr.nil n0
  have KK0 := Keep.refl h0 ([] : List Addr)
  have cc0 : Steps p.tables e below (s₁.setTop (entryFrame m #[(.int a), (.int n)] 2)) (s₁.setTop (mkF m 0 #[.val (.int a), .val (.int n)] [])) := XT.entry rfl
  obtain ⟨S0', hS0'⟩ : ∃ S, S = (s₁.setTop (entryFrame m #[(.int a), (.int n)] 2)) := ⟨_, rfl⟩
  rw [← hS0'] at cc0
  have w_85 := hw _ (List.mem_of_getElem? (i := 85) rfl)
  have w_88 := hw _ (List.mem_of_getElem? (i := 88) rfl)
  have cc21 : Steps p.tables e below S0' (s₁.setTop (mkF m 2 #[.val (.int a), .val (.int n)] [(.int n), (.int a)])) := Steps.trans cc0 (by
    refine XS.iloadN X0.here hx rfl (own_d hby d33_0) rfl ?_
    refine XS.iloadN X0.here hx rfl (own_d hby d33_1) rfl ?_
    exact Steps.refl _)
  obtain ⟨T22, X22, e22, st22⟩ := getS2 X0 hx hZ hown (host := "") (Or.inl (hw _ (List.mem_of_getElem? (i := 84) rfl))) Via.refl e0 (O4.ext X00.2) (g := (mkF m 2 #[.val (.int a), .val (.int n)] [(.int n), (.int a)])) rfl (own_d hby d33_2)
  have cc23 : Steps p.tables e below S0' (T22.setTop (mkF m 5 #[.val (.int a), .val (.int n)] [f, (.int n), (.int a)])) := (cc21.trans (st22 _ (Steps.refl _)))
  obtain ⟨_, _, ⟨T24, L24, k24, n24⟩, -, X24, ⟨Lc24, hQ24, l24, y24, z24⟩, st24⟩ := Jvm.LawKit.callS X22 hx (y := (⟨"jdk/internal/util/Preconditions", "checkIndex", "(IILjava/util/function/BiFunction;)I"⟩ : MethodName)) hown (mvT hZ (hw _ (List.mem_of_getElem? (i := 86) rfl))) (mvT hZ (hw _ (List.mem_of_getElem? (i := 87) rfl))) (mvT hZ w_85) (mvT hZ w_88) (by decide) (backOf (W := 0) (own_ck l Z a0 hw a n f h0 n0 Z0 h1 h2 hf) hZ w_88 w_85 (by decide) (by decide)) (g := (mkF m 5 #[.val (.int a), .val (.int n)] [f, (.int n), (.int a)])) rfl (by rw [hml]; rfl) (argsL := [(.int a), (.int n), f]) (rest := []) (lenOf own_pd20 rfl) rfl (by show 2 * 0 + _ ≤ _; exact Nat.le_of_eq rfl) (own_d hby d33_5) (fun _ _ => ⟨rfl, e22, Nat.le_of_ble_eq_true rfl, Nat.le_of_ble_eq_true rfl⟩)
  dsimp only [Pt.U, Pt.locs, Pt.cells, Pt.slots] at X24 l24 y24 z24 st24 hQ24
  subst l24 y24 z24
  obtain ⟨rfl, Nq24, eq24⟩ := hQ24
  have N24 := Fr.app N0 Nq24
  have e24 : T24.heap = h0 := eq24
  have cc25 : Steps p.tables e below S0' (T24.setTop (mkF m 9 #[.val (.int a), .val (.int n)] [])) := Steps.trans (cc23.trans (st24 _ (Steps.refl _))) (by
    refine XT.pop X24.here hx rfl (own_d hby d33_8) rfl rfl ?_
    exact Steps.refl _)
  have cE := cc25
  rw [hS0'] at cE
  obtain ⟨fs, hr_, hrun, hended, hW, hsame⟩ := X24.leave (v := none) (fun _ => rfl)
  refine ⟨_, _, cE.trans (X24.returnOut hx Bd.returns (own_d hby d33_9) hr_), hrun, hended, _, _, rfl, ?_, ⟨_, rfl⟩, hW, hsame.mono (by first | decide | omega) (by first | decide | omega)⟩
  show Q_own_sck Z a n f h0 n0 _ T24.heap _
  rw [e24]
  exact ⟨rfl, N24, rfl⟩
theorem own_i2c_id {c : Int32} (h : ¬ c < 0 ∧ ¬ (255 : Int32) < c) : c.toUInt32.toUInt16.toUInt32.toInt32 = c := own_nar h
theorem d34_0 : decode jdk_43_method_2_code 0 = .ok (.iload_n 1, 1) := by decide +kernel
theorem d34_1 : decode jdk_43_method_2_code 1 = .ok (.aload_n 0, 1) := by decide +kernel
theorem d34_2 : decode jdk_43_method_2_code 2 = .ok (.arraylength, 1) := by decide +kernel
theorem d34_3 : decode jdk_43_method_2_code 3 = .ok (.invokestatic 9, 3) := by decide +kernel
theorem d34_6 : decode jdk_43_method_2_code 6 = .ok (.aload_n 0, 1) := by decide +kernel
theorem d34_7 : decode jdk_43_method_2_code 7 = .ok (.iload_n 1, 1) := by decide +kernel
theorem d34_8 : decode jdk_43_method_2_code 8 = .ok (.baload, 1) := by decide +kernel
theorem d34_9 : decode jdk_43_method_2_code 9 = .ok (.sipush 255, 3) := by decide +kernel
theorem d34_12 : decode jdk_43_method_2_code 12 = .ok (.iand, 1) := by decide +kernel
theorem d34_13 : decode jdk_43_method_2_code 13 = .ok (.i2c, 1) := by decide +kernel
theorem d34_14 : decode jdk_43_method_2_code 14 = .ok (.ireturn, 1) := by decide +kernel
def Q_own_lch (Z : State) (t : Addr) (kt : ClassId) (cs : List Int32) (i : Nat) (f : Value) (h0 : Heap) (n0 : Nat) (v : Option Value) (h : Heap) (L : List Loc) : Prop := v = some (.int (cs.getD i 0)) ∧ Fr n0 L ∧ h = h0
set_option maxRecDepth 65536 in
set_option maxHeartbeats 40000000 in
theorem own_lch (l : Launch) (Z : State) (a0 : Array Value) (hw : ∀ d ∈ tables_1, d.before a0 Z = true) (t : Addr) (kt : ClassId) (cs : List Int32) (i : Nat) (f : Value) (h0 : Heap) (n0 : Nat) (Z0 : n0 ≤ h0.size) (X00 : Old Z n0 h0) (A : Arv Z h0 t kt .byte (Int32.ofNat cs.length) (own_by cs) (.int (0 : Int32))) (hi : i < cs.length) (hl : cs.length ≤ 4000) (O4 : Sta Z Z.heap "jdk/internal/util/Preconditions" "SIOOBE_FORMATTER" "Ljava/util/function/BiFunction;" f) (hf : f.isRef = true) (hp : ∀ c ∈ cs, ¬ c < 0 ∧ ¬ (255 : Int32) < c) :
    MetFree l (⟨"java/lang/StringLatin1", "charAt", "([BI)C"⟩ : MethodName) (head1 [Jvm.Cond.code (⟨"java/lang/StringLatin1", "charAt", "([BI)C"⟩ : MethodName) jdk_43_method_2_code 2 (some .char)] ({ frames := 2, cells := 0, slots := 0, locals := 30 } : Room)) (fun a_ U_ => a_ = #[(.ref t), (.int (Int32.ofNat i))] ∧ Z.Warmed39 U_.vm ∧ U_.heap = h0) (fun _ _ _ _ _ => True) (fun _ U_ o_ V_ => ∃ v_ L_, o_ = .returned v_ ∧ Q_own_lch Z t kt cs i f h0 n0 v_ V_.heap L_ ∧ FrameEnd U_ o_ V_ L_ ({ frames := 2, cells := 0, slots := 0, locals := 30 } : Room).cells ({ frames := 2, cells := 0, slots := 0, locals := 30 } : Room).slots) := by
  refine MetFree.of_bodySF (plainFor_of_name own_pn4) hisR ?_
  intro p e s m args below meth c s₁ Bd hml0 hP hK
  obtain ⟨rfl, hZ, hh⟩ := hP
  have hx := Bd.exec
  have hby := Bd.bytes
  have hml : c.maxLocals = 2 := hml0
  have hown : s.vm.findClass "java/lang/StringLatin1" = some m.cls := findClass_of_methodNamed Bd.named
  have hnm := (name_of_methodNamed Bd.named Bd.method).1
  have X0 : Stand p l e ({ frames := 2, cells := 0, slots := 0, locals := 30 } : Room) s m #[(.ref t), (.int (Int32.ofNat i))] below meth c s₁ [] 0 0 := Stand.of_body Bd
  have e0 : s₁.heap = h0 := by rw [← hh, Bd.state]; rfl
  have N0 := Fr.nil n0
  have KK0 := Keep.refl h0 ([] : List Addr)
  have cc0 : Steps p.tables e below (s₁.setTop (entryFrame m #[(.ref t), (.int (Int32.ofNat i))] 2)) (s₁.setTop (mkF m 0 #[.val (.ref t), .val (.int (Int32.ofNat i))] [])) := XT.entry rfl
  obtain ⟨S0', hS0'⟩ : ∃ S, S = (s₁.setTop (entryFrame m #[(.ref t), (.int (Int32.ofNat i))] 2)) := ⟨_, rfl⟩
  rw [← hS0'] at cc0
  have w_7 := hw _ (List.mem_of_getElem? (i := 7) rfl)
  have w_83 := hw _ (List.mem_of_getElem? (i := 83) rfl)
  have hc : cs.getD i 0 ∈ cs := by rw [List.getD_eq_getElem?_getD, List.getElem?_eq_getElem hi]; exact List.getElem_mem _
  have cc21 : Steps p.tables e below S0' (s₁.setTop (mkF m 2 #[.val (.ref t), .val (.int (Int32.ofNat i))] [(.ref t), (.int (Int32.ofNat i))])) := Steps.trans cc0 (by
    refine XS.iloadN X0.here hx rfl (own_d hby d34_0) rfl ?_
    refine XS.aloadN X0.here hx rfl (own_d hby d34_1) rfl rfl ?_
    exact Steps.refl _)
  obtain ⟨clu22, Aru22, -, Su22, Ngu22, -, -⟩ := id A
  have cl_u22 := X0.arraylength hx (by rw [e0]; exact Aru22.1) (State.isArrayOf_alike (hZ).alike Aru22.2.1) (g := (mkF m 2 #[.val (.ref t), .val (.int (Int32.ofNat i))] [(.ref t), (.int (Int32.ofNat i))])) rfl rfl (own_d hby d34_2) _ (Steps.refl _)
  rw [len_of Su22 Ngu22] at cl_u22
  have cc23 : Steps p.tables e below S0' (s₁.setTop (mkF m 3 #[.val (.ref t), .val (.int (Int32.ofNat i))] [(.int (Int32.ofNat cs.length)), (.int (Int32.ofNat i))])) := (Steps.trans cc21 cl_u22)
  obtain ⟨_, _, ⟨T24, L24, k24, n24⟩, -, X24, ⟨Lc24, hQ24, l24, y24, z24⟩, st24⟩ := Jvm.LawKit.callS X0 hx (y := (⟨"java/lang/String", "checkIndex", "(II)V"⟩ : MethodName)) hown (mvT hZ (hw _ (List.mem_of_getElem? (i := 81) rfl))) (mvT hZ (hw _ (List.mem_of_getElem? (i := 82) rfl))) (mvT hZ w_7) (mvT hZ w_83) (by decide) (backOf (W := 0) (own_sck l Z a0 hw (Int32.ofNat i) (Int32.ofNat cs.length) f h0 n0 Z0 X00 (Int32.ofNat_not_neg (by omega)) (lt32 (by omega) hi) O4 hf) hZ w_83 w_7 (by decide) (by decide)) (g := (mkF m 3 #[.val (.ref t), .val (.int (Int32.ofNat i))] [(.int (Int32.ofNat cs.length)), (.int (Int32.ofNat i))])) rfl (by rw [hml]; rfl) (argsL := [(.int (Int32.ofNat i)), (.int (Int32.ofNat cs.length))]) (rest := []) (lenOf own_pd14 rfl) rfl (by show 2 * 0 + _ ≤ _; exact Nat.le_of_eq rfl) (own_d hby d34_3) (fun _ _ => ⟨rfl, e0, Nat.le_of_ble_eq_true rfl, Nat.le_of_ble_eq_true rfl⟩)
  dsimp only [Pt.U, Pt.locs, Pt.cells, Pt.slots] at X24 l24 y24 z24 st24 hQ24
  subst l24 y24 z24
  obtain ⟨rfl, Nq24, eq24⟩ := hQ24
  have N24 := Fr.app N0 Nq24
  have e24 : T24.heap = h0 := eq24
  have cc25 : Steps p.tables e below S0' (T24.setTop (mkF m 8 #[.val (.ref t), .val (.int (Int32.ofNat i))] [(.int (Int32.ofNat i)), (.ref t)])) := Steps.trans (cc23.trans (st24 _ (Steps.refl _))) (by
    refine XS.aloadN X24.here hx rfl (own_d hby d34_6) rfl rfl ?_
    refine XS.iloadN X24.here hx rfl (own_d hby d34_7) rfl ?_
    exact Steps.refl _)
  obtain ⟨clu26, Aru26, qu26, Su26, Ngu26, Hsu26, Gsu26⟩ := id A
  have inu26 : ¬ (Int32.ofNat i < 0 ∨ clu26.slots.size ≤ (Int32.ofNat i).toNatClampNeg) := inb_of Su26 ⟨Int32.ofNat_not_neg (by omega), lt32 (by omega) hi⟩
  have atu26 : clu26.slots[(Int32.ofNat i).toNatClampNeg]? = some (.int (StrChars.lo8 (cs.getD i 0))) := Hsu26.at inu26 (by rw [n32 (by omega)]; simp [own_by, List.getD_eq_getElem?_getD, List.getElem?_eq_getElem hi, StrChars.lo8])
  have cc27 : Steps p.tables e below S0' (T24.setTop (mkF m 14 #[.val (.ref t), .val (.int (Int32.ofNat i))] [(.int (((StrChars.lo8 (cs.getD i 0)) &&& (255 : Int32)).toUInt32.toUInt16.toUInt32.toInt32))])) := Steps.trans cc25 (by
    refine X24.baloadBytes hx (j := Int32.ofNat i) (v := (.int (StrChars.lo8 (cs.getD i 0)))) (by rw [e24]; exact Aru26.1) (State.isArrayOf_alike (hZ).alike Aru26.2.1) Aru26.2.2 inu26 atu26 (g := (mkF m 8 #[.val (.ref t), .val (.int (Int32.ofNat i))] [(.int (Int32.ofNat i)), (.ref t)])) rfl rfl (own_d hby d34_8) _ ?_
    refine sipushV X24.here hx rfl 255 (own_d hby d34_9) (by decide) ?_
    refine XS.iand X24.here hx rfl (own_d hby d34_12) rfl ?_
    refine XT.i2c X24.here hx rfl (own_d hby d34_13) rfl ?_
    exact Steps.refl _)
  have cz28 : Steps p.tables e below S0' (T24.setTop (mkF m 14 #[.val (.ref t), .val (.int (Int32.ofNat i))] [(.int (cs.getD i 0))])) := by
    have := cc27
    rw [StrChars.lo8_mask (hp _ hc).1 (hp _ hc).2, own_i2c_id (hp _ hc)] at this
    exact this
  have cE := cz28
  rw [hS0'] at cE
  obtain ⟨fs, hr_, hrun, hended, hW, hsame⟩ := X24.leave (v := some (.int (cs.getD i 0))) (fun h => by rw [Bd.returns] at h; cases h)
  refine ⟨_, _, cE.trans (X24.ireturnOut hx Bd.returns (StrChars.narrow_ch (own_up _ hp _ hc).1 (own_up _ hp _ hc).2) (by simp) (own_d hby d34_14) hr_), hrun, hended, _, _, rfl, ?_, ⟨_, rfl⟩, hW, hsame.mono (by first | decide | omega) (by first | decide | omega)⟩
  show Q_own_lch Z t kt cs i f h0 n0 _ T24.heap _
  rw [e24]
  exact ⟨rfl, N24, rfl⟩
theorem d35_0 : decode jdk_42_method_56_code 0 = .ok (.aload_n 0, 1) := by decide +kernel
theorem d35_1 : decode jdk_42_method_56_code 1 = .ok (.invokevirtual 492, 3) := by decide +kernel
theorem d35_4 : decode jdk_42_method_56_code 4 = .ok (.ifCond .eq 12, 3) := by decide +kernel
theorem d35_7 : decode jdk_42_method_56_code 7 = .ok (.aload_n 0, 1) := by decide +kernel
theorem d35_8 : decode jdk_42_method_56_code 8 = .ok (.getfield 9, 3) := by decide +kernel
theorem d35_11 : decode jdk_42_method_56_code 11 = .ok (.iload_n 1, 1) := by decide +kernel
theorem d35_12 : decode jdk_42_method_56_code 12 = .ok (.invokestatic 495, 3) := by decide +kernel
theorem d35_15 : decode jdk_42_method_56_code 15 = .ok (.ireturn, 1) := by decide +kernel
def Q_own_chl (Z : State) (x : Addr) (cs : List Int32) (i : Nat) (z : Int32) (f : Value) (h0 : Heap) (n0 : Nat) (v : Option Value) (h : Heap) (L : List Loc) : Prop := v = some (.int (cs.getD i 0)) ∧ Fr n0 L ∧ h = h0
set_option maxRecDepth 65536 in
set_option maxHeartbeats 40000000 in
theorem own_chl (l : Launch) (Z : State) (a0 : Array Value) (hw : ∀ d ∈ tables_1, d.before a0 Z = true) (x : Addr) (cs : List Int32) (i : Nat) (z : Int32) (f : Value) (h0 : Heap) (n0 : Nat) (Z0 : n0 ≤ h0.size) (X00 : Old Z n0 h0) (O2 : Sta Z Z.heap "java/lang/String" "COMPACT_STRINGS" "Z" (.int z)) (P5 : ¬ z = 0) (O4 : Sta Z Z.heap "jdk/internal/util/Preconditions" "SIOOBE_FORMATTER" "Ljava/util/function/BiFunction;" f) (hf : f.isRef = true) (Hx : own_Lat Z h0 x cs) (hi : i < cs.length) :
    MetFree l (⟨"java/lang/String", "charAt", "(I)C"⟩ : MethodName) (head1 [Jvm.Cond.code (⟨"java/lang/String", "charAt", "(I)C"⟩ : MethodName) jdk_42_method_56_code 2 (some .char)] ({ frames := 4, cells := 0, slots := 0, locals := 60 } : Room)) (fun a_ U_ => a_ = #[(.ref x), (.int (Int32.ofNat i))] ∧ Z.Warmed39 U_.vm ∧ U_.heap = h0) (fun _ _ _ _ _ => True) (fun _ U_ o_ V_ => ∃ v_ L_, o_ = .returned v_ ∧ Q_own_chl Z x cs i z f h0 n0 v_ V_.heap L_ ∧ FrameEnd U_ o_ V_ L_ ({ frames := 4, cells := 0, slots := 0, locals := 60 } : Room).cells ({ frames := 4, cells := 0, slots := 0, locals := 60 } : Room).slots) := by
  refine MetFree.of_bodySF (plainFor_of_name own_pn5) hisR ?_
  intro p e s m args below meth c s₁ Bd hml0 hP hK
  obtain ⟨rfl, hZ, hh⟩ := hP
  have hx := Bd.exec
  have hby := Bd.bytes
  have hml : c.maxLocals = 2 := hml0
  have hown : s.vm.findClass "java/lang/String" = some m.cls := findClass_of_methodNamed Bd.named
  have hnm := (name_of_methodNamed Bd.named Bd.method).1
  have X0 : Stand p l e ({ frames := 4, cells := 0, slots := 0, locals := 60 } : Room) s m #[(.ref x), (.int (Int32.ofNat i))] below meth c s₁ [] 0 0 := Stand.of_body Bd
  have e0 : s₁.heap = h0 := by rw [← hh, Bd.state]; rfl
  have N0 := Fr.nil n0
  have KK0 := Keep.refl h0 ([] : List Addr)
  have cc0 : Steps p.tables e below (s₁.setTop (entryFrame m #[(.ref x), (.int (Int32.ofNat i))] 2)) (s₁.setTop (mkF m 0 #[.val (.ref x), .val (.int (Int32.ofNat i))] [])) := XT.entry rfl
  obtain ⟨S0', hS0'⟩ : ∃ S, S = (s₁.setTop (entryFrame m #[(.ref x), (.int (Int32.ofNat i))] 2)) := ⟨_, rfl⟩
  rw [← hS0'] at cc0
  have w_12 := hw _ (List.mem_of_getElem? (i := 12) rfl)
  have w_76 := hw _ (List.mem_of_getElem? (i := 76) rfl)
  have w_80 := hw _ (List.mem_of_getElem? (i := 80) rfl)
  have hc : cs.getD i 0 ∈ cs := by rw [List.getD_eq_getElem?_getD, List.getElem?_eq_getElem hi]; exact List.getElem_mem _
  obtain ⟨Ex, Cx, px, lx, tx, kx, Vx, Ax⟩ := Hx
  have cc21 : Steps p.tables e below S0' (s₁.setTop (mkF m 1 #[.val (.ref x), .val (.int (Int32.ofNat i))] [(.ref x)])) := Steps.trans cc0 (by
    refine XS.aloadN X0.here hx rfl (own_d hby d35_0) rfl rfl ?_
    exact Steps.refl _)
  obtain ⟨cq22, kq22, qa22, qb22, qc22⟩ := isOf hZ e0 Ex
  obtain ⟨_, _, ⟨T22, L22, k22, n22⟩, -, X22, ⟨Lc22, hQ22, l22, y22, z22⟩, st22⟩ := X0.virtualBack hx (y := (⟨"java/lang/String", "isLatin1", "()Z"⟩ : MethodName)) (z := (⟨"java/lang/String", "isLatin1", "()Z"⟩ : MethodName)) hown (mvT hZ (hw _ (List.mem_of_getElem? (i := 73) rfl))) (mvT hZ (hw _ (List.mem_of_getElem? (i := 74) rfl))) (notFace_of_selects (args := #[]) (mvT hZ w_76)) (mvT hZ w_76) (mvT hZ (hw _ (List.mem_of_getElem? (i := 75) rfl))) (by decide) (backOf (W := 0) (own_isL l Z a0 hw x 0 z h0 n0 Z0 X00 O2 P5 Cx (Or.inl rfl)) hZ (hw _ (List.mem_of_getElem? (i := 77) rfl)) (hw _ (List.mem_of_getElem? (i := 7) rfl)) (by decide) (by decide)) qa22 qc22 (g := (mkF m 1 #[.val (.ref x), .val (.int (Int32.ofNat i))] [(.ref x)])) rfl (by rw [hml]; rfl) (Steps.refl _) (argsL := []) (rest := []) (lenOf own_pd5 rfl) rfl (by show 2 * 0 + _ ≤ _; exact Nat.le_of_eq rfl) (own_d hby d35_1) (fun _ _ => ⟨rfl, e0, Nat.le_of_ble_eq_true rfl, Nat.le_of_ble_eq_true rfl⟩)
  dsimp only [Pt.U, Pt.locs, Pt.cells, Pt.slots] at X22 l22 y22 z22 st22 hQ22
  subst l22 y22 z22
  obtain ⟨rfl, Nq22, eq22⟩ := hQ22
  have N22 := Fr.app N0 Nq22
  have e22 : T22.heap = h0 := eq22
  have cc23 : Steps p.tables e below S0' (T22.setTop (mkF m 8 #[.val (.ref x), .val (.int (Int32.ofNat i))] [(.ref x)])) := Steps.trans (Steps.trans cc21 st22) (by
    refine XS.ifNo X22.here hx rfl (own_d hby d35_4) rfl (i0_eq_f (by decide)) ?_
    refine XS.aloadN X22.here hx rfl (own_d hby d35_7) rfl rfl ?_
    exact Steps.refl _)
  obtain ⟨T24, X24, e24, st24⟩ := getF X22 hx hZ hown (host := "") (Or.inl (hw _ (List.mem_of_getElem? (i := 27) rfl))) Via.refl e22 Vx (g := (mkF m 8 #[.val (.ref x), .val (.int (Int32.ofNat i))] [(.ref x)])) rfl rfl (own_d hby d35_8)
  have cc25 : Steps p.tables e below S0' (T24.setTop (mkF m 12 #[.val (.ref x), .val (.int (Int32.ofNat i))] [(.int (Int32.ofNat i)), (.ref tx)])) := Steps.trans (cc23.trans (st24 _ (Steps.refl _))) (by
    refine XS.iloadN X24.here hx rfl (own_d hby d35_11) rfl ?_
    exact Steps.refl _)
  obtain ⟨_, _, ⟨T26, L26, k26, n26⟩, -, X26, ⟨Lc26, hQ26, l26, y26, z26⟩, st26⟩ := Jvm.LawKit.callS X24 hx (y := (⟨"java/lang/StringLatin1", "charAt", "([BI)C"⟩ : MethodName)) hown (mvT hZ (hw _ (List.mem_of_getElem? (i := 78) rfl))) (mvT hZ (hw _ (List.mem_of_getElem? (i := 79) rfl))) (mvT hZ w_12) (mvT hZ w_80) (by decide) (backOf (W := 0) (own_lch l Z a0 hw tx kx cs i f h0 n0 Z0 X00 Ax hi lx O4 hf px) hZ w_80 w_12 (by decide) (by decide)) (g := (mkF m 12 #[.val (.ref x), .val (.int (Int32.ofNat i))] [(.int (Int32.ofNat i)), (.ref tx)])) rfl (by rw [hml]; rfl) (argsL := [(.ref tx), (.int (Int32.ofNat i))]) (rest := []) (lenOf own_pd21 rfl) rfl (by show 2 * 0 + _ ≤ _; exact Nat.le_of_eq rfl) (own_d hby d35_12) (fun _ _ => ⟨rfl, e24, Nat.le_of_ble_eq_true rfl, Nat.le_of_ble_eq_true rfl⟩)
  dsimp only [Pt.U, Pt.locs, Pt.cells, Pt.slots] at X26 l26 y26 z26 st26 hQ26
  subst l26 y26 z26
  obtain ⟨rfl, Nq26, eq26⟩ := hQ26
  have N26 := Fr.app N22 Nq26
  have e26 : T26.heap = h0 := eq26
  have cc27 : Steps p.tables e below S0' (T26.setTop (mkF m 15 #[.val (.ref x), .val (.int (Int32.ofNat i))] [(.int (cs.getD i 0))])) := (cc25.trans (st26 _ (Steps.refl _)))
  have cE := cc27
  rw [hS0'] at cE
  obtain ⟨fs, hr_, hrun, hended, hW, hsame⟩ := X26.leave (v := some (.int (cs.getD i 0))) (fun h => by rw [Bd.returns] at h; cases h)
  refine ⟨_, _, cE.trans (X26.ireturnOut hx Bd.returns (StrChars.narrow_ch (own_up _ px _ hc).1 (own_up _ px _ hc).2) (by simp) (own_d hby d35_15) hr_), hrun, hended, _, _, rfl, ?_, ⟨_, rfl⟩, hW, hsame.mono (by first | decide | omega) (by first | decide | omega)⟩
  show Q_own_chl Z x cs i z f h0 n0 _ T26.heap _
  rw [e26]
  exact ⟨rfl, N26, rfl⟩
theorem d36_0 : decode prog_27_method_4_code 0 = .ok (.new 79, 3) := by decide +kernel
theorem d36_3 : decode prog_27_method_4_code 3 = .ok (.dup, 1) := by decide +kernel
theorem d36_4 : decode prog_27_method_4_code 4 = .ok (.invokespecial 81, 3) := by decide +kernel
theorem d36_7 : decode prog_27_method_4_code 7 = .ok (.aload_n 0, 1) := by decide +kernel
theorem d36_8 : decode prog_27_method_4_code 8 = .ok (.getfield 13, 3) := by decide +kernel
theorem d36_11 : decode prog_27_method_4_code 11 = .ok (.ifCond .eq 8, 3) := by decide +kernel
theorem d36_14 : decode prog_27_method_4_code 14 = .ok (.ldc 82, 2) := by decide +kernel
theorem d36_16 : decode prog_27_method_4_code 16 = .ok (.goto 5, 3) := by decide +kernel
theorem d36_19 : decode prog_27_method_4_code 19 = .ok (.ldc 84, 2) := by decide +kernel
theorem d36_21 : decode prog_27_method_4_code 21 = .ok (.invokevirtual 86, 3) := by decide +kernel
theorem d36_24 : decode prog_27_method_4_code 24 = .ok (.aload_n 0, 1) := by decide +kernel
theorem d36_25 : decode prog_27_method_4_code 25 = .ok (.getfield 7, 3) := by decide +kernel
theorem d36_28 : decode prog_27_method_4_code 28 = .ok (.invokevirtual 63, 3) := by decide +kernel
theorem d36_31 : decode prog_27_method_4_code 31 = .ok (.invokevirtual 86, 3) := by decide +kernel
theorem d36_34 : decode prog_27_method_4_code 34 = .ok (.ldc 90, 2) := by decide +kernel
theorem d36_36 : decode prog_27_method_4_code 36 = .ok (.invokevirtual 86, 3) := by decide +kernel
theorem d36_39 : decode prog_27_method_4_code 39 = .ok (.aload_n 0, 1) := by decide +kernel
theorem d36_40 : decode prog_27_method_4_code 40 = .ok (.getfield 17, 3) := by decide +kernel
theorem d36_43 : decode prog_27_method_4_code 43 = .ok (.invokevirtual 63, 3) := by decide +kernel
theorem d36_46 : decode prog_27_method_4_code 46 = .ok (.invokevirtual 86, 3) := by decide +kernel
theorem d36_49 : decode prog_27_method_4_code 49 = .ok (.aload_n 0, 1) := by decide +kernel
theorem d36_50 : decode prog_27_method_4_code 50 = .ok (.getfield 20, 3) := by decide +kernel
theorem d36_53 : decode prog_27_method_4_code 53 = .ok (.ifCond .eq 8, 3) := by decide +kernel
theorem d36_56 : decode prog_27_method_4_code 56 = .ok (.ldc 92, 2) := by decide +kernel
theorem d36_58 : decode prog_27_method_4_code 58 = .ok (.goto 5, 3) := by decide +kernel
theorem d36_61 : decode prog_27_method_4_code 61 = .ok (.ldc 94, 2) := by decide +kernel
theorem d36_63 : decode prog_27_method_4_code 63 = .ok (.invokevirtual 86, 3) := by decide +kernel
theorem d36_66 : decode prog_27_method_4_code 66 = .ok (.invokevirtual 96, 3) := by decide +kernel
theorem d36_69 : decode prog_27_method_4_code 69 = .ok (.areturn, 1) := by decide +kernel
def Q_own_rts (Z : State) (g a b x y : Addr) (li hi : Int32) (cs ds : List Int32) (z : Int32) (h0 : Heap) (n0 : Nat) (v : Option Value) (h : Heap) (L : List Loc) : Prop := ∃ s1 : Addr, v = some (.ref s1) ∧ Fr n0 L ∧ Keep h0 h [] ∧ own_Lat Z h s1 (((if li = 0 then 40 else 91) :: cs) ++ (44 :: 32 :: ds) ++ [if hi = 0 then 41 else 93])
set_option maxRecDepth 65536 in
set_option maxHeartbeats 40000000 in
theorem own_rts (l : Launch) (Z : State) (a0 : Array Value) (hw : ∀ d ∈ tables_1, d.before a0 Z = true) (g a b x y : Addr) (li hi : Int32) (cs ds : List Int32) (z : Int32) (h0 : Heap) (n0 : Nat) (Z0 : n0 ≤ h0.size) (X00 : Old Z n0 h0) (O2 : Sta Z Z.heap "java/lang/String" "COMPACT_STRINGS" "Z" (.int z)) (P5 : ¬ z = 0) (F1 : Fld Z h0 g "com/example/firm_roles/firmroles/RoleRange" "low" "Lcom/example/firm_roles/firmroles/Name;" (.ref a)) (F2 : Fld Z h0 g "com/example/firm_roles/firmroles/RoleRange" "lowIncluded" "Z" (.int li)) (F3 : Fld Z h0 g "com/example/firm_roles/firmroles/RoleRange" "high" "Lcom/example/firm_roles/firmroles/Name;" (.ref b)) (F4 : Fld Z h0 g "com/example/firm_roles/firmroles/RoleRange" "highIncluded" "Z" (.int hi)) (Ea : Exa Z h0 a "com/example/firm_roles/firmroles/Name") (Fa : Fld Z h0 a "com/example/firm_roles/firmroles/Name" "value" "Ljava/lang/String;" (.ref x)) (Eb : Exa Z h0 b "com/example/firm_roles/firmroles/Name") (Fb : Fld Z h0 b "com/example/firm_roles/firmroles/Name" "value" "Ljava/lang/String;" (.ref y)) (Hx : own_Lat Z h0 x cs) (Hy : own_Lat Z h0 y ds) (nx : cs.length ≤ 2) (ny : ds.length ≤ 2) :
    MetFree l (⟨"com/example/firm_roles/firmroles/RoleRange", "toString", "()Ljava/lang/String;"⟩ : MethodName) (head1 [Jvm.Cond.code (⟨"com/example/firm_roles/firmroles/RoleRange", "toString", "()Ljava/lang/String;"⟩ : MethodName) prog_27_method_4_code 1 (some (.object "java/lang/String"))] ({ frames := 6, cells := 20, slots := 120, locals := 130 } : Room)) (fun a_ U_ => a_ = #[(.ref g)] ∧ Z.Warmed39 U_.vm ∧ U_.heap = h0 ∧ CHv Z EL U_.vm h0) (fun _ _ _ _ _ => True) (fun _ U_ o_ V_ => ∃ v_ L_, o_ = .returned v_ ∧ Q_own_rts Z g a b x y li hi cs ds z h0 n0 v_ V_.heap L_ ∧ CHr Z EL U_.vm U_.heap V_.vm V_.heap ∧ ReturnedEndW U_ o_ V_ L_ ({ frames := 6, cells := 20, slots := 120, locals := 130 } : Room).cells ({ frames := 6, cells := 20, slots := 120, locals := 130 } : Room).slots) := by
  refine MetFree.of_bodySF (plainFor_of_name own_pn6) hisR ?_
  intro p e s m args below meth c s₁ Bd hml0 hP hK
  obtain ⟨rfl, hZ, hh, hCH⟩ := hP
  have hx := Bd.exec
  have hby := Bd.bytes
  have hml : c.maxLocals = 1 := hml0
  have hown : s.vm.findClass "com/example/firm_roles/firmroles/RoleRange" = some m.cls := findClass_of_methodNamed Bd.named
  have hnm := (name_of_methodNamed Bd.named Bd.method).1
  have X0 : Stand p l e ({ frames := 6, cells := 20, slots := 120, locals := 130 } : Room) (s.setVm s.vm) m #[(.ref g)] below meth c s₁ [] 0 0 := Stand.of_body Bd
  have e0 : s₁.heap = h0 := by rw [← hh, Bd.state]; rfl
  have N0 := Fr.nil n0
  have KK0 := Keep.refl h0 ([] : List Addr)
  have C0 := CHr.refl hCH
  have hS0 : s.Since s.vm 0 := (State.WarmedH.refl s).since 0
  have hk0 : 0 ≤ h0.size := Nat.zero_le _
  have hEL : EW Z a0 EL := own_EW hw
  have cc0 : Steps p.tables e below (s₁.setTop (entryFrame m #[(.ref g)] 1)) (s₁.setTop (mkF m 0 #[.val (.ref g)] [])) := XT.entry rfl
  obtain ⟨S0', hS0'⟩ : ∃ S, S = (s₁.setTop (entryFrame m #[(.ref g)] 1)) := ⟨_, rfl⟩
  rw [← hS0'] at cc0
  have w_36 := hw _ (List.mem_of_getElem? (i := 36) rfl)
  have w_98 := hw _ (List.mem_of_getElem? (i := 98) rfl)
  have w_102 := hw _ (List.mem_of_getElem? (i := 102) rfl)
  have w_104 := hw _ (List.mem_of_getElem? (i := 104) rfl)
  have w_113 := hw _ (List.mem_of_getElem? (i := 113) rfl)
  have w_116 := hw _ (List.mem_of_getElem? (i := 116) rfl)
  have w_130 := hw _ (List.mem_of_getElem? (i := 130) rfl)
  have w_131 := hw _ (List.mem_of_getElem? (i := 131) rfl)
  have w_132 := hw _ (List.mem_of_getElem? (i := 132) rfl)
  have w_133 := hw _ (List.mem_of_getElem? (i := 133) rfl)
  have w_134 := hw _ (List.mem_of_getElem? (i := 134) rfl)
  have w_168 := hw _ (List.mem_of_getElem? (i := 168) rfl)
  have w_169 := hw _ (List.mem_of_getElem? (i := 169) rfl)
  have w_170 := hw _ (List.mem_of_getElem? (i := 170) rfl)
  have w_171 := hw _ (List.mem_of_getElem? (i := 171) rfl)
  have w_172 := hw _ (List.mem_of_getElem? (i := 172) rfl)
  have w_173 := hw _ (List.mem_of_getElem? (i := 173) rfl)
  have w_174 := hw _ (List.mem_of_getElem? (i := 174) rfl)
  have w_175 := hw _ (List.mem_of_getElem? (i := 175) rfl)
  have w_176 := hw _ (List.mem_of_getElem? (i := 176) rfl)
  have w_177 := hw _ (List.mem_of_getElem? (i := 177) rfl)
  have w_178 := hw _ (List.mem_of_getElem? (i := 178) rfl)
  have w_179 := hw _ (List.mem_of_getElem? (i := 179) rfl)
  have w_241 := hw _ (List.mem_of_getElem? (i := 241) rfl)
  obtain ⟨Ex, Cx, px, lx, tx, kx, Vx, Ax⟩ := Hx
  obtain ⟨Ey, Cy, py, ly, ty, ky, Vy, Ay⟩ := Hy
  obtain ⟨T21, h21, X21, e21, E21, A21, D21, -, st21⟩ := newO X0 hx hZ hown (hw _ (List.mem_of_getElem? (i := 111) rfl)) (hw _ (List.mem_of_getElem? (i := 112) rfl)) w_113 e0 (g := (mkF m 0 #[.val (.ref g)] [])) rfl (own_d hby d36_0) (by decide) (by decide)
  obtain ⟨sb, g_sb⟩ : ∃ z, z = h0.size := ⟨_, rfl⟩
  rw [← g_sb] at A21 D21 st21
  have K21 := (Keep.refl h0 ([] : List Addr)).ext E21
  have b_sb : h0.size ≤ sb := (Nat.le_of_eq g_sb.symm)
  have gn_sb : n0 ≤ sb := Nat.le_trans Z0 b_sb
  have s0_sb : h0.size ≤ sb := Nat.le_trans KK0.1 b_sb
  have ne_g_sb : g ≠ sb := Nat.ne_of_lt (Nat.lt_of_lt_of_le F1.lt b_sb)
  have ne_a_sb : a ≠ sb := Nat.ne_of_lt (Nat.lt_of_lt_of_le Ea.lt b_sb)
  have ne_b_sb : b ≠ sb := Nat.ne_of_lt (Nat.lt_of_lt_of_le Eb.lt b_sb)
  have ne_x_sb : x ≠ sb := Nat.ne_of_lt (Nat.lt_of_lt_of_le Ex.lt b_sb)
  have ne_tx_sb : tx ≠ sb := Nat.ne_of_lt (Nat.lt_of_lt_of_le Ax.lt b_sb)
  have ne_y_sb : y ≠ sb := Nat.ne_of_lt (Nat.lt_of_lt_of_le Ey.lt b_sb)
  have ne_ty_sb : ty ≠ sb := Nat.ne_of_lt (Nat.lt_of_lt_of_le Ay.lt b_sb)
  have D22 := CHr.ext E21 C0.1
  have C23 := C0.trans D22
  have sf_sb : Safe Z EL s.vm h21 sb := Safe.ext E21 C0.1 (Safe.new b_sb)
  have KK1 : Keep h0 h21 ([] : List Addr) := KK0.trans K21 all0
  have Zs1 : n0 ≤ h21.size := Nat.le_trans Z0 K21.1
  have F_value_sb : Fld Z h21 sb "java/lang/AbstractStringBuilder" "value" "[B" .null := D21 (Or.inl (hw _ (List.mem_of_getElem? (i := 126) rfl))) (ty := (.array .byte)) (by decide)
  have F_coder_sb : Fld Z h21 sb "java/lang/AbstractStringBuilder" "coder" "B" (.int (0 : Int32)) := D21 (Or.inl (hw _ (List.mem_of_getElem? (i := 128) rfl))) (ty := .byte) (by decide)
  have F_count_sb : Fld Z h21 sb "java/lang/AbstractStringBuilder" "count" "I" (.int (0 : Int32)) := D21 (Or.inl (hw _ (List.mem_of_getElem? (i := 142) rfl))) (ty := .int) (by decide)
  have cc25 : Steps p.tables e below S0' (T21.setTop (mkF m 4 #[.val (.ref g)] [(.ref sb), (.ref sb)])) := Steps.trans (cc0.trans (st21 _ (Steps.refl _))) (by
    refine XS.dup X21.here hx rfl (own_d hby d36_3) rfl rfl ?_
    exact Steps.refl _)
  have fa24 : Old Z n0 h21 := (X00.keep K21 all0)
  obtain ⟨_, _, ⟨T26, L26, k26, n26⟩, -, X26, ⟨Lc26, hQ26, l26, y26, z26⟩, st26⟩ := X21.specialBack hx (y := (⟨"java/lang/StringBuilder", "<init>", "()V"⟩ : MethodName)) rfl hown (mvT hZ (hw _ (List.mem_of_getElem? (i := 114) rfl))) (mvT hZ (hw _ (List.mem_of_getElem? (i := 115) rfl))) (mvT hZ w_116) (by decide) (backOf (W := 1) (own_sb0 l Z a0 hw sb z h21 n0 Zs1 fa24 O2 P5 A21 F_value_sb F_coder_sb F_count_sb gn_sb) hZ w_116 w_113 (by decide) (by decide)) (g := (mkF m 4 #[.val (.ref g)] [(.ref sb), (.ref sb)])) rfl (by rw [hml]; rfl) (Steps.refl _) (a := sb) (argsL := []) (rest := [(.ref sb)]) (lenOf own_pd3 rfl) rfl (by show 2 * 0 + _ ≤ _; exact Nat.le_of_eq rfl) (own_d hby d36_4) (fun _ _ => ⟨rfl, e21, Nat.le_of_ble_eq_true rfl, Nat.le_of_ble_eq_true rfl⟩)
  dsimp only [Pt.U, Pt.locs, Pt.cells, Pt.slots] at X26 l26 y26 z26 st26 hQ26
  subst l26 y26 z26
  obtain ⟨t, kt, rfl, Nq26, Kq26, s0q26, f126, f226, f326, f426⟩ := hQ26
  have N26 := Fr.app N0 Nq26
  have b_t : h21.size ≤ t := s0q26
  have gn_t : n0 ≤ t := Nat.le_trans Zs1 b_t
  have s0_t : h0.size ≤ t := Nat.le_trans KK1.1 b_t
  have fa27 : Fld Z h21 g "com/example/firm_roles/firmroles/RoleRange" "low" "Lcom/example/firm_roles/firmroles/Name;" (.ref a) := (F1.keep K21 nin0)
  have ne_g_t : g ≠ t := Nat.ne_of_lt (Nat.lt_of_lt_of_le fa27.lt b_t)
  have fa28 : Exa Z h21 a "com/example/firm_roles/firmroles/Name" := (Ea.keep K21)
  have ne_a_t : a ≠ t := Nat.ne_of_lt (Nat.lt_of_lt_of_le fa28.lt b_t)
  have fa29 : Exa Z h21 b "com/example/firm_roles/firmroles/Name" := (Eb.keep K21)
  have ne_b_t : b ≠ t := Nat.ne_of_lt (Nat.lt_of_lt_of_le fa29.lt b_t)
  have fa30 : Exa Z h21 x "java/lang/String" := (Ex.keep K21)
  have ne_x_t : x ≠ t := Nat.ne_of_lt (Nat.lt_of_lt_of_le fa30.lt b_t)
  have fa31 : Arv Z h21 tx kx .byte (Int32.ofNat cs.length) (own_by cs) (.int (0 : Int32)) := (Ax.keep K21 nin0)
  have ne_tx_t : tx ≠ t := Nat.ne_of_lt (Nat.lt_of_lt_of_le fa31.lt b_t)
  have fa32 : Exa Z h21 y "java/lang/String" := (Ey.keep K21)
  have ne_y_t : y ≠ t := Nat.ne_of_lt (Nat.lt_of_lt_of_le fa32.lt b_t)
  have fa33 : Arv Z h21 ty ky .byte (Int32.ofNat ds.length) (own_by ds) (.int (0 : Int32)) := (Ay.keep K21 nin0)
  have ne_ty_t : ty ≠ t := Nat.ne_of_lt (Nat.lt_of_lt_of_le fa33.lt b_t)
  have ne_sb_t : sb ≠ t := Nat.ne_of_lt (Nat.lt_of_lt_of_le A21.lt b_t)
  have D34 := CHr.keep Kq26 (sfS sf_sb sf0) C23.1
  have C35 := C23.trans D34
  have sf_t := Safe.keep Kq26 (sfS sf_sb sf0) C23.1 (Safe.new b_t)
  have KK2 : Keep h0 T26.heap ([] : List Addr) := KK1.trans Kq26 (allS (Or.inr s0_sb) all0)
  have Zs2 : n0 ≤ T26.heap.size := Nat.le_trans Zs1 Kq26.1
  have e26 : T26.heap = T26.heap := rfl
  have cc37 : Steps p.tables e below S0' (T26.setTop (mkF m 7 #[.val (.ref g)] [(.ref sb)])) := (Steps.trans cc25 st26)
  have fa36 : Exa Z T26.heap sb "java/lang/StringBuilder" := (A21.keep Kq26)
  have cc39 : Steps p.tables e below S0' (T26.setTop (mkF m 8 #[.val (.ref g)] [(.ref g), (.ref sb)])) := Steps.trans cc37 (by
    refine XS.aloadN X26.here hx rfl (own_d hby d36_7) rfl rfl ?_
    exact Steps.refl _)
  have fa38 : Fld Z T26.heap g "com/example/firm_roles/firmroles/RoleRange" "lowIncluded" "Z" (.int li) := ((F2.keep K21 nin0).keep Kq26 (ninS ne_g_sb nin0))
  obtain ⟨T40, X40, e40, st40⟩ := getF X26 hx hZ hown (host := "") (Or.inl (hw _ (List.mem_of_getElem? (i := 100) rfl))) Via.refl e26 fa38 (g := (mkF m 8 #[.val (.ref g)] [(.ref g), (.ref sb)])) rfl rfl (own_d hby d36_8)
  have cc41 : Steps p.tables e below S0' (T40.setTop (mkF m 11 #[.val (.ref g)] [(.int li), (.ref sb)])) := (cc39.trans (st40 _ (Steps.refl _)))
  by_cases ql : li = 0
  · skip
    have cc42 : Steps p.tables e below S0' (T40.setTop (mkF m 19 #[.val (.ref g)] [(.ref sb)])) := Steps.trans cc41 (by
      refine XS.ifYes X40.here hx rfl (pc0 := 11) rfl (own_d hby d36_11) rfl (i0_eq_t ql) (by decide) rfl ?_
      exact Steps.refl _)
    obtain ⟨q1, T43, h43, k43, tq1, kb43, X43, e43, E43, hS43, hk43, hZ43, hown43, Ex43, Fc43, Fv43, Ar43, lta43, ltb43, CH43, -, sfn43, st43⟩ := ldcCH X40 hx hZ hown (hw _ (List.mem_of_getElem? (i := 129) rfl)) (fun a ha => hw a ((by decide +kernel : ∀ a ∈ Bundle.stringAtoms, a ∈ tables_1) a ha)) e40 hS0 (Nat.le_trans (Nat.le_trans hk0 K21.1) Kq26.1) hEL (by decide +kernel) C35.1 (vs := [(.int (40 : Int32))]) (z := 1) (by decide +kernel) (by decide) (by decide) (g := (mkF m 19 #[.val (.ref g)] [(.ref sb)])) rfl (own_d hby d36_19) (n := 8) (by decide) (by decide) (by decide) (by decide)
    have K43 := (Keep.refl T26.heap ([] : List Addr)).ext E43
    have C43 := C35.trans CH43
    have KK3 : Keep h0 h43 ([] : List Addr) := KK2.trans K43 all0
    have Zs3 : n0 ≤ h43.size := Nat.le_trans Zs2 K43.1
    have sf44 := D34.safe A21.lt sf_sb
    have lt45 := Nat.lt_of_lt_of_le A21.lt Kq26.1
    have sf46 := CH43.safe lt45 sf44
    have lt47 := Nat.lt_of_lt_of_le lt45 K43.1
    have nl43_sb := sfn43 _ sf46
    have sf48 := CH43.safe f426.lt sf_t
    have lt49 := Nat.lt_of_lt_of_le f426.lt K43.1
    have nl43_t := sfn43 _ sf48
    have cc51 : Steps p.tables e below S0' (T43.setTop (mkF m 21 #[.val (.ref g)] [(.ref q1), (.ref sb)])) := (cc42.trans (st43 _ (Steps.refl _)))
    have fa50 : Old Z n0 h43 := ((fa24.keep Kq26 (allS gn_sb all0)).keep K43 all0)
    have fa52 : Exa Z h43 sb "java/lang/StringBuilder" := (fa36.keep K43)
    have fa53 : Fld Z h43 sb "java/lang/AbstractStringBuilder" "coder" "B" (.int (0 : Int32)) := (f126.keep K43 nin0)
    have fa54 : Fld Z h43 sb "java/lang/AbstractStringBuilder" "count" "I" (.int (Int32.ofNat ([] : List Int32).length)) := (f226.keep K43 nin0)
    have fa55 : Fld Z h43 sb "java/lang/AbstractStringBuilder" "value" "[B" (.ref t) := (f326.keep K43 nin0)
    have fa56 : Arv Z h43 t kt .byte (16 : Int32) (own_by ([] : List Int32)) (.int (0 : Int32)) := (f426.keep K43 nin0)
    obtain ⟨cq57, kq57, qa57, qb57, qc57⟩ := isOf hZ43 e43 fa52
    obtain ⟨_, _, ⟨T57, L57, k57, n57⟩, -, X57, ⟨Lc57, hQ57, l57, y57, z57⟩, st57⟩ := X43.virtualBack hx (y := (⟨"java/lang/StringBuilder", "append", "(Ljava/lang/String;)Ljava/lang/StringBuilder;"⟩ : MethodName)) (z := (⟨"java/lang/StringBuilder", "append", "(Ljava/lang/String;)Ljava/lang/StringBuilder;"⟩ : MethodName)) hown43 (mvT hZ43 w_130) (mvT hZ43 w_131) (notFace_of_selects (args := #[]) (mvT hZ43 w_133)) (mvT hZ43 w_133) (mvT hZ43 w_132) (by decide) (backOf (W := 0) (own_app l Z a0 hw sb t kt ([] : List Int32) q1 ([40] : List Int32) z h43 n0 Zs3 fa50 O2 P5 fa52 fa53 fa54 fa55 fa56 (⟨Ex43, Fc43, by decide, by decide, tq1, _, Fv43, Ar43⟩ : own_Lat Z h43 q1 ([40] : List Int32)) gn_sb gn_t (by first | omega | (simp; done) | (simp; omega))) hZ43 w_134 w_113 (by decide) (by decide)) qa57 qc57 (g := (mkF m 21 #[.val (.ref g)] [(.ref q1), (.ref sb)])) rfl (by rw [hml]; rfl) (Steps.refl _) (argsL := [(.ref q1)]) (rest := []) (lenOf own_pd22 rfl) rfl (by show 2 * 0 + _ ≤ _; exact Nat.le_of_eq rfl) (own_d hby d36_21) (fun _ _ => ⟨rfl, e43, Nat.le_of_ble_eq_true rfl, Nat.le_of_ble_eq_true rfl⟩)
    dsimp only [Pt.U, Pt.locs, Pt.cells, Pt.slots] at X57 l57 y57 z57 st57 hQ57
    subst l57 y57 z57
    obtain ⟨rfl, Nq57, Kq57, f157, f257, f357, f457⟩ := hQ57
    have N57 := Fr.app N26 Nq57
    have D58 := CHr.keep Kq57 (sfS sf46 (sfS sf48 sf0)) C43.1
    have C59 := C43.trans D58
    have KK4 : Keep h0 T57.heap ([] : List Addr) := KK3.trans Kq57 (allS (Or.inr s0_sb) (allS (Or.inr s0_t) all0))
    have Zs4 : n0 ≤ T57.heap.size := Nat.le_trans Zs3 Kq57.1
    have e57 : T57.heap = T57.heap := rfl
    have cc61 : Steps p.tables e below S0' (T57.setTop (mkF m 24 #[.val (.ref g)] [(.ref sb)])) := (Steps.trans cc51 st57)
    have fa60 : Exa Z T57.heap sb "java/lang/StringBuilder" := (fa52.keep Kq57)
    have cc63 : Steps p.tables e below S0' (T57.setTop (mkF m 25 #[.val (.ref g)] [(.ref g), (.ref sb)])) := Steps.trans cc61 (by
      refine XS.aloadN X57.here hx rfl (own_d hby d36_24) rfl rfl ?_
      exact Steps.refl _)
    have fa62 : Fld Z T57.heap g "com/example/firm_roles/firmroles/RoleRange" "low" "Lcom/example/firm_roles/firmroles/Name;" (.ref a) := (((fa27.keep Kq26 (ninS ne_g_sb nin0)).keep K43 nin0).keep Kq57 (ninS ne_g_sb (ninS ne_g_t nin0)))
    obtain ⟨T64, X64, e64, st64⟩ := getF X57 hx hZ43 hown43 (host := "") (Or.inl w_98) Via.refl e57 fa62 (g := (mkF m 25 #[.val (.ref g)] [(.ref g), (.ref sb)])) rfl rfl (own_d hby d36_25)
    have cc66 : Steps p.tables e below S0' (T64.setTop (mkF m 28 #[.val (.ref g)] [(.ref a), (.ref sb)])) := (cc63.trans (st64 _ (Steps.refl _)))
    have fa65 : Fld Z T57.heap a "com/example/firm_roles/firmroles/Name" "value" "Ljava/lang/String;" (.ref x) := ((((Fa.keep K21 nin0).keep Kq26 (ninS ne_a_sb nin0)).keep K43 nin0).keep Kq57 (ninS ne_a_sb (ninS ne_a_t nin0)))
    have fa67 : Exa Z T57.heap a "com/example/firm_roles/firmroles/Name" := (((fa28.keep Kq26).keep K43).keep Kq57)
    obtain ⟨cq68, kq68, qa68, qb68, qc68⟩ := isOf hZ43 e64 fa67
    obtain ⟨_, _, ⟨T68, L68, k68, n68⟩, -, X68, ⟨Lc68, hQ68, l68, y68, z68⟩, st68⟩ := X64.virtualBack hx (y := (⟨"com/example/firm_roles/firmroles/Name", "value", "()Ljava/lang/String;"⟩ : MethodName)) (z := (⟨"com/example/firm_roles/firmroles/Name", "value", "()Ljava/lang/String;"⟩ : MethodName)) hown43 (mvT hZ43 w_168) (mvT hZ43 w_169) (notFace_of_selects (args := #[]) (mvT hZ43 w_171)) (mvT hZ43 w_171) (mvT hZ43 w_170) (by decide) (backOf (W := 1) (own_val l Z a0 hw a x T57.heap n0 Zs4 fa65) hZ43 w_172 w_36 (by decide) (by decide)) qa68 qc68 (g := (mkF m 28 #[.val (.ref g)] [(.ref a), (.ref sb)])) rfl (by rw [hml]; rfl) (Steps.refl _) (argsL := []) (rest := [(.ref sb)]) (lenOf own_pd23 rfl) rfl (by show 2 * 0 + _ ≤ _; exact Nat.le_of_eq rfl) (own_d hby d36_28) (fun _ _ => ⟨rfl, e64, Nat.le_of_ble_eq_true rfl, Nat.le_of_ble_eq_true rfl⟩)
    dsimp only [Pt.U, Pt.locs, Pt.cells, Pt.slots] at X68 l68 y68 z68 st68 hQ68
    subst l68 y68 z68
    obtain ⟨rfl, Nq68, eq68⟩ := hQ68
    have N68 := Fr.app N57 Nq68
    have e68 : T68.heap = T57.heap := eq68
    have cc70 : Steps p.tables e below S0' (T68.setTop (mkF m 31 #[.val (.ref g)] [(.ref x), (.ref sb)])) := (Steps.trans cc66 st68)
    have fa69 : Exa Z T57.heap x "java/lang/String" := (((fa30.keep Kq26).keep K43).keep Kq57)
    have fa71 : Fld Z T57.heap x "java/lang/String" "coder" "B" (.int (0 : Int32)) := ((((Cx.keep K21 nin0).keep Kq26 (ninS ne_x_sb nin0)).keep K43 nin0).keep Kq57 (ninS ne_x_sb (ninS ne_x_t nin0)))
    have fa72 : Fld Z T57.heap x "java/lang/String" "value" "[B" (.ref tx) := ((((Vx.keep K21 nin0).keep Kq26 (ninS ne_x_sb nin0)).keep K43 nin0).keep Kq57 (ninS ne_x_sb (ninS ne_x_t nin0)))
    have fa73 : Arv Z T57.heap tx kx .byte (Int32.ofNat cs.length) (own_by cs) (.int (0 : Int32)) := (((fa31.keep Kq26 (ninS ne_tx_sb nin0)).keep K43 nin0).keep Kq57 (ninS ne_tx_sb (ninS ne_tx_t nin0)))
    have fa74 : Old Z n0 T57.heap := (fa50.keep Kq57 (allS gn_sb (allS gn_t all0)))
    obtain ⟨cq75, kq75, qa75, qb75, qc75⟩ := isOf hZ43 e68 fa60
    obtain ⟨_, _, ⟨T75, L75, k75, n75⟩, -, X75, ⟨Lc75, hQ75, l75, y75, z75⟩, st75⟩ := X68.virtualBack hx (y := (⟨"java/lang/StringBuilder", "append", "(Ljava/lang/String;)Ljava/lang/StringBuilder;"⟩ : MethodName)) (z := (⟨"java/lang/StringBuilder", "append", "(Ljava/lang/String;)Ljava/lang/StringBuilder;"⟩ : MethodName)) hown43 (mvT hZ43 w_130) (mvT hZ43 w_131) (notFace_of_selects (args := #[]) (mvT hZ43 w_133)) (mvT hZ43 w_133) (mvT hZ43 w_132) (by decide) (backOf (W := 0) (own_app l Z a0 hw sb t kt (([] : List Int32) ++ ([40] : List Int32)) x cs z T57.heap n0 Zs4 fa74 O2 P5 fa60 f157 f257 f357 f457 (⟨fa69, fa71, px, lx, tx, kx, fa72, fa73⟩ : own_Lat Z T57.heap x cs) gn_sb gn_t (by first | omega | (simp; done) | (simp; omega))) hZ43 w_134 w_113 (by decide) (by decide)) qa75 qc75 (g := (mkF m 31 #[.val (.ref g)] [(.ref x), (.ref sb)])) rfl (by rw [hml]; rfl) (Steps.refl _) (argsL := [(.ref x)]) (rest := []) (lenOf own_pd22 rfl) rfl (by show 2 * 0 + _ ≤ _; exact Nat.le_of_eq rfl) (own_d hby d36_31) (fun _ _ => ⟨rfl, e68, Nat.le_of_ble_eq_true rfl, Nat.le_of_ble_eq_true rfl⟩)
    dsimp only [Pt.U, Pt.locs, Pt.cells, Pt.slots] at X75 l75 y75 z75 st75 hQ75
    subst l75 y75 z75
    obtain ⟨rfl, Nq75, Kq75, f175, f275, f375, f475⟩ := hQ75
    have N75 := Fr.app N68 Nq75
    have sf76 := D58.safe lt49 sf48
    have lt77 := Nat.lt_of_lt_of_le lt49 Kq57.1
    have sf78 := D58.safe lt47 sf46
    have lt79 := Nat.lt_of_lt_of_le lt47 Kq57.1
    have D80 := CHr.keep Kq75 (sfS sf78 (sfS sf76 sf0)) C59.1
    have C81 := C59.trans D80
    have KK5 : Keep h0 T75.heap ([] : List Addr) := KK4.trans Kq75 (allS (Or.inr s0_sb) (allS (Or.inr s0_t) all0))
    have Zs5 : n0 ≤ T75.heap.size := Nat.le_trans Zs4 Kq75.1
    have e75 : T75.heap = T75.heap := rfl
    have cc83 : Steps p.tables e below S0' (T75.setTop (mkF m 34 #[.val (.ref g)] [(.ref sb)])) := (Steps.trans cc70 st75)
    have fa82 : Exa Z T75.heap sb "java/lang/StringBuilder" := (fa60.keep Kq75)
    obtain ⟨q2, T84, h84, k84, tq2, kb84, X84, e84, E84, hS84, hk84, hZ84, hown84, Ex84, Fc84, Fv84, Ar84, lta84, ltb84, CH84, -, sfn84, st84⟩ := ldcCH X75 hx hZ43 hown43 w_173 (fun a ha => hw a ((by decide +kernel : ∀ a ∈ Bundle.stringAtoms, a ∈ tables_1) a ha)) e75 hS43 (Nat.le_trans (Nat.le_trans hk43 Kq57.1) Kq75.1) hEL (by decide +kernel) C81.1 (vs := [(.int (44 : Int32)), (.int (32 : Int32))]) (z := 2) (by decide +kernel) (by decide) (by decide) (g := (mkF m 34 #[.val (.ref g)] [(.ref sb)])) rfl (own_d hby d36_34) (n := 8) (by decide) (by decide) (by decide) (by decide)
    have K84 := (Keep.refl T75.heap ([] : List Addr)).ext E84
    have C84 := C81.trans CH84
    have KK6 : Keep h0 h84 ([] : List Addr) := KK5.trans K84 all0
    have Zs6 : n0 ≤ h84.size := Nat.le_trans Zs5 K84.1
    have sf85 := D80.safe lt79 sf78
    have lt86 := Nat.lt_of_lt_of_le lt79 Kq75.1
    have sf87 := CH84.safe lt86 sf85
    have lt88 := Nat.lt_of_lt_of_le lt86 K84.1
    have nl84_sb := sfn84 _ sf87
    have sf89 := D80.safe lt77 sf76
    have lt90 := Nat.lt_of_lt_of_le lt77 Kq75.1
    have sf91 := CH84.safe lt90 sf89
    have lt92 := Nat.lt_of_lt_of_le lt90 K84.1
    have nl84_t := sfn84 _ sf91
    have cc94 : Steps p.tables e below S0' (T84.setTop (mkF m 36 #[.val (.ref g)] [(.ref q2), (.ref sb)])) := (cc83.trans (st84 _ (Steps.refl _)))
    have fa93 : Old Z n0 h84 := ((fa74.keep Kq75 (allS gn_sb (allS gn_t all0))).keep K84 all0)
    have fa95 : Exa Z h84 sb "java/lang/StringBuilder" := (fa82.keep K84)
    have fa96 : Fld Z h84 sb "java/lang/AbstractStringBuilder" "coder" "B" (.int (0 : Int32)) := (f175.keep K84 nin0)
    have fa97 : Fld Z h84 sb "java/lang/AbstractStringBuilder" "count" "I" (.int (Int32.ofNat ((([] : List Int32) ++ ([40] : List Int32)) ++ cs).length)) := (f275.keep K84 nin0)
    have fa98 : Fld Z h84 sb "java/lang/AbstractStringBuilder" "value" "[B" (.ref t) := (f375.keep K84 nin0)
    have fa99 : Arv Z h84 t kt .byte (16 : Int32) (own_by ((([] : List Int32) ++ ([40] : List Int32)) ++ cs)) (.int (0 : Int32)) := (f475.keep K84 nin0)
    obtain ⟨cq100, kq100, qa100, qb100, qc100⟩ := isOf hZ84 e84 fa95
    obtain ⟨_, _, ⟨T100, L100, k100, n100⟩, -, X100, ⟨Lc100, hQ100, l100, y100, z100⟩, st100⟩ := X84.virtualBack hx (y := (⟨"java/lang/StringBuilder", "append", "(Ljava/lang/String;)Ljava/lang/StringBuilder;"⟩ : MethodName)) (z := (⟨"java/lang/StringBuilder", "append", "(Ljava/lang/String;)Ljava/lang/StringBuilder;"⟩ : MethodName)) hown84 (mvT hZ84 w_130) (mvT hZ84 w_131) (notFace_of_selects (args := #[]) (mvT hZ84 w_133)) (mvT hZ84 w_133) (mvT hZ84 w_132) (by decide) (backOf (W := 0) (own_app l Z a0 hw sb t kt ((([] : List Int32) ++ ([40] : List Int32)) ++ cs) q2 ([44, 32] : List Int32) z h84 n0 Zs6 fa93 O2 P5 fa95 fa96 fa97 fa98 fa99 (⟨Ex84, Fc84, by decide, by decide, tq2, _, Fv84, Ar84⟩ : own_Lat Z h84 q2 ([44, 32] : List Int32)) gn_sb gn_t (by first | omega | (simp; done) | (simp; omega))) hZ84 w_134 w_113 (by decide) (by decide)) qa100 qc100 (g := (mkF m 36 #[.val (.ref g)] [(.ref q2), (.ref sb)])) rfl (by rw [hml]; rfl) (Steps.refl _) (argsL := [(.ref q2)]) (rest := []) (lenOf own_pd22 rfl) rfl (by show 2 * 0 + _ ≤ _; exact Nat.le_of_eq rfl) (own_d hby d36_36) (fun _ _ => ⟨rfl, e84, Nat.le_of_ble_eq_true rfl, Nat.le_of_ble_eq_true rfl⟩)
    dsimp only [Pt.U, Pt.locs, Pt.cells, Pt.slots] at X100 l100 y100 z100 st100 hQ100
    subst l100 y100 z100
    obtain ⟨rfl, Nq100, Kq100, f1100, f2100, f3100, f4100⟩ := hQ100
    have N100 := Fr.app N75 Nq100
    have D101 := CHr.keep Kq100 (sfS sf87 (sfS sf91 sf0)) C84.1
    have C102 := C84.trans D101
    have KK7 : Keep h0 T100.heap ([] : List Addr) := KK6.trans Kq100 (allS (Or.inr s0_sb) (allS (Or.inr s0_t) all0))
    have Zs7 : n0 ≤ T100.heap.size := Nat.le_trans Zs6 Kq100.1
    have e100 : T100.heap = T100.heap := rfl
    have cc104 : Steps p.tables e below S0' (T100.setTop (mkF m 39 #[.val (.ref g)] [(.ref sb)])) := (Steps.trans cc94 st100)
    have fa103 : Exa Z T100.heap sb "java/lang/StringBuilder" := (fa95.keep Kq100)
    have cc106 : Steps p.tables e below S0' (T100.setTop (mkF m 40 #[.val (.ref g)] [(.ref g), (.ref sb)])) := Steps.trans cc104 (by
      refine XS.aloadN X100.here hx rfl (own_d hby d36_39) rfl rfl ?_
      exact Steps.refl _)
    have fa105 : Fld Z T100.heap g "com/example/firm_roles/firmroles/RoleRange" "high" "Lcom/example/firm_roles/firmroles/Name;" (.ref b) := (((((((F3.keep K21 nin0).keep Kq26 (ninS ne_g_sb nin0)).keep K43 nin0).keep Kq57 (ninS ne_g_sb (ninS ne_g_t nin0))).keep Kq75 (ninS ne_g_sb (ninS ne_g_t nin0))).keep K84 nin0).keep Kq100 (ninS ne_g_sb (ninS ne_g_t nin0)))
    obtain ⟨T107, X107, e107, st107⟩ := getF X100 hx hZ84 hown84 (host := "") (Or.inl w_102) Via.refl e100 fa105 (g := (mkF m 40 #[.val (.ref g)] [(.ref g), (.ref sb)])) rfl rfl (own_d hby d36_40)
    have cc109 : Steps p.tables e below S0' (T107.setTop (mkF m 43 #[.val (.ref g)] [(.ref b), (.ref sb)])) := (cc106.trans (st107 _ (Steps.refl _)))
    have fa108 : Fld Z T100.heap b "com/example/firm_roles/firmroles/Name" "value" "Ljava/lang/String;" (.ref y) := (((((((Fb.keep K21 nin0).keep Kq26 (ninS ne_b_sb nin0)).keep K43 nin0).keep Kq57 (ninS ne_b_sb (ninS ne_b_t nin0))).keep Kq75 (ninS ne_b_sb (ninS ne_b_t nin0))).keep K84 nin0).keep Kq100 (ninS ne_b_sb (ninS ne_b_t nin0)))
    have fa110 : Exa Z T100.heap b "com/example/firm_roles/firmroles/Name" := ((((((fa29.keep Kq26).keep K43).keep Kq57).keep Kq75).keep K84).keep Kq100)
    obtain ⟨cq111, kq111, qa111, qb111, qc111⟩ := isOf hZ84 e107 fa110
    obtain ⟨_, _, ⟨T111, L111, k111, n111⟩, -, X111, ⟨Lc111, hQ111, l111, y111, z111⟩, st111⟩ := X107.virtualBack hx (y := (⟨"com/example/firm_roles/firmroles/Name", "value", "()Ljava/lang/String;"⟩ : MethodName)) (z := (⟨"com/example/firm_roles/firmroles/Name", "value", "()Ljava/lang/String;"⟩ : MethodName)) hown84 (mvT hZ84 w_168) (mvT hZ84 w_169) (notFace_of_selects (args := #[]) (mvT hZ84 w_171)) (mvT hZ84 w_171) (mvT hZ84 w_170) (by decide) (backOf (W := 1) (own_val l Z a0 hw b y T100.heap n0 Zs7 fa108) hZ84 w_172 w_36 (by decide) (by decide)) qa111 qc111 (g := (mkF m 43 #[.val (.ref g)] [(.ref b), (.ref sb)])) rfl (by rw [hml]; rfl) (Steps.refl _) (argsL := []) (rest := [(.ref sb)]) (lenOf own_pd23 rfl) rfl (by show 2 * 0 + _ ≤ _; exact Nat.le_of_eq rfl) (own_d hby d36_43) (fun _ _ => ⟨rfl, e107, Nat.le_of_ble_eq_true rfl, Nat.le_of_ble_eq_true rfl⟩)
    dsimp only [Pt.U, Pt.locs, Pt.cells, Pt.slots] at X111 l111 y111 z111 st111 hQ111
    subst l111 y111 z111
    obtain ⟨rfl, Nq111, eq111⟩ := hQ111
    have N111 := Fr.app N100 Nq111
    have e111 : T111.heap = T100.heap := eq111
    have cc113 : Steps p.tables e below S0' (T111.setTop (mkF m 46 #[.val (.ref g)] [(.ref y), (.ref sb)])) := (Steps.trans cc109 st111)
    have fa112 : Exa Z T100.heap y "java/lang/String" := ((((((fa32.keep Kq26).keep K43).keep Kq57).keep Kq75).keep K84).keep Kq100)
    have fa114 : Fld Z T100.heap y "java/lang/String" "coder" "B" (.int (0 : Int32)) := (((((((Cy.keep K21 nin0).keep Kq26 (ninS ne_y_sb nin0)).keep K43 nin0).keep Kq57 (ninS ne_y_sb (ninS ne_y_t nin0))).keep Kq75 (ninS ne_y_sb (ninS ne_y_t nin0))).keep K84 nin0).keep Kq100 (ninS ne_y_sb (ninS ne_y_t nin0)))
    have fa115 : Fld Z T100.heap y "java/lang/String" "value" "[B" (.ref ty) := (((((((Vy.keep K21 nin0).keep Kq26 (ninS ne_y_sb nin0)).keep K43 nin0).keep Kq57 (ninS ne_y_sb (ninS ne_y_t nin0))).keep Kq75 (ninS ne_y_sb (ninS ne_y_t nin0))).keep K84 nin0).keep Kq100 (ninS ne_y_sb (ninS ne_y_t nin0)))
    have fa116 : Arv Z T100.heap ty ky .byte (Int32.ofNat ds.length) (own_by ds) (.int (0 : Int32)) := ((((((fa33.keep Kq26 (ninS ne_ty_sb nin0)).keep K43 nin0).keep Kq57 (ninS ne_ty_sb (ninS ne_ty_t nin0))).keep Kq75 (ninS ne_ty_sb (ninS ne_ty_t nin0))).keep K84 nin0).keep Kq100 (ninS ne_ty_sb (ninS ne_ty_t nin0)))
    have fa117 : Old Z n0 T100.heap := (fa93.keep Kq100 (allS gn_sb (allS gn_t all0)))
    obtain ⟨cq118, kq118, qa118, qb118, qc118⟩ := isOf hZ84 e111 fa103
    obtain ⟨_, _, ⟨T118, L118, k118, n118⟩, -, X118, ⟨Lc118, hQ118, l118, y118, z118⟩, st118⟩ := X111.virtualBack hx (y := (⟨"java/lang/StringBuilder", "append", "(Ljava/lang/String;)Ljava/lang/StringBuilder;"⟩ : MethodName)) (z := (⟨"java/lang/StringBuilder", "append", "(Ljava/lang/String;)Ljava/lang/StringBuilder;"⟩ : MethodName)) hown84 (mvT hZ84 w_130) (mvT hZ84 w_131) (notFace_of_selects (args := #[]) (mvT hZ84 w_133)) (mvT hZ84 w_133) (mvT hZ84 w_132) (by decide) (backOf (W := 0) (own_app l Z a0 hw sb t kt (((([] : List Int32) ++ ([40] : List Int32)) ++ cs) ++ ([44, 32] : List Int32)) y ds z T100.heap n0 Zs7 fa117 O2 P5 fa103 f1100 f2100 f3100 f4100 (⟨fa112, fa114, py, ly, ty, ky, fa115, fa116⟩ : own_Lat Z T100.heap y ds) gn_sb gn_t (by first | omega | (simp; done) | (simp; omega))) hZ84 w_134 w_113 (by decide) (by decide)) qa118 qc118 (g := (mkF m 46 #[.val (.ref g)] [(.ref y), (.ref sb)])) rfl (by rw [hml]; rfl) (Steps.refl _) (argsL := [(.ref y)]) (rest := []) (lenOf own_pd22 rfl) rfl (by show 2 * 0 + _ ≤ _; exact Nat.le_of_eq rfl) (own_d hby d36_46) (fun _ _ => ⟨rfl, e111, Nat.le_of_ble_eq_true rfl, Nat.le_of_ble_eq_true rfl⟩)
    dsimp only [Pt.U, Pt.locs, Pt.cells, Pt.slots] at X118 l118 y118 z118 st118 hQ118
    subst l118 y118 z118
    obtain ⟨rfl, Nq118, Kq118, f1118, f2118, f3118, f4118⟩ := hQ118
    have N118 := Fr.app N111 Nq118
    have sf119 := D101.safe lt92 sf91
    have lt120 := Nat.lt_of_lt_of_le lt92 Kq100.1
    have sf121 := D101.safe lt88 sf87
    have lt122 := Nat.lt_of_lt_of_le lt88 Kq100.1
    have D123 := CHr.keep Kq118 (sfS sf121 (sfS sf119 sf0)) C102.1
    have C124 := C102.trans D123
    have KK8 : Keep h0 T118.heap ([] : List Addr) := KK7.trans Kq118 (allS (Or.inr s0_sb) (allS (Or.inr s0_t) all0))
    have Zs8 : n0 ≤ T118.heap.size := Nat.le_trans Zs7 Kq118.1
    have e118 : T118.heap = T118.heap := rfl
    have cc126 : Steps p.tables e below S0' (T118.setTop (mkF m 49 #[.val (.ref g)] [(.ref sb)])) := (Steps.trans cc113 st118)
    have fa125 : Exa Z T118.heap sb "java/lang/StringBuilder" := (fa103.keep Kq118)
    have cc128 : Steps p.tables e below S0' (T118.setTop (mkF m 50 #[.val (.ref g)] [(.ref g), (.ref sb)])) := Steps.trans cc126 (by
      refine XS.aloadN X118.here hx rfl (own_d hby d36_49) rfl rfl ?_
      exact Steps.refl _)
    have fa127 : Fld Z T118.heap g "com/example/firm_roles/firmroles/RoleRange" "highIncluded" "Z" (.int hi) := ((((((((F4.keep K21 nin0).keep Kq26 (ninS ne_g_sb nin0)).keep K43 nin0).keep Kq57 (ninS ne_g_sb (ninS ne_g_t nin0))).keep Kq75 (ninS ne_g_sb (ninS ne_g_t nin0))).keep K84 nin0).keep Kq100 (ninS ne_g_sb (ninS ne_g_t nin0))).keep Kq118 (ninS ne_g_sb (ninS ne_g_t nin0)))
    obtain ⟨T129, X129, e129, st129⟩ := getF X118 hx hZ84 hown84 (host := "") (Or.inl w_104) Via.refl e118 fa127 (g := (mkF m 50 #[.val (.ref g)] [(.ref g), (.ref sb)])) rfl rfl (own_d hby d36_50)
    have cc130 : Steps p.tables e below S0' (T129.setTop (mkF m 53 #[.val (.ref g)] [(.int hi), (.ref sb)])) := (cc128.trans (st129 _ (Steps.refl _)))
    by_cases qh : hi = 0
    · skip
      have cc131 : Steps p.tables e below S0' (T129.setTop (mkF m 61 #[.val (.ref g)] [(.ref sb)])) := Steps.trans cc130 (by
        refine XS.ifYes X129.here hx rfl (pc0 := 53) rfl (own_d hby d36_53) rfl (i0_eq_t qh) (by decide) rfl ?_
        exact Steps.refl _)
      obtain ⟨q3, T132, h132, k132, tq3, kb132, X132, e132, E132, hS132, hk132, hZ132, hown132, Ex132, Fc132, Fv132, Ar132, lta132, ltb132, CH132, -, sfn132, st132⟩ := ldcCH X129 hx hZ84 hown84 w_174 (fun a ha => hw a ((by decide +kernel : ∀ a ∈ Bundle.stringAtoms, a ∈ tables_1) a ha)) e129 hS84 (Nat.le_trans (Nat.le_trans hk84 Kq100.1) Kq118.1) hEL (by decide +kernel) C124.1 (vs := [(.int (41 : Int32))]) (z := 1) (by decide +kernel) (by decide) (by decide) (g := (mkF m 61 #[.val (.ref g)] [(.ref sb)])) rfl (own_d hby d36_61) (n := 8) (by decide) (by decide) (by decide) (by decide)
      have K132 := (Keep.refl T118.heap ([] : List Addr)).ext E132
      have C132 := C124.trans CH132
      have KK9 : Keep h0 h132 ([] : List Addr) := KK8.trans K132 all0
      have Zs9 : n0 ≤ h132.size := Nat.le_trans Zs8 K132.1
      have sf133 := D123.safe lt122 sf121
      have lt134 := Nat.lt_of_lt_of_le lt122 Kq118.1
      have sf135 := CH132.safe lt134 sf133
      have lt136 := Nat.lt_of_lt_of_le lt134 K132.1
      have nl132_sb := sfn132 _ sf135
      have sf137 := D123.safe lt120 sf119
      have lt138 := Nat.lt_of_lt_of_le lt120 Kq118.1
      have sf139 := CH132.safe lt138 sf137
      have lt140 := Nat.lt_of_lt_of_le lt138 K132.1
      have nl132_t := sfn132 _ sf139
      have cc142 : Steps p.tables e below S0' (T132.setTop (mkF m 63 #[.val (.ref g)] [(.ref q3), (.ref sb)])) := (cc131.trans (st132 _ (Steps.refl _)))
      have fa141 : Old Z n0 h132 := ((fa117.keep Kq118 (allS gn_sb (allS gn_t all0))).keep K132 all0)
      have fa143 : Exa Z h132 sb "java/lang/StringBuilder" := (fa125.keep K132)
      have fa144 : Fld Z h132 sb "java/lang/AbstractStringBuilder" "coder" "B" (.int (0 : Int32)) := (f1118.keep K132 nin0)
      have fa145 : Fld Z h132 sb "java/lang/AbstractStringBuilder" "count" "I" (.int (Int32.ofNat ((((([] : List Int32) ++ ([40] : List Int32)) ++ cs) ++ ([44, 32] : List Int32)) ++ ds).length)) := (f2118.keep K132 nin0)
      have fa146 : Fld Z h132 sb "java/lang/AbstractStringBuilder" "value" "[B" (.ref t) := (f3118.keep K132 nin0)
      have fa147 : Arv Z h132 t kt .byte (16 : Int32) (own_by ((((([] : List Int32) ++ ([40] : List Int32)) ++ cs) ++ ([44, 32] : List Int32)) ++ ds)) (.int (0 : Int32)) := (f4118.keep K132 nin0)
      obtain ⟨cq148, kq148, qa148, qb148, qc148⟩ := isOf hZ132 e132 fa143
      obtain ⟨_, _, ⟨T148, L148, k148, n148⟩, -, X148, ⟨Lc148, hQ148, l148, y148, z148⟩, st148⟩ := X132.virtualBack hx (y := (⟨"java/lang/StringBuilder", "append", "(Ljava/lang/String;)Ljava/lang/StringBuilder;"⟩ : MethodName)) (z := (⟨"java/lang/StringBuilder", "append", "(Ljava/lang/String;)Ljava/lang/StringBuilder;"⟩ : MethodName)) hown132 (mvT hZ132 w_130) (mvT hZ132 w_131) (notFace_of_selects (args := #[]) (mvT hZ132 w_133)) (mvT hZ132 w_133) (mvT hZ132 w_132) (by decide) (backOf (W := 0) (own_app l Z a0 hw sb t kt ((((([] : List Int32) ++ ([40] : List Int32)) ++ cs) ++ ([44, 32] : List Int32)) ++ ds) q3 ([41] : List Int32) z h132 n0 Zs9 fa141 O2 P5 fa143 fa144 fa145 fa146 fa147 (⟨Ex132, Fc132, by decide, by decide, tq3, _, Fv132, Ar132⟩ : own_Lat Z h132 q3 ([41] : List Int32)) gn_sb gn_t (by first | omega | (simp; done) | (simp; omega))) hZ132 w_134 w_113 (by decide) (by decide)) qa148 qc148 (g := (mkF m 63 #[.val (.ref g)] [(.ref q3), (.ref sb)])) rfl (by rw [hml]; rfl) (Steps.refl _) (argsL := [(.ref q3)]) (rest := []) (lenOf own_pd22 rfl) rfl (by show 2 * 0 + _ ≤ _; exact Nat.le_of_eq rfl) (own_d hby d36_63) (fun _ _ => ⟨rfl, e132, Nat.le_of_ble_eq_true rfl, Nat.le_of_ble_eq_true rfl⟩)
      dsimp only [Pt.U, Pt.locs, Pt.cells, Pt.slots] at X148 l148 y148 z148 st148 hQ148
      subst l148 y148 z148
      obtain ⟨rfl, Nq148, Kq148, f1148, f2148, f3148, f4148⟩ := hQ148
      have N148 := Fr.app N118 Nq148
      have D149 := CHr.keep Kq148 (sfS sf135 (sfS sf139 sf0)) C132.1
      have C150 := C132.trans D149
      have KK10 : Keep h0 T148.heap ([] : List Addr) := KK9.trans Kq148 (allS (Or.inr s0_sb) (allS (Or.inr s0_t) all0))
      have Zs10 : n0 ≤ T148.heap.size := Nat.le_trans Zs9 Kq148.1
      have e148 : T148.heap = T148.heap := rfl
      have cc152 : Steps p.tables e below S0' (T148.setTop (mkF m 66 #[.val (.ref g)] [(.ref sb)])) := (Steps.trans cc142 st148)
      have fa151 : Exa Z T148.heap sb "java/lang/StringBuilder" := (fa143.keep Kq148)
      have hpb : ∀ w ∈ (((((([] : List Int32) ++ ([40] : List Int32)) ++ cs) ++ ([44, 32] : List Int32)) ++ ds) ++ ([41] : List Int32)), ¬ w < 0 ∧ ¬ (255 : Int32) < w := by
        intro w hw'
        simp only [List.mem_append, List.mem_cons, List.not_mem_nil, or_false, false_or] at hw'
        rcases hw' with (((rfl | q) | rfl | rfl) | q) | rfl <;> first | decide | exact px _ q | exact py _ q
      have fa153 : Old Z n0 T148.heap := (fa141.keep Kq148 (allS gn_sb (allS gn_t all0)))
      obtain ⟨cq154, kq154, qa154, qb154, qc154⟩ := isOf hZ132 e148 fa151
      obtain ⟨_, _, ⟨T154, L154, k154, n154⟩, -, X154, ⟨Lc154, hQ154, l154, y154, z154⟩, st154⟩ := X148.virtualBack hx (y := (⟨"java/lang/StringBuilder", "toString", "()Ljava/lang/String;"⟩ : MethodName)) (z := (⟨"java/lang/StringBuilder", "toString", "()Ljava/lang/String;"⟩ : MethodName)) hown132 (mvT hZ132 w_175) (mvT hZ132 w_176) (notFace_of_selects (args := #[]) (mvT hZ132 w_178)) (mvT hZ132 w_178) (mvT hZ132 w_177) (by decide) (backOf (W := 0) (own_tos l Z a0 hw sb t kt (((((([] : List Int32) ++ ([40] : List Int32)) ++ cs) ++ ([44, 32] : List Int32)) ++ ds) ++ ([41] : List Int32)) z T148.heap n0 Zs10 fa153 O2 P5 fa151 f1148 f2148 f3148 f4148 hpb (by first | omega | (simp; done) | (simp; omega))) hZ132 w_179 w_113 (by decide) (by decide)) qa154 qc154 (g := (mkF m 66 #[.val (.ref g)] [(.ref sb)])) rfl (by rw [hml]; rfl) (Steps.refl _) (argsL := []) (rest := []) (lenOf own_pd23 rfl) rfl (by show 2 * 0 + _ ≤ _; exact Nat.le_of_eq rfl) (own_d hby d36_66) (fun _ _ => ⟨rfl, e148, Nat.le_of_ble_eq_true rfl, Nat.le_of_ble_eq_true rfl⟩)
      dsimp only [Pt.U, Pt.locs, Pt.cells, Pt.slots] at X154 l154 y154 z154 st154 hQ154
      subst l154 y154 z154
      obtain ⟨s1, rfl, Nq154, Kq154, sq154, Hq154⟩ := hQ154
      have N154 := Fr.app N148 Nq154
      have D155 := CHr.keep Kq154 sf0 C150.1
      have C156 := C150.trans D155
      have KK11 : Keep h0 T154.heap ([] : List Addr) := KK10.trans Kq154 all0
      have Zs11 : n0 ≤ T154.heap.size := Nat.le_trans Zs10 Kq154.1
      have e154 : T154.heap = T154.heap := rfl
      have eR : (((((([] : List Int32) ++ ([40] : List Int32)) ++ cs) ++ ([44, 32] : List Int32)) ++ ds) ++ ([41] : List Int32)) = (((if li = 0 then 40 else 91) :: cs) ++ (44 :: 32 :: ds) ++ [if hi = 0 then 41 else 93]) := by simp [ql, qh]
      have cc157 : Steps p.tables e below S0' (T154.setTop (mkF m 69 #[.val (.ref g)] [(.ref s1)])) := (Steps.trans cc152 st154)
      have cE := cc157
      rw [hS0'] at cE
      obtain ⟨fs, hr_, hrun, hended, hE⟩ := X154.leaveW hS132 (by rw [e154]; exact (Nat.le_trans (Nat.le_trans hk132 Kq148.1) Kq154.1)) (v := some (.ref s1)) (fun h => by rw [Bd.returns] at h; cases h)
      have CE := C156.trans (CHv.at X154 hZ132 hEL C156.1)
      refine ⟨_, _, cE.trans (X154.areturnOut hx (rfl) Bd.returns rfl (own_d hby d36_69) hr_), hrun, hended, _, _, rfl, ?_, ?_, hE.1, hE.2.1, hE.2.2.1, hE.2.2.2.mono (by first | decide | omega) (by first | decide | omega)⟩
      · show Q_own_rts Z g a b x y li hi cs ds z h0 n0 _ T154.heap _
        rw [e154]
        exact ⟨s1, rfl, N154, KK11, eR ▸ Hq154⟩
      · rw [hh]
        show CHr Z EL s.vm h0 T154.vm T154.heap
        rw [e154]
        exact CE
    · skip
      have cc131 : Steps p.tables e below S0' (T129.setTop (mkF m 56 #[.val (.ref g)] [(.ref sb)])) := Steps.trans cc130 (by
        refine XS.ifNo X129.here hx rfl (own_d hby d36_53) rfl (i0_eq_f qh) ?_
        exact Steps.refl _)
      obtain ⟨q3, T132, h132, k132, tq3, kb132, X132, e132, E132, hS132, hk132, hZ132, hown132, Ex132, Fc132, Fv132, Ar132, lta132, ltb132, CH132, -, sfn132, st132⟩ := ldcCH X129 hx hZ84 hown84 w_241 (fun a ha => hw a ((by decide +kernel : ∀ a ∈ Bundle.stringAtoms, a ∈ tables_1) a ha)) e129 hS84 (Nat.le_trans (Nat.le_trans hk84 Kq100.1) Kq118.1) hEL (by decide +kernel) C124.1 (vs := [(.int (93 : Int32))]) (z := 1) (by decide +kernel) (by decide) (by decide) (g := (mkF m 56 #[.val (.ref g)] [(.ref sb)])) rfl (own_d hby d36_56) (n := 8) (by decide) (by decide) (by decide) (by decide)
      have K132 := (Keep.refl T118.heap ([] : List Addr)).ext E132
      have C132 := C124.trans CH132
      have KK9 : Keep h0 h132 ([] : List Addr) := KK8.trans K132 all0
      have Zs9 : n0 ≤ h132.size := Nat.le_trans Zs8 K132.1
      have sf133 := D123.safe lt122 sf121
      have lt134 := Nat.lt_of_lt_of_le lt122 Kq118.1
      have sf135 := CH132.safe lt134 sf133
      have lt136 := Nat.lt_of_lt_of_le lt134 K132.1
      have nl132_sb := sfn132 _ sf135
      have sf137 := D123.safe lt120 sf119
      have lt138 := Nat.lt_of_lt_of_le lt120 Kq118.1
      have sf139 := CH132.safe lt138 sf137
      have lt140 := Nat.lt_of_lt_of_le lt138 K132.1
      have nl132_t := sfn132 _ sf139
      have cc142 : Steps p.tables e below S0' (T132.setTop (mkF m 63 #[.val (.ref g)] [(.ref q3), (.ref sb)])) := Steps.trans (cc131.trans (st132 _ (Steps.refl _))) (by
        refine XS.goto X132.here hx rfl (pc0 := 58) rfl (own_d hby d36_58) (by decide) rfl ?_
        exact Steps.refl _)
      have fa141 : Old Z n0 h132 := ((fa117.keep Kq118 (allS gn_sb (allS gn_t all0))).keep K132 all0)
      have fa143 : Exa Z h132 sb "java/lang/StringBuilder" := (fa125.keep K132)
      have fa144 : Fld Z h132 sb "java/lang/AbstractStringBuilder" "coder" "B" (.int (0 : Int32)) := (f1118.keep K132 nin0)
      have fa145 : Fld Z h132 sb "java/lang/AbstractStringBuilder" "count" "I" (.int (Int32.ofNat ((((([] : List Int32) ++ ([40] : List Int32)) ++ cs) ++ ([44, 32] : List Int32)) ++ ds).length)) := (f2118.keep K132 nin0)
      have fa146 : Fld Z h132 sb "java/lang/AbstractStringBuilder" "value" "[B" (.ref t) := (f3118.keep K132 nin0)
      have fa147 : Arv Z h132 t kt .byte (16 : Int32) (own_by ((((([] : List Int32) ++ ([40] : List Int32)) ++ cs) ++ ([44, 32] : List Int32)) ++ ds)) (.int (0 : Int32)) := (f4118.keep K132 nin0)
      obtain ⟨cq148, kq148, qa148, qb148, qc148⟩ := isOf hZ132 e132 fa143
      obtain ⟨_, _, ⟨T148, L148, k148, n148⟩, -, X148, ⟨Lc148, hQ148, l148, y148, z148⟩, st148⟩ := X132.virtualBack hx (y := (⟨"java/lang/StringBuilder", "append", "(Ljava/lang/String;)Ljava/lang/StringBuilder;"⟩ : MethodName)) (z := (⟨"java/lang/StringBuilder", "append", "(Ljava/lang/String;)Ljava/lang/StringBuilder;"⟩ : MethodName)) hown132 (mvT hZ132 w_130) (mvT hZ132 w_131) (notFace_of_selects (args := #[]) (mvT hZ132 w_133)) (mvT hZ132 w_133) (mvT hZ132 w_132) (by decide) (backOf (W := 0) (own_app l Z a0 hw sb t kt ((((([] : List Int32) ++ ([40] : List Int32)) ++ cs) ++ ([44, 32] : List Int32)) ++ ds) q3 ([93] : List Int32) z h132 n0 Zs9 fa141 O2 P5 fa143 fa144 fa145 fa146 fa147 (⟨Ex132, Fc132, by decide, by decide, tq3, _, Fv132, Ar132⟩ : own_Lat Z h132 q3 ([93] : List Int32)) gn_sb gn_t (by first | omega | (simp; done) | (simp; omega))) hZ132 w_134 w_113 (by decide) (by decide)) qa148 qc148 (g := (mkF m 63 #[.val (.ref g)] [(.ref q3), (.ref sb)])) rfl (by rw [hml]; rfl) (Steps.refl _) (argsL := [(.ref q3)]) (rest := []) (lenOf own_pd22 rfl) rfl (by show 2 * 0 + _ ≤ _; exact Nat.le_of_eq rfl) (own_d hby d36_63) (fun _ _ => ⟨rfl, e132, Nat.le_of_ble_eq_true rfl, Nat.le_of_ble_eq_true rfl⟩)
      dsimp only [Pt.U, Pt.locs, Pt.cells, Pt.slots] at X148 l148 y148 z148 st148 hQ148
      subst l148 y148 z148
      obtain ⟨rfl, Nq148, Kq148, f1148, f2148, f3148, f4148⟩ := hQ148
      have N148 := Fr.app N118 Nq148
      have D149 := CHr.keep Kq148 (sfS sf135 (sfS sf139 sf0)) C132.1
      have C150 := C132.trans D149
      have KK10 : Keep h0 T148.heap ([] : List Addr) := KK9.trans Kq148 (allS (Or.inr s0_sb) (allS (Or.inr s0_t) all0))
      have Zs10 : n0 ≤ T148.heap.size := Nat.le_trans Zs9 Kq148.1
      have e148 : T148.heap = T148.heap := rfl
      have cc152 : Steps p.tables e below S0' (T148.setTop (mkF m 66 #[.val (.ref g)] [(.ref sb)])) := (Steps.trans cc142 st148)
      have fa151 : Exa Z T148.heap sb "java/lang/StringBuilder" := (fa143.keep Kq148)
      have hpb : ∀ w ∈ (((((([] : List Int32) ++ ([40] : List Int32)) ++ cs) ++ ([44, 32] : List Int32)) ++ ds) ++ ([93] : List Int32)), ¬ w < 0 ∧ ¬ (255 : Int32) < w := by
        intro w hw'
        simp only [List.mem_append, List.mem_cons, List.not_mem_nil, or_false, false_or] at hw'
        rcases hw' with (((rfl | q) | rfl | rfl) | q) | rfl <;> first | decide | exact px _ q | exact py _ q
      have fa153 : Old Z n0 T148.heap := (fa141.keep Kq148 (allS gn_sb (allS gn_t all0)))
      obtain ⟨cq154, kq154, qa154, qb154, qc154⟩ := isOf hZ132 e148 fa151
      obtain ⟨_, _, ⟨T154, L154, k154, n154⟩, -, X154, ⟨Lc154, hQ154, l154, y154, z154⟩, st154⟩ := X148.virtualBack hx (y := (⟨"java/lang/StringBuilder", "toString", "()Ljava/lang/String;"⟩ : MethodName)) (z := (⟨"java/lang/StringBuilder", "toString", "()Ljava/lang/String;"⟩ : MethodName)) hown132 (mvT hZ132 w_175) (mvT hZ132 w_176) (notFace_of_selects (args := #[]) (mvT hZ132 w_178)) (mvT hZ132 w_178) (mvT hZ132 w_177) (by decide) (backOf (W := 0) (own_tos l Z a0 hw sb t kt (((((([] : List Int32) ++ ([40] : List Int32)) ++ cs) ++ ([44, 32] : List Int32)) ++ ds) ++ ([93] : List Int32)) z T148.heap n0 Zs10 fa153 O2 P5 fa151 f1148 f2148 f3148 f4148 hpb (by first | omega | (simp; done) | (simp; omega))) hZ132 w_179 w_113 (by decide) (by decide)) qa154 qc154 (g := (mkF m 66 #[.val (.ref g)] [(.ref sb)])) rfl (by rw [hml]; rfl) (Steps.refl _) (argsL := []) (rest := []) (lenOf own_pd23 rfl) rfl (by show 2 * 0 + _ ≤ _; exact Nat.le_of_eq rfl) (own_d hby d36_66) (fun _ _ => ⟨rfl, e148, Nat.le_of_ble_eq_true rfl, Nat.le_of_ble_eq_true rfl⟩)
      dsimp only [Pt.U, Pt.locs, Pt.cells, Pt.slots] at X154 l154 y154 z154 st154 hQ154
      subst l154 y154 z154
      obtain ⟨s1, rfl, Nq154, Kq154, sq154, Hq154⟩ := hQ154
      have N154 := Fr.app N148 Nq154
      have D155 := CHr.keep Kq154 sf0 C150.1
      have C156 := C150.trans D155
      have KK11 : Keep h0 T154.heap ([] : List Addr) := KK10.trans Kq154 all0
      have Zs11 : n0 ≤ T154.heap.size := Nat.le_trans Zs10 Kq154.1
      have e154 : T154.heap = T154.heap := rfl
      have eR : (((((([] : List Int32) ++ ([40] : List Int32)) ++ cs) ++ ([44, 32] : List Int32)) ++ ds) ++ ([93] : List Int32)) = (((if li = 0 then 40 else 91) :: cs) ++ (44 :: 32 :: ds) ++ [if hi = 0 then 41 else 93]) := by simp [ql, qh]
      have cc157 : Steps p.tables e below S0' (T154.setTop (mkF m 69 #[.val (.ref g)] [(.ref s1)])) := (Steps.trans cc152 st154)
      have cE := cc157
      rw [hS0'] at cE
      obtain ⟨fs, hr_, hrun, hended, hE⟩ := X154.leaveW hS132 (by rw [e154]; exact (Nat.le_trans (Nat.le_trans hk132 Kq148.1) Kq154.1)) (v := some (.ref s1)) (fun h => by rw [Bd.returns] at h; cases h)
      have CE := C156.trans (CHv.at X154 hZ132 hEL C156.1)
      refine ⟨_, _, cE.trans (X154.areturnOut hx (rfl) Bd.returns rfl (own_d hby d36_69) hr_), hrun, hended, _, _, rfl, ?_, ?_, hE.1, hE.2.1, hE.2.2.1, hE.2.2.2.mono (by first | decide | omega) (by first | decide | omega)⟩
      · show Q_own_rts Z g a b x y li hi cs ds z h0 n0 _ T154.heap _
        rw [e154]
        exact ⟨s1, rfl, N154, KK11, eR ▸ Hq154⟩
      · rw [hh]
        show CHr Z EL s.vm h0 T154.vm T154.heap
        rw [e154]
        exact CE
  · skip
    have cc42 : Steps p.tables e below S0' (T40.setTop (mkF m 14 #[.val (.ref g)] [(.ref sb)])) := Steps.trans cc41 (by
      refine XS.ifNo X40.here hx rfl (own_d hby d36_11) rfl (i0_eq_f ql) ?_
      exact Steps.refl _)
    obtain ⟨q1, T43, h43, k43, tq1, kb43, X43, e43, E43, hS43, hk43, hZ43, hown43, Ex43, Fc43, Fv43, Ar43, lta43, ltb43, CH43, -, sfn43, st43⟩ := ldcCH X40 hx hZ hown (hw _ (List.mem_of_getElem? (i := 240) rfl)) (fun a ha => hw a ((by decide +kernel : ∀ a ∈ Bundle.stringAtoms, a ∈ tables_1) a ha)) e40 hS0 (Nat.le_trans (Nat.le_trans hk0 K21.1) Kq26.1) hEL (by decide +kernel) C35.1 (vs := [(.int (91 : Int32))]) (z := 1) (by decide +kernel) (by decide) (by decide) (g := (mkF m 14 #[.val (.ref g)] [(.ref sb)])) rfl (own_d hby d36_14) (n := 8) (by decide) (by decide) (by decide) (by decide)
    have K43 := (Keep.refl T26.heap ([] : List Addr)).ext E43
    have C43 := C35.trans CH43
    have KK3 : Keep h0 h43 ([] : List Addr) := KK2.trans K43 all0
    have Zs3 : n0 ≤ h43.size := Nat.le_trans Zs2 K43.1
    have sf44 := D34.safe A21.lt sf_sb
    have lt45 := Nat.lt_of_lt_of_le A21.lt Kq26.1
    have sf46 := CH43.safe lt45 sf44
    have lt47 := Nat.lt_of_lt_of_le lt45 K43.1
    have nl43_sb := sfn43 _ sf46
    have sf48 := CH43.safe f426.lt sf_t
    have lt49 := Nat.lt_of_lt_of_le f426.lt K43.1
    have nl43_t := sfn43 _ sf48
    have cc51 : Steps p.tables e below S0' (T43.setTop (mkF m 21 #[.val (.ref g)] [(.ref q1), (.ref sb)])) := Steps.trans (cc42.trans (st43 _ (Steps.refl _))) (by
      refine XS.goto X43.here hx rfl (pc0 := 16) rfl (own_d hby d36_16) (by decide) rfl ?_
      exact Steps.refl _)
    have fa50 : Old Z n0 h43 := ((fa24.keep Kq26 (allS gn_sb all0)).keep K43 all0)
    have fa52 : Exa Z h43 sb "java/lang/StringBuilder" := (fa36.keep K43)
    have fa53 : Fld Z h43 sb "java/lang/AbstractStringBuilder" "coder" "B" (.int (0 : Int32)) := (f126.keep K43 nin0)
    have fa54 : Fld Z h43 sb "java/lang/AbstractStringBuilder" "count" "I" (.int (Int32.ofNat ([] : List Int32).length)) := (f226.keep K43 nin0)
    have fa55 : Fld Z h43 sb "java/lang/AbstractStringBuilder" "value" "[B" (.ref t) := (f326.keep K43 nin0)
    have fa56 : Arv Z h43 t kt .byte (16 : Int32) (own_by ([] : List Int32)) (.int (0 : Int32)) := (f426.keep K43 nin0)
    obtain ⟨cq57, kq57, qa57, qb57, qc57⟩ := isOf hZ43 e43 fa52
    obtain ⟨_, _, ⟨T57, L57, k57, n57⟩, -, X57, ⟨Lc57, hQ57, l57, y57, z57⟩, st57⟩ := X43.virtualBack hx (y := (⟨"java/lang/StringBuilder", "append", "(Ljava/lang/String;)Ljava/lang/StringBuilder;"⟩ : MethodName)) (z := (⟨"java/lang/StringBuilder", "append", "(Ljava/lang/String;)Ljava/lang/StringBuilder;"⟩ : MethodName)) hown43 (mvT hZ43 w_130) (mvT hZ43 w_131) (notFace_of_selects (args := #[]) (mvT hZ43 w_133)) (mvT hZ43 w_133) (mvT hZ43 w_132) (by decide) (backOf (W := 0) (own_app l Z a0 hw sb t kt ([] : List Int32) q1 ([91] : List Int32) z h43 n0 Zs3 fa50 O2 P5 fa52 fa53 fa54 fa55 fa56 (⟨Ex43, Fc43, by decide, by decide, tq1, _, Fv43, Ar43⟩ : own_Lat Z h43 q1 ([91] : List Int32)) gn_sb gn_t (by first | omega | (simp; done) | (simp; omega))) hZ43 w_134 w_113 (by decide) (by decide)) qa57 qc57 (g := (mkF m 21 #[.val (.ref g)] [(.ref q1), (.ref sb)])) rfl (by rw [hml]; rfl) (Steps.refl _) (argsL := [(.ref q1)]) (rest := []) (lenOf own_pd22 rfl) rfl (by show 2 * 0 + _ ≤ _; exact Nat.le_of_eq rfl) (own_d hby d36_21) (fun _ _ => ⟨rfl, e43, Nat.le_of_ble_eq_true rfl, Nat.le_of_ble_eq_true rfl⟩)
    dsimp only [Pt.U, Pt.locs, Pt.cells, Pt.slots] at X57 l57 y57 z57 st57 hQ57
    subst l57 y57 z57
    obtain ⟨rfl, Nq57, Kq57, f157, f257, f357, f457⟩ := hQ57
    have N57 := Fr.app N26 Nq57
    have D58 := CHr.keep Kq57 (sfS sf46 (sfS sf48 sf0)) C43.1
    have C59 := C43.trans D58
    have KK4 : Keep h0 T57.heap ([] : List Addr) := KK3.trans Kq57 (allS (Or.inr s0_sb) (allS (Or.inr s0_t) all0))
    have Zs4 : n0 ≤ T57.heap.size := Nat.le_trans Zs3 Kq57.1
    have e57 : T57.heap = T57.heap := rfl
    have cc61 : Steps p.tables e below S0' (T57.setTop (mkF m 24 #[.val (.ref g)] [(.ref sb)])) := (Steps.trans cc51 st57)
    have fa60 : Exa Z T57.heap sb "java/lang/StringBuilder" := (fa52.keep Kq57)
    have cc63 : Steps p.tables e below S0' (T57.setTop (mkF m 25 #[.val (.ref g)] [(.ref g), (.ref sb)])) := Steps.trans cc61 (by
      refine XS.aloadN X57.here hx rfl (own_d hby d36_24) rfl rfl ?_
      exact Steps.refl _)
    have fa62 : Fld Z T57.heap g "com/example/firm_roles/firmroles/RoleRange" "low" "Lcom/example/firm_roles/firmroles/Name;" (.ref a) := (((fa27.keep Kq26 (ninS ne_g_sb nin0)).keep K43 nin0).keep Kq57 (ninS ne_g_sb (ninS ne_g_t nin0)))
    obtain ⟨T64, X64, e64, st64⟩ := getF X57 hx hZ43 hown43 (host := "") (Or.inl w_98) Via.refl e57 fa62 (g := (mkF m 25 #[.val (.ref g)] [(.ref g), (.ref sb)])) rfl rfl (own_d hby d36_25)
    have cc66 : Steps p.tables e below S0' (T64.setTop (mkF m 28 #[.val (.ref g)] [(.ref a), (.ref sb)])) := (cc63.trans (st64 _ (Steps.refl _)))
    have fa65 : Fld Z T57.heap a "com/example/firm_roles/firmroles/Name" "value" "Ljava/lang/String;" (.ref x) := ((((Fa.keep K21 nin0).keep Kq26 (ninS ne_a_sb nin0)).keep K43 nin0).keep Kq57 (ninS ne_a_sb (ninS ne_a_t nin0)))
    have fa67 : Exa Z T57.heap a "com/example/firm_roles/firmroles/Name" := (((fa28.keep Kq26).keep K43).keep Kq57)
    obtain ⟨cq68, kq68, qa68, qb68, qc68⟩ := isOf hZ43 e64 fa67
    obtain ⟨_, _, ⟨T68, L68, k68, n68⟩, -, X68, ⟨Lc68, hQ68, l68, y68, z68⟩, st68⟩ := X64.virtualBack hx (y := (⟨"com/example/firm_roles/firmroles/Name", "value", "()Ljava/lang/String;"⟩ : MethodName)) (z := (⟨"com/example/firm_roles/firmroles/Name", "value", "()Ljava/lang/String;"⟩ : MethodName)) hown43 (mvT hZ43 w_168) (mvT hZ43 w_169) (notFace_of_selects (args := #[]) (mvT hZ43 w_171)) (mvT hZ43 w_171) (mvT hZ43 w_170) (by decide) (backOf (W := 1) (own_val l Z a0 hw a x T57.heap n0 Zs4 fa65) hZ43 w_172 w_36 (by decide) (by decide)) qa68 qc68 (g := (mkF m 28 #[.val (.ref g)] [(.ref a), (.ref sb)])) rfl (by rw [hml]; rfl) (Steps.refl _) (argsL := []) (rest := [(.ref sb)]) (lenOf own_pd23 rfl) rfl (by show 2 * 0 + _ ≤ _; exact Nat.le_of_eq rfl) (own_d hby d36_28) (fun _ _ => ⟨rfl, e64, Nat.le_of_ble_eq_true rfl, Nat.le_of_ble_eq_true rfl⟩)
    dsimp only [Pt.U, Pt.locs, Pt.cells, Pt.slots] at X68 l68 y68 z68 st68 hQ68
    subst l68 y68 z68
    obtain ⟨rfl, Nq68, eq68⟩ := hQ68
    have N68 := Fr.app N57 Nq68
    have e68 : T68.heap = T57.heap := eq68
    have cc70 : Steps p.tables e below S0' (T68.setTop (mkF m 31 #[.val (.ref g)] [(.ref x), (.ref sb)])) := (Steps.trans cc66 st68)
    have fa69 : Exa Z T57.heap x "java/lang/String" := (((fa30.keep Kq26).keep K43).keep Kq57)
    have fa71 : Fld Z T57.heap x "java/lang/String" "coder" "B" (.int (0 : Int32)) := ((((Cx.keep K21 nin0).keep Kq26 (ninS ne_x_sb nin0)).keep K43 nin0).keep Kq57 (ninS ne_x_sb (ninS ne_x_t nin0)))
    have fa72 : Fld Z T57.heap x "java/lang/String" "value" "[B" (.ref tx) := ((((Vx.keep K21 nin0).keep Kq26 (ninS ne_x_sb nin0)).keep K43 nin0).keep Kq57 (ninS ne_x_sb (ninS ne_x_t nin0)))
    have fa73 : Arv Z T57.heap tx kx .byte (Int32.ofNat cs.length) (own_by cs) (.int (0 : Int32)) := (((fa31.keep Kq26 (ninS ne_tx_sb nin0)).keep K43 nin0).keep Kq57 (ninS ne_tx_sb (ninS ne_tx_t nin0)))
    have fa74 : Old Z n0 T57.heap := (fa50.keep Kq57 (allS gn_sb (allS gn_t all0)))
    obtain ⟨cq75, kq75, qa75, qb75, qc75⟩ := isOf hZ43 e68 fa60
    obtain ⟨_, _, ⟨T75, L75, k75, n75⟩, -, X75, ⟨Lc75, hQ75, l75, y75, z75⟩, st75⟩ := X68.virtualBack hx (y := (⟨"java/lang/StringBuilder", "append", "(Ljava/lang/String;)Ljava/lang/StringBuilder;"⟩ : MethodName)) (z := (⟨"java/lang/StringBuilder", "append", "(Ljava/lang/String;)Ljava/lang/StringBuilder;"⟩ : MethodName)) hown43 (mvT hZ43 w_130) (mvT hZ43 w_131) (notFace_of_selects (args := #[]) (mvT hZ43 w_133)) (mvT hZ43 w_133) (mvT hZ43 w_132) (by decide) (backOf (W := 0) (own_app l Z a0 hw sb t kt (([] : List Int32) ++ ([91] : List Int32)) x cs z T57.heap n0 Zs4 fa74 O2 P5 fa60 f157 f257 f357 f457 (⟨fa69, fa71, px, lx, tx, kx, fa72, fa73⟩ : own_Lat Z T57.heap x cs) gn_sb gn_t (by first | omega | (simp; done) | (simp; omega))) hZ43 w_134 w_113 (by decide) (by decide)) qa75 qc75 (g := (mkF m 31 #[.val (.ref g)] [(.ref x), (.ref sb)])) rfl (by rw [hml]; rfl) (Steps.refl _) (argsL := [(.ref x)]) (rest := []) (lenOf own_pd22 rfl) rfl (by show 2 * 0 + _ ≤ _; exact Nat.le_of_eq rfl) (own_d hby d36_31) (fun _ _ => ⟨rfl, e68, Nat.le_of_ble_eq_true rfl, Nat.le_of_ble_eq_true rfl⟩)
    dsimp only [Pt.U, Pt.locs, Pt.cells, Pt.slots] at X75 l75 y75 z75 st75 hQ75
    subst l75 y75 z75
    obtain ⟨rfl, Nq75, Kq75, f175, f275, f375, f475⟩ := hQ75
    have N75 := Fr.app N68 Nq75
    have sf76 := D58.safe lt49 sf48
    have lt77 := Nat.lt_of_lt_of_le lt49 Kq57.1
    have sf78 := D58.safe lt47 sf46
    have lt79 := Nat.lt_of_lt_of_le lt47 Kq57.1
    have D80 := CHr.keep Kq75 (sfS sf78 (sfS sf76 sf0)) C59.1
    have C81 := C59.trans D80
    have KK5 : Keep h0 T75.heap ([] : List Addr) := KK4.trans Kq75 (allS (Or.inr s0_sb) (allS (Or.inr s0_t) all0))
    have Zs5 : n0 ≤ T75.heap.size := Nat.le_trans Zs4 Kq75.1
    have e75 : T75.heap = T75.heap := rfl
    have cc83 : Steps p.tables e below S0' (T75.setTop (mkF m 34 #[.val (.ref g)] [(.ref sb)])) := (Steps.trans cc70 st75)
    have fa82 : Exa Z T75.heap sb "java/lang/StringBuilder" := (fa60.keep Kq75)
    obtain ⟨q2, T84, h84, k84, tq2, kb84, X84, e84, E84, hS84, hk84, hZ84, hown84, Ex84, Fc84, Fv84, Ar84, lta84, ltb84, CH84, -, sfn84, st84⟩ := ldcCH X75 hx hZ43 hown43 w_173 (fun a ha => hw a ((by decide +kernel : ∀ a ∈ Bundle.stringAtoms, a ∈ tables_1) a ha)) e75 hS43 (Nat.le_trans (Nat.le_trans hk43 Kq57.1) Kq75.1) hEL (by decide +kernel) C81.1 (vs := [(.int (44 : Int32)), (.int (32 : Int32))]) (z := 2) (by decide +kernel) (by decide) (by decide) (g := (mkF m 34 #[.val (.ref g)] [(.ref sb)])) rfl (own_d hby d36_34) (n := 8) (by decide) (by decide) (by decide) (by decide)
    have K84 := (Keep.refl T75.heap ([] : List Addr)).ext E84
    have C84 := C81.trans CH84
    have KK6 : Keep h0 h84 ([] : List Addr) := KK5.trans K84 all0
    have Zs6 : n0 ≤ h84.size := Nat.le_trans Zs5 K84.1
    have sf85 := D80.safe lt79 sf78
    have lt86 := Nat.lt_of_lt_of_le lt79 Kq75.1
    have sf87 := CH84.safe lt86 sf85
    have lt88 := Nat.lt_of_lt_of_le lt86 K84.1
    have nl84_sb := sfn84 _ sf87
    have sf89 := D80.safe lt77 sf76
    have lt90 := Nat.lt_of_lt_of_le lt77 Kq75.1
    have sf91 := CH84.safe lt90 sf89
    have lt92 := Nat.lt_of_lt_of_le lt90 K84.1
    have nl84_t := sfn84 _ sf91
    have cc94 : Steps p.tables e below S0' (T84.setTop (mkF m 36 #[.val (.ref g)] [(.ref q2), (.ref sb)])) := (cc83.trans (st84 _ (Steps.refl _)))
    have fa93 : Old Z n0 h84 := ((fa74.keep Kq75 (allS gn_sb (allS gn_t all0))).keep K84 all0)
    have fa95 : Exa Z h84 sb "java/lang/StringBuilder" := (fa82.keep K84)
    have fa96 : Fld Z h84 sb "java/lang/AbstractStringBuilder" "coder" "B" (.int (0 : Int32)) := (f175.keep K84 nin0)
    have fa97 : Fld Z h84 sb "java/lang/AbstractStringBuilder" "count" "I" (.int (Int32.ofNat ((([] : List Int32) ++ ([91] : List Int32)) ++ cs).length)) := (f275.keep K84 nin0)
    have fa98 : Fld Z h84 sb "java/lang/AbstractStringBuilder" "value" "[B" (.ref t) := (f375.keep K84 nin0)
    have fa99 : Arv Z h84 t kt .byte (16 : Int32) (own_by ((([] : List Int32) ++ ([91] : List Int32)) ++ cs)) (.int (0 : Int32)) := (f475.keep K84 nin0)
    obtain ⟨cq100, kq100, qa100, qb100, qc100⟩ := isOf hZ84 e84 fa95
    obtain ⟨_, _, ⟨T100, L100, k100, n100⟩, -, X100, ⟨Lc100, hQ100, l100, y100, z100⟩, st100⟩ := X84.virtualBack hx (y := (⟨"java/lang/StringBuilder", "append", "(Ljava/lang/String;)Ljava/lang/StringBuilder;"⟩ : MethodName)) (z := (⟨"java/lang/StringBuilder", "append", "(Ljava/lang/String;)Ljava/lang/StringBuilder;"⟩ : MethodName)) hown84 (mvT hZ84 w_130) (mvT hZ84 w_131) (notFace_of_selects (args := #[]) (mvT hZ84 w_133)) (mvT hZ84 w_133) (mvT hZ84 w_132) (by decide) (backOf (W := 0) (own_app l Z a0 hw sb t kt ((([] : List Int32) ++ ([91] : List Int32)) ++ cs) q2 ([44, 32] : List Int32) z h84 n0 Zs6 fa93 O2 P5 fa95 fa96 fa97 fa98 fa99 (⟨Ex84, Fc84, by decide, by decide, tq2, _, Fv84, Ar84⟩ : own_Lat Z h84 q2 ([44, 32] : List Int32)) gn_sb gn_t (by first | omega | (simp; done) | (simp; omega))) hZ84 w_134 w_113 (by decide) (by decide)) qa100 qc100 (g := (mkF m 36 #[.val (.ref g)] [(.ref q2), (.ref sb)])) rfl (by rw [hml]; rfl) (Steps.refl _) (argsL := [(.ref q2)]) (rest := []) (lenOf own_pd22 rfl) rfl (by show 2 * 0 + _ ≤ _; exact Nat.le_of_eq rfl) (own_d hby d36_36) (fun _ _ => ⟨rfl, e84, Nat.le_of_ble_eq_true rfl, Nat.le_of_ble_eq_true rfl⟩)
    dsimp only [Pt.U, Pt.locs, Pt.cells, Pt.slots] at X100 l100 y100 z100 st100 hQ100
    subst l100 y100 z100
    obtain ⟨rfl, Nq100, Kq100, f1100, f2100, f3100, f4100⟩ := hQ100
    have N100 := Fr.app N75 Nq100
    have D101 := CHr.keep Kq100 (sfS sf87 (sfS sf91 sf0)) C84.1
    have C102 := C84.trans D101
    have KK7 : Keep h0 T100.heap ([] : List Addr) := KK6.trans Kq100 (allS (Or.inr s0_sb) (allS (Or.inr s0_t) all0))
    have Zs7 : n0 ≤ T100.heap.size := Nat.le_trans Zs6 Kq100.1
    have e100 : T100.heap = T100.heap := rfl
    have cc104 : Steps p.tables e below S0' (T100.setTop (mkF m 39 #[.val (.ref g)] [(.ref sb)])) := (Steps.trans cc94 st100)
    have fa103 : Exa Z T100.heap sb "java/lang/StringBuilder" := (fa95.keep Kq100)
    have cc106 : Steps p.tables e below S0' (T100.setTop (mkF m 40 #[.val (.ref g)] [(.ref g), (.ref sb)])) := Steps.trans cc104 (by
      refine XS.aloadN X100.here hx rfl (own_d hby d36_39) rfl rfl ?_
      exact Steps.refl _)
    have fa105 : Fld Z T100.heap g "com/example/firm_roles/firmroles/RoleRange" "high" "Lcom/example/firm_roles/firmroles/Name;" (.ref b) := (((((((F3.keep K21 nin0).keep Kq26 (ninS ne_g_sb nin0)).keep K43 nin0).keep Kq57 (ninS ne_g_sb (ninS ne_g_t nin0))).keep Kq75 (ninS ne_g_sb (ninS ne_g_t nin0))).keep K84 nin0).keep Kq100 (ninS ne_g_sb (ninS ne_g_t nin0)))
    obtain ⟨T107, X107, e107, st107⟩ := getF X100 hx hZ84 hown84 (host := "") (Or.inl w_102) Via.refl e100 fa105 (g := (mkF m 40 #[.val (.ref g)] [(.ref g), (.ref sb)])) rfl rfl (own_d hby d36_40)
    have cc109 : Steps p.tables e below S0' (T107.setTop (mkF m 43 #[.val (.ref g)] [(.ref b), (.ref sb)])) := (cc106.trans (st107 _ (Steps.refl _)))
    have fa108 : Fld Z T100.heap b "com/example/firm_roles/firmroles/Name" "value" "Ljava/lang/String;" (.ref y) := (((((((Fb.keep K21 nin0).keep Kq26 (ninS ne_b_sb nin0)).keep K43 nin0).keep Kq57 (ninS ne_b_sb (ninS ne_b_t nin0))).keep Kq75 (ninS ne_b_sb (ninS ne_b_t nin0))).keep K84 nin0).keep Kq100 (ninS ne_b_sb (ninS ne_b_t nin0)))
    have fa110 : Exa Z T100.heap b "com/example/firm_roles/firmroles/Name" := ((((((fa29.keep Kq26).keep K43).keep Kq57).keep Kq75).keep K84).keep Kq100)
    obtain ⟨cq111, kq111, qa111, qb111, qc111⟩ := isOf hZ84 e107 fa110
    obtain ⟨_, _, ⟨T111, L111, k111, n111⟩, -, X111, ⟨Lc111, hQ111, l111, y111, z111⟩, st111⟩ := X107.virtualBack hx (y := (⟨"com/example/firm_roles/firmroles/Name", "value", "()Ljava/lang/String;"⟩ : MethodName)) (z := (⟨"com/example/firm_roles/firmroles/Name", "value", "()Ljava/lang/String;"⟩ : MethodName)) hown84 (mvT hZ84 w_168) (mvT hZ84 w_169) (notFace_of_selects (args := #[]) (mvT hZ84 w_171)) (mvT hZ84 w_171) (mvT hZ84 w_170) (by decide) (backOf (W := 1) (own_val l Z a0 hw b y T100.heap n0 Zs7 fa108) hZ84 w_172 w_36 (by decide) (by decide)) qa111 qc111 (g := (mkF m 43 #[.val (.ref g)] [(.ref b), (.ref sb)])) rfl (by rw [hml]; rfl) (Steps.refl _) (argsL := []) (rest := [(.ref sb)]) (lenOf own_pd23 rfl) rfl (by show 2 * 0 + _ ≤ _; exact Nat.le_of_eq rfl) (own_d hby d36_43) (fun _ _ => ⟨rfl, e107, Nat.le_of_ble_eq_true rfl, Nat.le_of_ble_eq_true rfl⟩)
    dsimp only [Pt.U, Pt.locs, Pt.cells, Pt.slots] at X111 l111 y111 z111 st111 hQ111
    subst l111 y111 z111
    obtain ⟨rfl, Nq111, eq111⟩ := hQ111
    have N111 := Fr.app N100 Nq111
    have e111 : T111.heap = T100.heap := eq111
    have cc113 : Steps p.tables e below S0' (T111.setTop (mkF m 46 #[.val (.ref g)] [(.ref y), (.ref sb)])) := (Steps.trans cc109 st111)
    have fa112 : Exa Z T100.heap y "java/lang/String" := ((((((fa32.keep Kq26).keep K43).keep Kq57).keep Kq75).keep K84).keep Kq100)
    have fa114 : Fld Z T100.heap y "java/lang/String" "coder" "B" (.int (0 : Int32)) := (((((((Cy.keep K21 nin0).keep Kq26 (ninS ne_y_sb nin0)).keep K43 nin0).keep Kq57 (ninS ne_y_sb (ninS ne_y_t nin0))).keep Kq75 (ninS ne_y_sb (ninS ne_y_t nin0))).keep K84 nin0).keep Kq100 (ninS ne_y_sb (ninS ne_y_t nin0)))
    have fa115 : Fld Z T100.heap y "java/lang/String" "value" "[B" (.ref ty) := (((((((Vy.keep K21 nin0).keep Kq26 (ninS ne_y_sb nin0)).keep K43 nin0).keep Kq57 (ninS ne_y_sb (ninS ne_y_t nin0))).keep Kq75 (ninS ne_y_sb (ninS ne_y_t nin0))).keep K84 nin0).keep Kq100 (ninS ne_y_sb (ninS ne_y_t nin0)))
    have fa116 : Arv Z T100.heap ty ky .byte (Int32.ofNat ds.length) (own_by ds) (.int (0 : Int32)) := ((((((fa33.keep Kq26 (ninS ne_ty_sb nin0)).keep K43 nin0).keep Kq57 (ninS ne_ty_sb (ninS ne_ty_t nin0))).keep Kq75 (ninS ne_ty_sb (ninS ne_ty_t nin0))).keep K84 nin0).keep Kq100 (ninS ne_ty_sb (ninS ne_ty_t nin0)))
    have fa117 : Old Z n0 T100.heap := (fa93.keep Kq100 (allS gn_sb (allS gn_t all0)))
    obtain ⟨cq118, kq118, qa118, qb118, qc118⟩ := isOf hZ84 e111 fa103
    obtain ⟨_, _, ⟨T118, L118, k118, n118⟩, -, X118, ⟨Lc118, hQ118, l118, y118, z118⟩, st118⟩ := X111.virtualBack hx (y := (⟨"java/lang/StringBuilder", "append", "(Ljava/lang/String;)Ljava/lang/StringBuilder;"⟩ : MethodName)) (z := (⟨"java/lang/StringBuilder", "append", "(Ljava/lang/String;)Ljava/lang/StringBuilder;"⟩ : MethodName)) hown84 (mvT hZ84 w_130) (mvT hZ84 w_131) (notFace_of_selects (args := #[]) (mvT hZ84 w_133)) (mvT hZ84 w_133) (mvT hZ84 w_132) (by decide) (backOf (W := 0) (own_app l Z a0 hw sb t kt (((([] : List Int32) ++ ([91] : List Int32)) ++ cs) ++ ([44, 32] : List Int32)) y ds z T100.heap n0 Zs7 fa117 O2 P5 fa103 f1100 f2100 f3100 f4100 (⟨fa112, fa114, py, ly, ty, ky, fa115, fa116⟩ : own_Lat Z T100.heap y ds) gn_sb gn_t (by first | omega | (simp; done) | (simp; omega))) hZ84 w_134 w_113 (by decide) (by decide)) qa118 qc118 (g := (mkF m 46 #[.val (.ref g)] [(.ref y), (.ref sb)])) rfl (by rw [hml]; rfl) (Steps.refl _) (argsL := [(.ref y)]) (rest := []) (lenOf own_pd22 rfl) rfl (by show 2 * 0 + _ ≤ _; exact Nat.le_of_eq rfl) (own_d hby d36_46) (fun _ _ => ⟨rfl, e111, Nat.le_of_ble_eq_true rfl, Nat.le_of_ble_eq_true rfl⟩)
    dsimp only [Pt.U, Pt.locs, Pt.cells, Pt.slots] at X118 l118 y118 z118 st118 hQ118
    subst l118 y118 z118
    obtain ⟨rfl, Nq118, Kq118, f1118, f2118, f3118, f4118⟩ := hQ118
    have N118 := Fr.app N111 Nq118
    have sf119 := D101.safe lt92 sf91
    have lt120 := Nat.lt_of_lt_of_le lt92 Kq100.1
    have sf121 := D101.safe lt88 sf87
    have lt122 := Nat.lt_of_lt_of_le lt88 Kq100.1
    have D123 := CHr.keep Kq118 (sfS sf121 (sfS sf119 sf0)) C102.1
    have C124 := C102.trans D123
    have KK8 : Keep h0 T118.heap ([] : List Addr) := KK7.trans Kq118 (allS (Or.inr s0_sb) (allS (Or.inr s0_t) all0))
    have Zs8 : n0 ≤ T118.heap.size := Nat.le_trans Zs7 Kq118.1
    have e118 : T118.heap = T118.heap := rfl
    have cc126 : Steps p.tables e below S0' (T118.setTop (mkF m 49 #[.val (.ref g)] [(.ref sb)])) := (Steps.trans cc113 st118)
    have fa125 : Exa Z T118.heap sb "java/lang/StringBuilder" := (fa103.keep Kq118)
    have cc128 : Steps p.tables e below S0' (T118.setTop (mkF m 50 #[.val (.ref g)] [(.ref g), (.ref sb)])) := Steps.trans cc126 (by
      refine XS.aloadN X118.here hx rfl (own_d hby d36_49) rfl rfl ?_
      exact Steps.refl _)
    have fa127 : Fld Z T118.heap g "com/example/firm_roles/firmroles/RoleRange" "highIncluded" "Z" (.int hi) := ((((((((F4.keep K21 nin0).keep Kq26 (ninS ne_g_sb nin0)).keep K43 nin0).keep Kq57 (ninS ne_g_sb (ninS ne_g_t nin0))).keep Kq75 (ninS ne_g_sb (ninS ne_g_t nin0))).keep K84 nin0).keep Kq100 (ninS ne_g_sb (ninS ne_g_t nin0))).keep Kq118 (ninS ne_g_sb (ninS ne_g_t nin0)))
    obtain ⟨T129, X129, e129, st129⟩ := getF X118 hx hZ84 hown84 (host := "") (Or.inl w_104) Via.refl e118 fa127 (g := (mkF m 50 #[.val (.ref g)] [(.ref g), (.ref sb)])) rfl rfl (own_d hby d36_50)
    have cc130 : Steps p.tables e below S0' (T129.setTop (mkF m 53 #[.val (.ref g)] [(.int hi), (.ref sb)])) := (cc128.trans (st129 _ (Steps.refl _)))
    by_cases qh : hi = 0
    · skip
      have cc131 : Steps p.tables e below S0' (T129.setTop (mkF m 61 #[.val (.ref g)] [(.ref sb)])) := Steps.trans cc130 (by
        refine XS.ifYes X129.here hx rfl (pc0 := 53) rfl (own_d hby d36_53) rfl (i0_eq_t qh) (by decide) rfl ?_
        exact Steps.refl _)
      obtain ⟨q3, T132, h132, k132, tq3, kb132, X132, e132, E132, hS132, hk132, hZ132, hown132, Ex132, Fc132, Fv132, Ar132, lta132, ltb132, CH132, -, sfn132, st132⟩ := ldcCH X129 hx hZ84 hown84 w_174 (fun a ha => hw a ((by decide +kernel : ∀ a ∈ Bundle.stringAtoms, a ∈ tables_1) a ha)) e129 hS84 (Nat.le_trans (Nat.le_trans hk84 Kq100.1) Kq118.1) hEL (by decide +kernel) C124.1 (vs := [(.int (41 : Int32))]) (z := 1) (by decide +kernel) (by decide) (by decide) (g := (mkF m 61 #[.val (.ref g)] [(.ref sb)])) rfl (own_d hby d36_61) (n := 8) (by decide) (by decide) (by decide) (by decide)
      have K132 := (Keep.refl T118.heap ([] : List Addr)).ext E132
      have C132 := C124.trans CH132
      have KK9 : Keep h0 h132 ([] : List Addr) := KK8.trans K132 all0
      have Zs9 : n0 ≤ h132.size := Nat.le_trans Zs8 K132.1
      have sf133 := D123.safe lt122 sf121
      have lt134 := Nat.lt_of_lt_of_le lt122 Kq118.1
      have sf135 := CH132.safe lt134 sf133
      have lt136 := Nat.lt_of_lt_of_le lt134 K132.1
      have nl132_sb := sfn132 _ sf135
      have sf137 := D123.safe lt120 sf119
      have lt138 := Nat.lt_of_lt_of_le lt120 Kq118.1
      have sf139 := CH132.safe lt138 sf137
      have lt140 := Nat.lt_of_lt_of_le lt138 K132.1
      have nl132_t := sfn132 _ sf139
      have cc142 : Steps p.tables e below S0' (T132.setTop (mkF m 63 #[.val (.ref g)] [(.ref q3), (.ref sb)])) := (cc131.trans (st132 _ (Steps.refl _)))
      have fa141 : Old Z n0 h132 := ((fa117.keep Kq118 (allS gn_sb (allS gn_t all0))).keep K132 all0)
      have fa143 : Exa Z h132 sb "java/lang/StringBuilder" := (fa125.keep K132)
      have fa144 : Fld Z h132 sb "java/lang/AbstractStringBuilder" "coder" "B" (.int (0 : Int32)) := (f1118.keep K132 nin0)
      have fa145 : Fld Z h132 sb "java/lang/AbstractStringBuilder" "count" "I" (.int (Int32.ofNat ((((([] : List Int32) ++ ([91] : List Int32)) ++ cs) ++ ([44, 32] : List Int32)) ++ ds).length)) := (f2118.keep K132 nin0)
      have fa146 : Fld Z h132 sb "java/lang/AbstractStringBuilder" "value" "[B" (.ref t) := (f3118.keep K132 nin0)
      have fa147 : Arv Z h132 t kt .byte (16 : Int32) (own_by ((((([] : List Int32) ++ ([91] : List Int32)) ++ cs) ++ ([44, 32] : List Int32)) ++ ds)) (.int (0 : Int32)) := (f4118.keep K132 nin0)
      obtain ⟨cq148, kq148, qa148, qb148, qc148⟩ := isOf hZ132 e132 fa143
      obtain ⟨_, _, ⟨T148, L148, k148, n148⟩, -, X148, ⟨Lc148, hQ148, l148, y148, z148⟩, st148⟩ := X132.virtualBack hx (y := (⟨"java/lang/StringBuilder", "append", "(Ljava/lang/String;)Ljava/lang/StringBuilder;"⟩ : MethodName)) (z := (⟨"java/lang/StringBuilder", "append", "(Ljava/lang/String;)Ljava/lang/StringBuilder;"⟩ : MethodName)) hown132 (mvT hZ132 w_130) (mvT hZ132 w_131) (notFace_of_selects (args := #[]) (mvT hZ132 w_133)) (mvT hZ132 w_133) (mvT hZ132 w_132) (by decide) (backOf (W := 0) (own_app l Z a0 hw sb t kt ((((([] : List Int32) ++ ([91] : List Int32)) ++ cs) ++ ([44, 32] : List Int32)) ++ ds) q3 ([41] : List Int32) z h132 n0 Zs9 fa141 O2 P5 fa143 fa144 fa145 fa146 fa147 (⟨Ex132, Fc132, by decide, by decide, tq3, _, Fv132, Ar132⟩ : own_Lat Z h132 q3 ([41] : List Int32)) gn_sb gn_t (by first | omega | (simp; done) | (simp; omega))) hZ132 w_134 w_113 (by decide) (by decide)) qa148 qc148 (g := (mkF m 63 #[.val (.ref g)] [(.ref q3), (.ref sb)])) rfl (by rw [hml]; rfl) (Steps.refl _) (argsL := [(.ref q3)]) (rest := []) (lenOf own_pd22 rfl) rfl (by show 2 * 0 + _ ≤ _; exact Nat.le_of_eq rfl) (own_d hby d36_63) (fun _ _ => ⟨rfl, e132, Nat.le_of_ble_eq_true rfl, Nat.le_of_ble_eq_true rfl⟩)
      dsimp only [Pt.U, Pt.locs, Pt.cells, Pt.slots] at X148 l148 y148 z148 st148 hQ148
      subst l148 y148 z148
      obtain ⟨rfl, Nq148, Kq148, f1148, f2148, f3148, f4148⟩ := hQ148
      have N148 := Fr.app N118 Nq148
      have D149 := CHr.keep Kq148 (sfS sf135 (sfS sf139 sf0)) C132.1
      have C150 := C132.trans D149
      have KK10 : Keep h0 T148.heap ([] : List Addr) := KK9.trans Kq148 (allS (Or.inr s0_sb) (allS (Or.inr s0_t) all0))
      have Zs10 : n0 ≤ T148.heap.size := Nat.le_trans Zs9 Kq148.1
      have e148 : T148.heap = T148.heap := rfl
      have cc152 : Steps p.tables e below S0' (T148.setTop (mkF m 66 #[.val (.ref g)] [(.ref sb)])) := (Steps.trans cc142 st148)
      have fa151 : Exa Z T148.heap sb "java/lang/StringBuilder" := (fa143.keep Kq148)
      have hpb : ∀ w ∈ (((((([] : List Int32) ++ ([91] : List Int32)) ++ cs) ++ ([44, 32] : List Int32)) ++ ds) ++ ([41] : List Int32)), ¬ w < 0 ∧ ¬ (255 : Int32) < w := by
        intro w hw'
        simp only [List.mem_append, List.mem_cons, List.not_mem_nil, or_false, false_or] at hw'
        rcases hw' with (((rfl | q) | rfl | rfl) | q) | rfl <;> first | decide | exact px _ q | exact py _ q
      have fa153 : Old Z n0 T148.heap := (fa141.keep Kq148 (allS gn_sb (allS gn_t all0)))
      obtain ⟨cq154, kq154, qa154, qb154, qc154⟩ := isOf hZ132 e148 fa151
      obtain ⟨_, _, ⟨T154, L154, k154, n154⟩, -, X154, ⟨Lc154, hQ154, l154, y154, z154⟩, st154⟩ := X148.virtualBack hx (y := (⟨"java/lang/StringBuilder", "toString", "()Ljava/lang/String;"⟩ : MethodName)) (z := (⟨"java/lang/StringBuilder", "toString", "()Ljava/lang/String;"⟩ : MethodName)) hown132 (mvT hZ132 w_175) (mvT hZ132 w_176) (notFace_of_selects (args := #[]) (mvT hZ132 w_178)) (mvT hZ132 w_178) (mvT hZ132 w_177) (by decide) (backOf (W := 0) (own_tos l Z a0 hw sb t kt (((((([] : List Int32) ++ ([91] : List Int32)) ++ cs) ++ ([44, 32] : List Int32)) ++ ds) ++ ([41] : List Int32)) z T148.heap n0 Zs10 fa153 O2 P5 fa151 f1148 f2148 f3148 f4148 hpb (by first | omega | (simp; done) | (simp; omega))) hZ132 w_179 w_113 (by decide) (by decide)) qa154 qc154 (g := (mkF m 66 #[.val (.ref g)] [(.ref sb)])) rfl (by rw [hml]; rfl) (Steps.refl _) (argsL := []) (rest := []) (lenOf own_pd23 rfl) rfl (by show 2 * 0 + _ ≤ _; exact Nat.le_of_eq rfl) (own_d hby d36_66) (fun _ _ => ⟨rfl, e148, Nat.le_of_ble_eq_true rfl, Nat.le_of_ble_eq_true rfl⟩)
      dsimp only [Pt.U, Pt.locs, Pt.cells, Pt.slots] at X154 l154 y154 z154 st154 hQ154
      subst l154 y154 z154
      obtain ⟨s1, rfl, Nq154, Kq154, sq154, Hq154⟩ := hQ154
      have N154 := Fr.app N148 Nq154
      have D155 := CHr.keep Kq154 sf0 C150.1
      have C156 := C150.trans D155
      have KK11 : Keep h0 T154.heap ([] : List Addr) := KK10.trans Kq154 all0
      have Zs11 : n0 ≤ T154.heap.size := Nat.le_trans Zs10 Kq154.1
      have e154 : T154.heap = T154.heap := rfl
      have eR : (((((([] : List Int32) ++ ([91] : List Int32)) ++ cs) ++ ([44, 32] : List Int32)) ++ ds) ++ ([41] : List Int32)) = (((if li = 0 then 40 else 91) :: cs) ++ (44 :: 32 :: ds) ++ [if hi = 0 then 41 else 93]) := by simp [ql, qh]
      have cc157 : Steps p.tables e below S0' (T154.setTop (mkF m 69 #[.val (.ref g)] [(.ref s1)])) := (Steps.trans cc152 st154)
      have cE := cc157
      rw [hS0'] at cE
      obtain ⟨fs, hr_, hrun, hended, hE⟩ := X154.leaveW hS132 (by rw [e154]; exact (Nat.le_trans (Nat.le_trans hk132 Kq148.1) Kq154.1)) (v := some (.ref s1)) (fun h => by rw [Bd.returns] at h; cases h)
      have CE := C156.trans (CHv.at X154 hZ132 hEL C156.1)
      refine ⟨_, _, cE.trans (X154.areturnOut hx (rfl) Bd.returns rfl (own_d hby d36_69) hr_), hrun, hended, _, _, rfl, ?_, ?_, hE.1, hE.2.1, hE.2.2.1, hE.2.2.2.mono (by first | decide | omega) (by first | decide | omega)⟩
      · show Q_own_rts Z g a b x y li hi cs ds z h0 n0 _ T154.heap _
        rw [e154]
        exact ⟨s1, rfl, N154, KK11, eR ▸ Hq154⟩
      · rw [hh]
        show CHr Z EL s.vm h0 T154.vm T154.heap
        rw [e154]
        exact CE
    · skip
      have cc131 : Steps p.tables e below S0' (T129.setTop (mkF m 56 #[.val (.ref g)] [(.ref sb)])) := Steps.trans cc130 (by
        refine XS.ifNo X129.here hx rfl (own_d hby d36_53) rfl (i0_eq_f qh) ?_
        exact Steps.refl _)
      obtain ⟨q3, T132, h132, k132, tq3, kb132, X132, e132, E132, hS132, hk132, hZ132, hown132, Ex132, Fc132, Fv132, Ar132, lta132, ltb132, CH132, -, sfn132, st132⟩ := ldcCH X129 hx hZ84 hown84 w_241 (fun a ha => hw a ((by decide +kernel : ∀ a ∈ Bundle.stringAtoms, a ∈ tables_1) a ha)) e129 hS84 (Nat.le_trans (Nat.le_trans hk84 Kq100.1) Kq118.1) hEL (by decide +kernel) C124.1 (vs := [(.int (93 : Int32))]) (z := 1) (by decide +kernel) (by decide) (by decide) (g := (mkF m 56 #[.val (.ref g)] [(.ref sb)])) rfl (own_d hby d36_56) (n := 8) (by decide) (by decide) (by decide) (by decide)
      have K132 := (Keep.refl T118.heap ([] : List Addr)).ext E132
      have C132 := C124.trans CH132
      have KK9 : Keep h0 h132 ([] : List Addr) := KK8.trans K132 all0
      have Zs9 : n0 ≤ h132.size := Nat.le_trans Zs8 K132.1
      have sf133 := D123.safe lt122 sf121
      have lt134 := Nat.lt_of_lt_of_le lt122 Kq118.1
      have sf135 := CH132.safe lt134 sf133
      have lt136 := Nat.lt_of_lt_of_le lt134 K132.1
      have nl132_sb := sfn132 _ sf135
      have sf137 := D123.safe lt120 sf119
      have lt138 := Nat.lt_of_lt_of_le lt120 Kq118.1
      have sf139 := CH132.safe lt138 sf137
      have lt140 := Nat.lt_of_lt_of_le lt138 K132.1
      have nl132_t := sfn132 _ sf139
      have cc142 : Steps p.tables e below S0' (T132.setTop (mkF m 63 #[.val (.ref g)] [(.ref q3), (.ref sb)])) := Steps.trans (cc131.trans (st132 _ (Steps.refl _))) (by
        refine XS.goto X132.here hx rfl (pc0 := 58) rfl (own_d hby d36_58) (by decide) rfl ?_
        exact Steps.refl _)
      have fa141 : Old Z n0 h132 := ((fa117.keep Kq118 (allS gn_sb (allS gn_t all0))).keep K132 all0)
      have fa143 : Exa Z h132 sb "java/lang/StringBuilder" := (fa125.keep K132)
      have fa144 : Fld Z h132 sb "java/lang/AbstractStringBuilder" "coder" "B" (.int (0 : Int32)) := (f1118.keep K132 nin0)
      have fa145 : Fld Z h132 sb "java/lang/AbstractStringBuilder" "count" "I" (.int (Int32.ofNat ((((([] : List Int32) ++ ([91] : List Int32)) ++ cs) ++ ([44, 32] : List Int32)) ++ ds).length)) := (f2118.keep K132 nin0)
      have fa146 : Fld Z h132 sb "java/lang/AbstractStringBuilder" "value" "[B" (.ref t) := (f3118.keep K132 nin0)
      have fa147 : Arv Z h132 t kt .byte (16 : Int32) (own_by ((((([] : List Int32) ++ ([91] : List Int32)) ++ cs) ++ ([44, 32] : List Int32)) ++ ds)) (.int (0 : Int32)) := (f4118.keep K132 nin0)
      obtain ⟨cq148, kq148, qa148, qb148, qc148⟩ := isOf hZ132 e132 fa143
      obtain ⟨_, _, ⟨T148, L148, k148, n148⟩, -, X148, ⟨Lc148, hQ148, l148, y148, z148⟩, st148⟩ := X132.virtualBack hx (y := (⟨"java/lang/StringBuilder", "append", "(Ljava/lang/String;)Ljava/lang/StringBuilder;"⟩ : MethodName)) (z := (⟨"java/lang/StringBuilder", "append", "(Ljava/lang/String;)Ljava/lang/StringBuilder;"⟩ : MethodName)) hown132 (mvT hZ132 w_130) (mvT hZ132 w_131) (notFace_of_selects (args := #[]) (mvT hZ132 w_133)) (mvT hZ132 w_133) (mvT hZ132 w_132) (by decide) (backOf (W := 0) (own_app l Z a0 hw sb t kt ((((([] : List Int32) ++ ([91] : List Int32)) ++ cs) ++ ([44, 32] : List Int32)) ++ ds) q3 ([93] : List Int32) z h132 n0 Zs9 fa141 O2 P5 fa143 fa144 fa145 fa146 fa147 (⟨Ex132, Fc132, by decide, by decide, tq3, _, Fv132, Ar132⟩ : own_Lat Z h132 q3 ([93] : List Int32)) gn_sb gn_t (by first | omega | (simp; done) | (simp; omega))) hZ132 w_134 w_113 (by decide) (by decide)) qa148 qc148 (g := (mkF m 63 #[.val (.ref g)] [(.ref q3), (.ref sb)])) rfl (by rw [hml]; rfl) (Steps.refl _) (argsL := [(.ref q3)]) (rest := []) (lenOf own_pd22 rfl) rfl (by show 2 * 0 + _ ≤ _; exact Nat.le_of_eq rfl) (own_d hby d36_63) (fun _ _ => ⟨rfl, e132, Nat.le_of_ble_eq_true rfl, Nat.le_of_ble_eq_true rfl⟩)
      dsimp only [Pt.U, Pt.locs, Pt.cells, Pt.slots] at X148 l148 y148 z148 st148 hQ148
      subst l148 y148 z148
      obtain ⟨rfl, Nq148, Kq148, f1148, f2148, f3148, f4148⟩ := hQ148
      have N148 := Fr.app N118 Nq148
      have D149 := CHr.keep Kq148 (sfS sf135 (sfS sf139 sf0)) C132.1
      have C150 := C132.trans D149
      have KK10 : Keep h0 T148.heap ([] : List Addr) := KK9.trans Kq148 (allS (Or.inr s0_sb) (allS (Or.inr s0_t) all0))
      have Zs10 : n0 ≤ T148.heap.size := Nat.le_trans Zs9 Kq148.1
      have e148 : T148.heap = T148.heap := rfl
      have cc152 : Steps p.tables e below S0' (T148.setTop (mkF m 66 #[.val (.ref g)] [(.ref sb)])) := (Steps.trans cc142 st148)
      have fa151 : Exa Z T148.heap sb "java/lang/StringBuilder" := (fa143.keep Kq148)
      have hpb : ∀ w ∈ (((((([] : List Int32) ++ ([91] : List Int32)) ++ cs) ++ ([44, 32] : List Int32)) ++ ds) ++ ([93] : List Int32)), ¬ w < 0 ∧ ¬ (255 : Int32) < w := by
        intro w hw'
        simp only [List.mem_append, List.mem_cons, List.not_mem_nil, or_false, false_or] at hw'
        rcases hw' with (((rfl | q) | rfl | rfl) | q) | rfl <;> first | decide | exact px _ q | exact py _ q
      have fa153 : Old Z n0 T148.heap := (fa141.keep Kq148 (allS gn_sb (allS gn_t all0)))
      obtain ⟨cq154, kq154, qa154, qb154, qc154⟩ := isOf hZ132 e148 fa151
      obtain ⟨_, _, ⟨T154, L154, k154, n154⟩, -, X154, ⟨Lc154, hQ154, l154, y154, z154⟩, st154⟩ := X148.virtualBack hx (y := (⟨"java/lang/StringBuilder", "toString", "()Ljava/lang/String;"⟩ : MethodName)) (z := (⟨"java/lang/StringBuilder", "toString", "()Ljava/lang/String;"⟩ : MethodName)) hown132 (mvT hZ132 w_175) (mvT hZ132 w_176) (notFace_of_selects (args := #[]) (mvT hZ132 w_178)) (mvT hZ132 w_178) (mvT hZ132 w_177) (by decide) (backOf (W := 0) (own_tos l Z a0 hw sb t kt (((((([] : List Int32) ++ ([91] : List Int32)) ++ cs) ++ ([44, 32] : List Int32)) ++ ds) ++ ([93] : List Int32)) z T148.heap n0 Zs10 fa153 O2 P5 fa151 f1148 f2148 f3148 f4148 hpb (by first | omega | (simp; done) | (simp; omega))) hZ132 w_179 w_113 (by decide) (by decide)) qa154 qc154 (g := (mkF m 66 #[.val (.ref g)] [(.ref sb)])) rfl (by rw [hml]; rfl) (Steps.refl _) (argsL := []) (rest := []) (lenOf own_pd23 rfl) rfl (by show 2 * 0 + _ ≤ _; exact Nat.le_of_eq rfl) (own_d hby d36_66) (fun _ _ => ⟨rfl, e148, Nat.le_of_ble_eq_true rfl, Nat.le_of_ble_eq_true rfl⟩)
      dsimp only [Pt.U, Pt.locs, Pt.cells, Pt.slots] at X154 l154 y154 z154 st154 hQ154
      subst l154 y154 z154
      obtain ⟨s1, rfl, Nq154, Kq154, sq154, Hq154⟩ := hQ154
      have N154 := Fr.app N148 Nq154
      have D155 := CHr.keep Kq154 sf0 C150.1
      have C156 := C150.trans D155
      have KK11 : Keep h0 T154.heap ([] : List Addr) := KK10.trans Kq154 all0
      have Zs11 : n0 ≤ T154.heap.size := Nat.le_trans Zs10 Kq154.1
      have e154 : T154.heap = T154.heap := rfl
      have eR : (((((([] : List Int32) ++ ([91] : List Int32)) ++ cs) ++ ([44, 32] : List Int32)) ++ ds) ++ ([93] : List Int32)) = (((if li = 0 then 40 else 91) :: cs) ++ (44 :: 32 :: ds) ++ [if hi = 0 then 41 else 93]) := by simp [ql, qh]
      have cc157 : Steps p.tables e below S0' (T154.setTop (mkF m 69 #[.val (.ref g)] [(.ref s1)])) := (Steps.trans cc152 st154)
      have cE := cc157
      rw [hS0'] at cE
      obtain ⟨fs, hr_, hrun, hended, hE⟩ := X154.leaveW hS132 (by rw [e154]; exact (Nat.le_trans (Nat.le_trans hk132 Kq148.1) Kq154.1)) (v := some (.ref s1)) (fun h => by rw [Bd.returns] at h; cases h)
      have CE := C156.trans (CHv.at X154 hZ132 hEL C156.1)
      refine ⟨_, _, cE.trans (X154.areturnOut hx (rfl) Bd.returns rfl (own_d hby d36_69) hr_), hrun, hended, _, _, rfl, ?_, ?_, hE.1, hE.2.1, hE.2.2.1, hE.2.2.2.mono (by first | decide | omega) (by first | decide | omega)⟩
      · show Q_own_rts Z g a b x y li hi cs ds z h0 n0 _ T154.heap _
        rw [e154]
        exact ⟨s1, rfl, N154, KK11, eR ▸ Hq154⟩
      · rw [hh]
        show CHr Z EL s.vm h0 T154.vm T154.heap
        rw [e154]
        exact CE
def Q_own_law (Z : State) (p1 p2 p3 p4 p5 z : Int32) (f : Value) (h0 : Heap) (n0 : Nat) (v : Option Value) (h : Heap) (L : List Loc) : Prop := v = some (.int 1) ∧ Fr n0 L
set_option maxRecDepth 65536 in
set_option maxHeartbeats 40000000 in
theorem own_law (l : Launch) (Z : State) (a0 : Array Value) (hw : ∀ d ∈ tables_1, d.before a0 Z = true) (ws : List Jvm.Cond) (p1 p2 p3 p4 p5 z : Int32) (f : Value) (h0 : Heap) (n0 : Nat) (Z0 : n0 ≤ h0.size) (X00 : Old Z n0 h0) (O2 : Sta Z Z.heap "java/lang/String" "COMPACT_STRINGS" "Z" (.int z)) (P5 : ¬ z = 0) (O4 : Sta Z Z.heap "jdk/internal/util/Preconditions" "SIOOBE_FORMATTER" "Ljava/util/function/BiFunction;" f) (hf : f.isRef = true) :
    MetFree l x (head1 (Jvm.Cond.code x code maxLocals ret :: ws) room_1) (fun a_ U_ => a_ = #[(.int p1), (.int p2), (.int p3), (.int p4), (.int p5)] ∧ Z.Warmed39 U_.vm ∧ U_.heap = h0 ∧ CHv Z EL U_.vm h0) (fun _ _ _ _ _ => True) (fun _ U_ o_ V_ => ∃ v_ L_, o_ = .returned v_ ∧ Q_own_law Z p1 p2 p3 p4 p5 z f h0 n0 v_ V_.heap L_ ∧ CHr Z EL U_.vm U_.heap V_.vm V_.heap ∧ ReturnedEndW U_ o_ V_ L_ room_1.cells room_1.slots) := by
  refine MetFree.of_bodySF (plainFor_of_name own_pn0) hisR ?_
  intro p e s m args below meth c s₁ Bd hml0 hP hK
  obtain ⟨rfl, hZ, hh, hCH⟩ := hP
  have hx := Bd.exec
  have hby := Bd.bytes
  have hml : c.maxLocals = 21 := hml0
  have hown : s.vm.findClass "com/example/firm_roles/firmroles/RoleRangeToStringPinLaw" = some m.cls := findClass_of_methodNamed Bd.named
  have hnm := (name_of_methodNamed Bd.named Bd.method).1
  have X0 : Stand p l e room_1 (s.setVm s.vm) m #[(.int p1), (.int p2), (.int p3), (.int p4), (.int p5)] below meth c s₁ [] 0 0 := Stand.of_body Bd
  have e0 : s₁.heap = h0 := by rw [← hh, Bd.state]; rfl
  have N0 := Fr.nil n0
  have KK0 := Keep.refl h0 ([] : List Addr)
  have C0 := CHr.refl hCH
  have hS0 : s.Since s.vm 0 := (State.WarmedH.refl s).since 0
  have hk0 : 0 ≤ h0.size := Nat.zero_le _
  have hEL : EW Z a0 EL := own_EW hw
  have cc0 : Steps p.tables e below (s₁.setTop (entryFrame m #[(.int p1), (.int p2), (.int p3), (.int p4), (.int p5)] maxLocals)) (s₁.setTop (mkF m 0 #[.val (.int p1), .val (.int p2), .val (.int p3), .val (.int p4), .val (.int p5), .unset, .unset, .unset, .unset, .unset, .unset, .unset, .unset, .unset, .unset, .unset, .unset, .unset, .unset, .unset, .unset] [])) := XT.entry rfl
  obtain ⟨S0', hS0'⟩ : ∃ S, S = (s₁.setTop (entryFrame m #[(.int p1), (.int p2), (.int p3), (.int p4), (.int p5)] maxLocals)) := ⟨_, rfl⟩
  rw [← hS0'] at cc0
  have w_0 := hw _ (List.mem_of_getElem? (i := 0) rfl)
  have w_1 := hw _ (List.mem_of_getElem? (i := 1) rfl)
  have w_2 := hw _ (List.mem_of_getElem? (i := 2) rfl)
  have w_3 := hw _ (List.mem_of_getElem? (i := 3) rfl)
  have w_5 := hw _ (List.mem_of_getElem? (i := 5) rfl)
  have w_6 := hw _ (List.mem_of_getElem? (i := 6) rfl)
  have w_7 := hw _ (List.mem_of_getElem? (i := 7) rfl)
  have w_8 := hw _ (List.mem_of_getElem? (i := 8) rfl)
  have w_15 := hw _ (List.mem_of_getElem? (i := 15) rfl)
  have w_28 := hw _ (List.mem_of_getElem? (i := 28) rfl)
  have w_30 := hw _ (List.mem_of_getElem? (i := 30) rfl)
  have w_31 := hw _ (List.mem_of_getElem? (i := 31) rfl)
  have w_32 := hw _ (List.mem_of_getElem? (i := 32) rfl)
  have w_33 := hw _ (List.mem_of_getElem? (i := 33) rfl)
  have w_34 := hw _ (List.mem_of_getElem? (i := 34) rfl)
  have w_35 := hw _ (List.mem_of_getElem? (i := 35) rfl)
  have w_36 := hw _ (List.mem_of_getElem? (i := 36) rfl)
  have w_37 := hw _ (List.mem_of_getElem? (i := 37) rfl)
  have w_38 := hw _ (List.mem_of_getElem? (i := 38) rfl)
  have w_39 := hw _ (List.mem_of_getElem? (i := 39) rfl)
  have w_59 := hw _ (List.mem_of_getElem? (i := 59) rfl)
  have w_60 := hw _ (List.mem_of_getElem? (i := 60) rfl)
  have w_61 := hw _ (List.mem_of_getElem? (i := 61) rfl)
  have w_69 := hw _ (List.mem_of_getElem? (i := 69) rfl)
  have w_70 := hw _ (List.mem_of_getElem? (i := 70) rfl)
  have w_71 := hw _ (List.mem_of_getElem? (i := 71) rfl)
  have w_72 := hw _ (List.mem_of_getElem? (i := 72) rfl)
  have w_93 := hw _ (List.mem_of_getElem? (i := 93) rfl)
  have w_94 := hw _ (List.mem_of_getElem? (i := 94) rfl)
  have w_95 := hw _ (List.mem_of_getElem? (i := 95) rfl)
  have w_96 := hw _ (List.mem_of_getElem? (i := 96) rfl)
  have w_99 := hw _ (List.mem_of_getElem? (i := 99) rfl)
  have w_101 := hw _ (List.mem_of_getElem? (i := 101) rfl)
  have w_103 := hw _ (List.mem_of_getElem? (i := 103) rfl)
  have w_105 := hw _ (List.mem_of_getElem? (i := 105) rfl)
  have w_106 := hw _ (List.mem_of_getElem? (i := 106) rfl)
  have w_107 := hw _ (List.mem_of_getElem? (i := 107) rfl)
  have w_108 := hw _ (List.mem_of_getElem? (i := 108) rfl)
  have w_109 := hw _ (List.mem_of_getElem? (i := 109) rfl)
  have w_110 := hw _ (List.mem_of_getElem? (i := 110) rfl)
  have w_220 := hw _ (List.mem_of_getElem? (i := 220) rfl)
  have w_221 := hw _ (List.mem_of_getElem? (i := 221) rfl)
  have w_222 := hw _ (List.mem_of_getElem? (i := 222) rfl)
  have w_223 := hw _ (List.mem_of_getElem? (i := 223) rfl)
  have w_224 := hw _ (List.mem_of_getElem? (i := 224) rfl)
  have w_225 := hw _ (List.mem_of_getElem? (i := 225) rfl)
  have w_226 := hw _ (List.mem_of_getElem? (i := 226) rfl)
  have hw_words : ∀ d ∈ StrChars.Road.words, d.before a0 Z = true := fun d hd => hw d ((by decide +kernel : ∀ d ∈ StrChars.Road.words, d ∈ tables_1) d hd)
  have hw_wordsLen : ∀ d ∈ StrChars.Road.wordsLen, d.before a0 Z = true := fun d hd => hw d ((by decide +kernel : ∀ d ∈ StrChars.Road.wordsLen, d ∈ tables_1) d hd)
  have cc21 : Steps p.tables e below S0' (s₁.setTop (mkF m 4 #[.val (.int p1), .val (.int p2), .val (.int p3), .val (.int p4), .val (.int p5), .unset, .unset, .unset, .unset, .unset, .unset, .unset, .unset, .unset, .unset, .unset, .unset, .unset, .unset, .unset, .unset] [(.int (p5 &&& (1 : Int32)))])) := Steps.trans cc0 (by
    refine XS.iload X0.here hx rfl (own_d hby at_0) rfl ?_
    refine iconstV X0.here hx rfl 1 (own_d hby at_2) (by decide) ?_
    refine XS.iand X0.here hx rfl (own_d hby at_3) rfl ?_
    exact Steps.refl _)
  obtain ⟨li, hli, c_li⟩ : ∃ li : Int32, (li = 0 ∧ p5 &&& (1 : Int32) = 0 ∨ li = 1 ∧ ¬ p5 &&& (1 : Int32) = 0) ∧ Steps p.tables e below S0' (s₁.setTop (mkF m 12 #[.val (.int p1), .val (.int p2), .val (.int p3), .val (.int p4), .val (.int p5), .unset, .unset, .unset, .unset, .unset, .unset, .unset, .unset, .unset, .unset, .unset, .unset, .unset, .unset, .unset, .unset] [(.int li)])) := by
    by_cases hq : p5 &&& (1 : Int32) = 0
    · refine ⟨0, Or.inl ⟨rfl, hq⟩, cc21.trans ?_⟩
      refine XS.ifYes X0.here hx rfl (pc0 := 4) rfl (own_d hby at_4) rfl (i0_eq_t hq) (by decide) rfl ?_
      refine iconstV X0.here hx rfl 0 (own_d hby at_11) (by decide) ?_
      exact Steps.refl _
    · refine ⟨1, Or.inr ⟨rfl, hq⟩, cc21.trans ?_⟩
      refine XS.ifNo X0.here hx rfl (own_d hby at_4) rfl (i0_eq_f hq) ?_
      refine iconstV X0.here hx rfl 1 (own_d hby at_7) (by decide) ?_
      refine XS.goto X0.here hx rfl (pc0 := 8) rfl (own_d hby at_8) (by decide) rfl ?_
      exact Steps.refl _
  have cc22 : Steps p.tables e below S0' (s₁.setTop (mkF m 18 #[.val (.int p1), .val (.int p2), .val (.int p3), .val (.int p4), .val (.int p5), .val (.int li), .unset, .unset, .unset, .unset, .unset, .unset, .unset, .unset, .unset, .unset, .unset, .unset, .unset, .unset, .unset] [(.int (p5 &&& (2 : Int32)))])) := Steps.trans c_li (by
    refine XS.istore X0.here hx rfl (own_d hby at_12) rfl rfl ?_
    refine XS.iload X0.here hx rfl (own_d hby at_14) rfl ?_
    refine iconstV X0.here hx rfl 2 (own_d hby at_16) (by decide) ?_
    refine XS.iand X0.here hx rfl (own_d hby at_17) rfl ?_
    exact Steps.refl _)
  obtain ⟨hi, hhi, c_hi⟩ : ∃ hi : Int32, (hi = 0 ∧ p5 &&& (2 : Int32) = 0 ∨ hi = 1 ∧ ¬ p5 &&& (2 : Int32) = 0) ∧ Steps p.tables e below S0' (s₁.setTop (mkF m 26 #[.val (.int p1), .val (.int p2), .val (.int p3), .val (.int p4), .val (.int p5), .val (.int li), .unset, .unset, .unset, .unset, .unset, .unset, .unset, .unset, .unset, .unset, .unset, .unset, .unset, .unset, .unset] [(.int hi)])) := by
    by_cases hq : p5 &&& (2 : Int32) = 0
    · refine ⟨0, Or.inl ⟨rfl, hq⟩, cc22.trans ?_⟩
      refine XS.ifYes X0.here hx rfl (pc0 := 18) rfl (own_d hby at_18) rfl (i0_eq_t hq) (by decide) rfl ?_
      refine iconstV X0.here hx rfl 0 (own_d hby at_25) (by decide) ?_
      exact Steps.refl _
    · refine ⟨1, Or.inr ⟨rfl, hq⟩, cc22.trans ?_⟩
      refine XS.ifNo X0.here hx rfl (own_d hby at_18) rfl (i0_eq_f hq) ?_
      refine iconstV X0.here hx rfl 1 (own_d hby at_21) (by decide) ?_
      refine XS.goto X0.here hx rfl (pc0 := 22) rfl (own_d hby at_22) (by decide) rfl ?_
      exact Steps.refl _
  have cc23 : Steps p.tables e below S0' (s₁.setTop (mkF m 32 #[.val (.int p1), .val (.int p2), .val (.int p3), .val (.int p4), .val (.int p5), .val (.int li), .val (.int hi), .unset, .unset, .unset, .unset, .unset, .unset, .unset, .unset, .unset, .unset, .unset, .unset, .unset, .unset] [(.int (p5 &&& (4 : Int32)))])) := Steps.trans c_hi (by
    refine XS.istore X0.here hx rfl (own_d hby at_26) rfl rfl ?_
    refine XS.iload X0.here hx rfl (own_d hby at_28) rfl ?_
    refine iconstV X0.here hx rfl 4 (own_d hby at_30) (by decide) ?_
    refine XS.iand X0.here hx rfl (own_d hby at_31) rfl ?_
    exact Steps.refl _)
  obtain ⟨t1, ht1, c_t1⟩ : ∃ t1 : Int32, (t1 = 0 ∧ p5 &&& (4 : Int32) = 0 ∨ t1 = 1 ∧ ¬ p5 &&& (4 : Int32) = 0) ∧ Steps p.tables e below S0' (s₁.setTop (mkF m 40 #[.val (.int p1), .val (.int p2), .val (.int p3), .val (.int p4), .val (.int p5), .val (.int li), .val (.int hi), .unset, .unset, .unset, .unset, .unset, .unset, .unset, .unset, .unset, .unset, .unset, .unset, .unset, .unset] [(.int t1)])) := by
    by_cases hq : p5 &&& (4 : Int32) = 0
    · refine ⟨0, Or.inl ⟨rfl, hq⟩, cc23.trans ?_⟩
      refine XS.ifYes X0.here hx rfl (pc0 := 32) rfl (own_d hby at_32) rfl (i0_eq_t hq) (by decide) rfl ?_
      refine iconstV X0.here hx rfl 0 (own_d hby at_39) (by decide) ?_
      exact Steps.refl _
    · refine ⟨1, Or.inr ⟨rfl, hq⟩, cc23.trans ?_⟩
      refine XS.ifNo X0.here hx rfl (own_d hby at_32) rfl (i0_eq_f hq) ?_
      refine iconstV X0.here hx rfl 1 (own_d hby at_35) (by decide) ?_
      refine XS.goto X0.here hx rfl (pc0 := 36) rfl (own_d hby at_36) (by decide) rfl ?_
      exact Steps.refl _
  have cc24 : Steps p.tables e below S0' (s₁.setTop (mkF m 47 #[.val (.int p1), .val (.int p2), .val (.int p3), .val (.int p4), .val (.int p5), .val (.int li), .val (.int hi), .val (.int t1), .unset, .unset, .unset, .unset, .unset, .unset, .unset, .unset, .unset, .unset, .unset, .unset, .unset] [(.int (p5 &&& (8 : Int32)))])) := Steps.trans c_t1 (by
    refine XS.istore X0.here hx rfl (own_d hby at_40) rfl rfl ?_
    refine XS.iload X0.here hx rfl (own_d hby at_42) rfl ?_
    refine bipushV X0.here hx rfl 8 (own_d hby at_44) (by decide) ?_
    refine XS.iand X0.here hx rfl (own_d hby at_46) rfl ?_
    exact Steps.refl _)
  obtain ⟨t2, ht2, c_t2⟩ : ∃ t2 : Int32, (t2 = 0 ∧ p5 &&& (8 : Int32) = 0 ∨ t2 = 1 ∧ ¬ p5 &&& (8 : Int32) = 0) ∧ Steps p.tables e below S0' (s₁.setTop (mkF m 55 #[.val (.int p1), .val (.int p2), .val (.int p3), .val (.int p4), .val (.int p5), .val (.int li), .val (.int hi), .val (.int t1), .unset, .unset, .unset, .unset, .unset, .unset, .unset, .unset, .unset, .unset, .unset, .unset, .unset] [(.int t2)])) := by
    by_cases hq : p5 &&& (8 : Int32) = 0
    · refine ⟨0, Or.inl ⟨rfl, hq⟩, cc24.trans ?_⟩
      refine XS.ifYes X0.here hx rfl (pc0 := 47) rfl (own_d hby at_47) rfl (i0_eq_t hq) (by decide) rfl ?_
      refine iconstV X0.here hx rfl 0 (own_d hby at_54) (by decide) ?_
      exact Steps.refl _
    · refine ⟨1, Or.inr ⟨rfl, hq⟩, cc24.trans ?_⟩
      refine XS.ifNo X0.here hx rfl (own_d hby at_47) rfl (i0_eq_f hq) ?_
      refine iconstV X0.here hx rfl 1 (own_d hby at_50) (by decide) ?_
      refine XS.goto X0.here hx rfl (pc0 := 51) rfl (own_d hby at_51) (by decide) rfl ?_
      exact Steps.refl _
  have zli : li = 0 ∨ li = 1 := hli.imp And.left And.left
  have zhi : hi = 0 ∨ hi = 1 := hhi.imp And.left And.left
  have cc25 : Steps p.tables e below S0' (s₁.setTop (mkF m 58 #[.val (.int p1), .val (.int p2), .val (.int p3), .val (.int p4), .val (.int p5), .val (.int li), .val (.int hi), .val (.int t1), .val (.int t2), .unset, .unset, .unset, .unset, .unset, .unset, .unset, .unset, .unset, .unset, .unset, .unset] [(.int p1)])) := Steps.trans c_t2 (by
    refine XS.istore X0.here hx rfl (own_d hby at_55) rfl rfl ?_
    refine XS.iloadN X0.here hx rfl (own_d hby at_57) rfl ?_
    exact Steps.refl _)
  obtain ⟨_, _, ⟨T26, L26, k26, n26⟩, -, X26, ⟨Lc26, hQ26, l26, y26, z26⟩, st26⟩ := Jvm.LawKit.callS X0 hx (y := (⟨"com/example/firm_roles/firmroles/RoleRangeToStringPinLaw", "nameChar", "(I)C"⟩ : MethodName)) hown (mvT hZ w_0) (mvT hZ w_1) (mvT hZ w_2) (mvT hZ w_3) (by decide) (backOf (W := 0) (own_nch l Z a0 hw p1 h0 n0 Z0 ) hZ w_3 w_2 (by decide) (by decide)) (g := (mkF m 58 #[.val (.int p1), .val (.int p2), .val (.int p3), .val (.int p4), .val (.int p5), .val (.int li), .val (.int hi), .val (.int t1), .val (.int t2), .unset, .unset, .unset, .unset, .unset, .unset, .unset, .unset, .unset, .unset, .unset, .unset] [(.int p1)])) rfl (by rw [hml]; rfl) (argsL := [(.int p1)]) (rest := []) (lenOf own_pd7 rfl) rfl (by show 2 * 0 + _ ≤ _; exact Nat.le_of_eq rfl) (own_d hby at_58) (fun _ _ => ⟨rfl, e0, Nat.le_of_ble_eq_true rfl, Nat.le_of_ble_eq_true rfl⟩)
  dsimp only [Pt.U, Pt.locs, Pt.cells, Pt.slots] at X26 l26 y26 z26 st26 hQ26
  subst l26 y26 z26
  obtain ⟨ca, rfl, Nq26, eq26, kca⟩ := hQ26
  have N26 := Fr.app N0 Nq26
  have e26 : T26.heap = h0 := eq26
  have gca := own_ok_lat kca
  have cc27 : Steps p.tables e below S0' (T26.setTop (mkF m 64 #[.val (.int p1), .val (.int p2), .val (.int p3), .val (.int p4), .val (.int p5), .val (.int li), .val (.int hi), .val (.int t1), .val (.int t2), .val (.int ca), .unset, .unset, .unset, .unset, .unset, .unset, .unset, .unset, .unset, .unset, .unset] [(.int p2)])) := Steps.trans (cc25.trans (st26 _ (Steps.refl _))) (by
    refine XS.istore X26.here hx rfl (own_d hby at_61) rfl rfl ?_
    refine XS.iloadN X26.here hx rfl (own_d hby at_63) rfl ?_
    exact Steps.refl _)
  obtain ⟨_, _, ⟨T28, L28, k28, n28⟩, -, X28, ⟨Lc28, hQ28, l28, y28, z28⟩, st28⟩ := Jvm.LawKit.callS X26 hx (y := (⟨"com/example/firm_roles/firmroles/RoleRangeToStringPinLaw", "nameChar", "(I)C"⟩ : MethodName)) hown (mvT hZ w_0) (mvT hZ w_1) (mvT hZ w_2) (mvT hZ w_3) (by decide) (backOf (W := 0) (own_nch l Z a0 hw p2 h0 n0 Z0 ) hZ w_3 w_2 (by decide) (by decide)) (g := (mkF m 64 #[.val (.int p1), .val (.int p2), .val (.int p3), .val (.int p4), .val (.int p5), .val (.int li), .val (.int hi), .val (.int t1), .val (.int t2), .val (.int ca), .unset, .unset, .unset, .unset, .unset, .unset, .unset, .unset, .unset, .unset, .unset] [(.int p2)])) rfl (by rw [hml]; rfl) (argsL := [(.int p2)]) (rest := []) (lenOf own_pd7 rfl) rfl (by show 2 * 0 + _ ≤ _; exact Nat.le_of_eq rfl) (own_d hby at_64) (fun _ _ => ⟨rfl, e26, Nat.le_of_ble_eq_true rfl, Nat.le_of_ble_eq_true rfl⟩)
  dsimp only [Pt.U, Pt.locs, Pt.cells, Pt.slots] at X28 l28 y28 z28 st28 hQ28
  subst l28 y28 z28
  obtain ⟨cb, rfl, Nq28, eq28, kcb⟩ := hQ28
  have N28 := Fr.app N26 Nq28
  have e28 : T28.heap = h0 := eq28
  have gcb := own_ok_lat kcb
  have cc29 : Steps p.tables e below S0' (T28.setTop (mkF m 70 #[.val (.int p1), .val (.int p2), .val (.int p3), .val (.int p4), .val (.int p5), .val (.int li), .val (.int hi), .val (.int t1), .val (.int t2), .val (.int ca), .val (.int cb), .unset, .unset, .unset, .unset, .unset, .unset, .unset, .unset, .unset, .unset] [(.int p3)])) := Steps.trans (cc27.trans (st28 _ (Steps.refl _))) (by
    refine XS.istore X28.here hx rfl (own_d hby at_67) rfl rfl ?_
    refine XS.iloadN X28.here hx rfl (own_d hby at_69) rfl ?_
    exact Steps.refl _)
  obtain ⟨_, _, ⟨T30, L30, k30, n30⟩, -, X30, ⟨Lc30, hQ30, l30, y30, z30⟩, st30⟩ := Jvm.LawKit.callS X28 hx (y := (⟨"com/example/firm_roles/firmroles/RoleRangeToStringPinLaw", "nameChar", "(I)C"⟩ : MethodName)) hown (mvT hZ w_0) (mvT hZ w_1) (mvT hZ w_2) (mvT hZ w_3) (by decide) (backOf (W := 0) (own_nch l Z a0 hw p3 h0 n0 Z0 ) hZ w_3 w_2 (by decide) (by decide)) (g := (mkF m 70 #[.val (.int p1), .val (.int p2), .val (.int p3), .val (.int p4), .val (.int p5), .val (.int li), .val (.int hi), .val (.int t1), .val (.int t2), .val (.int ca), .val (.int cb), .unset, .unset, .unset, .unset, .unset, .unset, .unset, .unset, .unset, .unset] [(.int p3)])) rfl (by rw [hml]; rfl) (argsL := [(.int p3)]) (rest := []) (lenOf own_pd7 rfl) rfl (by show 2 * 0 + _ ≤ _; exact Nat.le_of_eq rfl) (own_d hby at_70) (fun _ _ => ⟨rfl, e28, Nat.le_of_ble_eq_true rfl, Nat.le_of_ble_eq_true rfl⟩)
  dsimp only [Pt.U, Pt.locs, Pt.cells, Pt.slots] at X30 l30 y30 z30 st30 hQ30
  subst l30 y30 z30
  obtain ⟨cc, rfl, Nq30, eq30, kcc⟩ := hQ30
  have N30 := Fr.app N28 Nq30
  have e30 : T30.heap = h0 := eq30
  have gcc := own_ok_lat kcc
  have cc31 : Steps p.tables e below S0' (T30.setTop (mkF m 76 #[.val (.int p1), .val (.int p2), .val (.int p3), .val (.int p4), .val (.int p5), .val (.int li), .val (.int hi), .val (.int t1), .val (.int t2), .val (.int ca), .val (.int cb), .val (.int cc), .unset, .unset, .unset, .unset, .unset, .unset, .unset, .unset, .unset] [(.int p4)])) := Steps.trans (cc29.trans (st30 _ (Steps.refl _))) (by
    refine XS.istore X30.here hx rfl (own_d hby at_73) rfl rfl ?_
    refine XS.iloadN X30.here hx rfl (own_d hby at_75) rfl ?_
    exact Steps.refl _)
  obtain ⟨_, _, ⟨T32, L32, k32, n32⟩, -, X32, ⟨Lc32, hQ32, l32, y32, z32⟩, st32⟩ := Jvm.LawKit.callS X30 hx (y := (⟨"com/example/firm_roles/firmroles/RoleRangeToStringPinLaw", "nameChar", "(I)C"⟩ : MethodName)) hown (mvT hZ w_0) (mvT hZ w_1) (mvT hZ w_2) (mvT hZ w_3) (by decide) (backOf (W := 0) (own_nch l Z a0 hw p4 h0 n0 Z0 ) hZ w_3 w_2 (by decide) (by decide)) (g := (mkF m 76 #[.val (.int p1), .val (.int p2), .val (.int p3), .val (.int p4), .val (.int p5), .val (.int li), .val (.int hi), .val (.int t1), .val (.int t2), .val (.int ca), .val (.int cb), .val (.int cc), .unset, .unset, .unset, .unset, .unset, .unset, .unset, .unset, .unset] [(.int p4)])) rfl (by rw [hml]; rfl) (argsL := [(.int p4)]) (rest := []) (lenOf own_pd7 rfl) rfl (by show 2 * 0 + _ ≤ _; exact Nat.le_of_eq rfl) (own_d hby at_76) (fun _ _ => ⟨rfl, e30, Nat.le_of_ble_eq_true rfl, Nat.le_of_ble_eq_true rfl⟩)
  dsimp only [Pt.U, Pt.locs, Pt.cells, Pt.slots] at X32 l32 y32 z32 st32 hQ32
  subst l32 y32 z32
  obtain ⟨cd, rfl, Nq32, eq32, kcd⟩ := hQ32
  have N32 := Fr.app N30 Nq32
  have e32 : T32.heap = h0 := eq32
  have gcd := own_ok_lat kcd
  have cc33 : Steps p.tables e below S0' (T32.setTop (mkF m 83 #[.val (.int p1), .val (.int p2), .val (.int p3), .val (.int p4), .val (.int p5), .val (.int li), .val (.int hi), .val (.int t1), .val (.int t2), .val (.int ca), .val (.int cb), .val (.int cc), .val (.int cd), .unset, .unset, .unset, .unset, .unset, .unset, .unset, .unset] [(.int t1)])) := Steps.trans (cc31.trans (st32 _ (Steps.refl _))) (by
    refine XS.istore X32.here hx rfl (own_d hby at_79) rfl rfl ?_
    refine XS.iload X32.here hx rfl (own_d hby at_81) rfl ?_
    exact Steps.refl _)
  by_cases qt1 : t1 = 0
  · skip
    have cc34 : Steps p.tables e below S0' (T32.setTop (mkF m 111 #[.val (.int p1), .val (.int p2), .val (.int p3), .val (.int p4), .val (.int p5), .val (.int li), .val (.int hi), .val (.int t1), .val (.int t2), .val (.int ca), .val (.int cb), .val (.int cc), .val (.int cd), .unset, .unset, .unset, .unset, .unset, .unset, .unset, .unset] [(.int ca)])) := Steps.trans cc33 (by
      refine XS.ifYes X32.here hx rfl (pc0 := 83) rfl (own_d hby at_83) rfl (i0_eq_t qt1) (by decide) rfl ?_
      refine XS.iload X32.here hx rfl (own_d hby at_109) rfl ?_
      exact Steps.refl _)
    obtain ⟨_, _, ⟨T35, L35, k35, n35⟩, -, X35, ⟨Lc35, hQ35, l35, y35, z35⟩, st35⟩ := Jvm.LawKit.callS X32 hx (y := (⟨"java/lang/String", "valueOf", "(C)Ljava/lang/String;"⟩ : MethodName)) hown (mvT hZ w_5) (mvT hZ w_6) (mvT hZ w_7) (mvT hZ w_8) (by decide) (backOf (W := 0) (own_vo l Z a0 hw ca z h0 n0 Z0 X00 O2 P5 gca) hZ w_8 w_7 (by decide) (by decide)) (g := (mkF m 111 #[.val (.int p1), .val (.int p2), .val (.int p3), .val (.int p4), .val (.int p5), .val (.int li), .val (.int hi), .val (.int t1), .val (.int t2), .val (.int ca), .val (.int cb), .val (.int cc), .val (.int cd), .unset, .unset, .unset, .unset, .unset, .unset, .unset, .unset] [(.int ca)])) rfl (by rw [hml]; rfl) (argsL := [(.int ca)]) (rest := []) (lenOf own_pd24 rfl) rfl (by show 2 * 0 + _ ≤ _; exact Nat.le_of_eq rfl) (own_d hby at_111) (fun _ _ => ⟨rfl, e32, Nat.le_of_ble_eq_true rfl, Nat.le_of_ble_eq_true rfl⟩)
    dsimp only [Pt.U, Pt.locs, Pt.cells, Pt.slots] at X35 l35 y35 z35 st35 hQ35
    subst l35 y35 z35
    obtain ⟨x, rfl, Nq35, Kq35, sq35, Hx⟩ := hQ35
    have N35 := Fr.app N32 Nq35
    have b_x : h0.size ≤ x := sq35
    have gn_x : n0 ≤ x := Nat.le_trans Z0 b_x
    have s0_x : h0.size ≤ x := Nat.le_trans KK0.1 b_x
    have D36 := CHr.keep Kq35 sf0 C0.1
    have C37 := C0.trans D36
    have sf_x := Safe.keep Kq35 sf0 C0.1 (Safe.new b_x)
    have KK1 : Keep h0 T35.heap ([] : List Addr) := KK0.trans Kq35 all0
    have Zs1 : n0 ≤ T35.heap.size := Nat.le_trans Z0 Kq35.1
    have e35 : T35.heap = T35.heap := rfl
    obtain ⟨Ex, Cx, px, lx, tx, kx, Vx, Ax⟩ := Hx
    have cc38 : Steps p.tables e below S0' (T35.setTop (mkF m 118 #[.val (.int p1), .val (.int p2), .val (.int p3), .val (.int p4), .val (.int p5), .val (.int li), .val (.int hi), .val (.int t1), .val (.int t2), .val (.int ca), .val (.int cb), .val (.int cc), .val (.int cd), .val (.ref x), .unset, .unset, .unset, .unset, .unset, .unset, .unset] [(.int t2)])) := Steps.trans (cc34.trans (st35 _ (Steps.refl _))) (by
      refine XS.astore X35.here hx rfl (own_d hby at_114) rfl rfl rfl ?_
      refine XS.iload X35.here hx rfl (own_d hby at_116) rfl ?_
      exact Steps.refl _)
    by_cases qt2 : t2 = 0
    · skip
      have cc40 : Steps p.tables e below S0' (T35.setTop (mkF m 146 #[.val (.int p1), .val (.int p2), .val (.int p3), .val (.int p4), .val (.int p5), .val (.int li), .val (.int hi), .val (.int t1), .val (.int t2), .val (.int ca), .val (.int cb), .val (.int cc), .val (.int cd), .val (.ref x), .unset, .unset, .unset, .unset, .unset, .unset, .unset] [(.int cc)])) := Steps.trans cc38 (by
        refine XS.ifYes X35.here hx rfl (pc0 := 118) rfl (own_d hby at_118) rfl (i0_eq_t qt2) (by decide) rfl ?_
        refine XS.iload X35.here hx rfl (own_d hby at_144) rfl ?_
        exact Steps.refl _)
      have fa39 : Old Z n0 T35.heap := (X00.keep Kq35 all0)
      obtain ⟨_, _, ⟨T41, L41, k41, n41⟩, -, X41, ⟨Lc41, hQ41, l41, y41, z41⟩, st41⟩ := Jvm.LawKit.callS X35 hx (y := (⟨"java/lang/String", "valueOf", "(C)Ljava/lang/String;"⟩ : MethodName)) hown (mvT hZ w_5) (mvT hZ w_6) (mvT hZ w_7) (mvT hZ w_8) (by decide) (backOf (W := 0) (own_vo l Z a0 hw cc z T35.heap n0 Zs1 fa39 O2 P5 gcc) hZ w_8 w_7 (by decide) (by decide)) (g := (mkF m 146 #[.val (.int p1), .val (.int p2), .val (.int p3), .val (.int p4), .val (.int p5), .val (.int li), .val (.int hi), .val (.int t1), .val (.int t2), .val (.int ca), .val (.int cb), .val (.int cc), .val (.int cd), .val (.ref x), .unset, .unset, .unset, .unset, .unset, .unset, .unset] [(.int cc)])) rfl (by rw [hml]; rfl) (argsL := [(.int cc)]) (rest := []) (lenOf own_pd24 rfl) rfl (by show 2 * 0 + _ ≤ _; exact Nat.le_of_eq rfl) (own_d hby at_146) (fun _ _ => ⟨rfl, e35, Nat.le_of_ble_eq_true rfl, Nat.le_of_ble_eq_true rfl⟩)
      dsimp only [Pt.U, Pt.locs, Pt.cells, Pt.slots] at X41 l41 y41 z41 st41 hQ41
      subst l41 y41 z41
      obtain ⟨y, rfl, Nq41, Kq41, sq41, Hy⟩ := hQ41
      have N41 := Fr.app N35 Nq41
      have b_y : T35.heap.size ≤ y := sq41
      have gn_y : n0 ≤ y := Nat.le_trans Zs1 b_y
      have s0_y : h0.size ≤ y := Nat.le_trans KK1.1 b_y
      have ne_x_y : x ≠ y := Nat.ne_of_lt (Nat.lt_of_lt_of_le Ex.lt b_y)
      have ne_tx_y : tx ≠ y := Nat.ne_of_lt (Nat.lt_of_lt_of_le Ax.lt b_y)
      have D42 := CHr.keep Kq41 sf0 C37.1
      have C43 := C37.trans D42
      have sf_y := Safe.keep Kq41 sf0 C37.1 (Safe.new b_y)
      have KK2 : Keep h0 T41.heap ([] : List Addr) := KK1.trans Kq41 all0
      have Zs2 : n0 ≤ T41.heap.size := Nat.le_trans Zs1 Kq41.1
      have e41 : T41.heap = T41.heap := rfl
      obtain ⟨Ey, Cy, py, ly, ty, ky, Vy, Ay⟩ := Hy
      have cc44 : Steps p.tables e below S0' (T41.setTop (mkF m 151 #[.val (.int p1), .val (.int p2), .val (.int p3), .val (.int p4), .val (.int p5), .val (.int li), .val (.int hi), .val (.int t1), .val (.int t2), .val (.int ca), .val (.int cb), .val (.int cc), .val (.int cd), .val (.ref x), .val (.ref y), .unset, .unset, .unset, .unset, .unset, .unset] [])) := Steps.trans (cc40.trans (st41 _ (Steps.refl _))) (by
        refine XS.astore X41.here hx rfl (own_d hby at_149) rfl rfl rfl ?_
        exact Steps.refl _)
      obtain ⟨T45, h45, X45, e45, E45, A45, D45, -, st45⟩ := newO X41 hx hZ hown w_31 w_32 w_33 e41 (g := (mkF m 151 #[.val (.int p1), .val (.int p2), .val (.int p3), .val (.int p4), .val (.int p5), .val (.int li), .val (.int hi), .val (.int t1), .val (.int t2), .val (.int ca), .val (.int cb), .val (.int cc), .val (.int cd), .val (.ref x), .val (.ref y), .unset, .unset, .unset, .unset, .unset, .unset] [])) rfl (own_d hby at_151) (by decide) (by decide)
      obtain ⟨g, g_g⟩ : ∃ z, z = T41.heap.size := ⟨_, rfl⟩
      rw [← g_g] at A45 D45 st45
      have K45 := (Keep.refl T41.heap ([] : List Addr)).ext E45
      have b_g : T41.heap.size ≤ g := (Nat.le_of_eq g_g.symm)
      have gn_g : n0 ≤ g := Nat.le_trans Zs2 b_g
      have s0_g : h0.size ≤ g := Nat.le_trans KK2.1 b_g
      have fa46 : Exa Z T41.heap x "java/lang/String" := (Ex.keep Kq41)
      have ne_x_g : x ≠ g := Nat.ne_of_lt (Nat.lt_of_lt_of_le fa46.lt b_g)
      have fa47 : Arv Z T41.heap tx kx .byte (Int32.ofNat ([ca] : List Int32).length) (own_by ([ca] : List Int32)) (.int (0 : Int32)) := (Ax.keep Kq41 nin0)
      have ne_tx_g : tx ≠ g := Nat.ne_of_lt (Nat.lt_of_lt_of_le fa47.lt b_g)
      have ne_y_g : y ≠ g := Nat.ne_of_lt (Nat.lt_of_lt_of_le Ey.lt b_g)
      have ne_ty_g : ty ≠ g := Nat.ne_of_lt (Nat.lt_of_lt_of_le Ay.lt b_g)
      have D48 := CHr.ext E45 C43.1
      have C49 := C43.trans D48
      have sf_g : Safe Z EL s.vm h45 g := Safe.ext E45 C43.1 (Safe.new b_g)
      have KK3 : Keep h0 h45 ([] : List Addr) := KK2.trans K45 all0
      have Zs3 : n0 ≤ h45.size := Nat.le_trans Zs2 K45.1
      have F_low_g : Fld Z h45 g "com/example/firm_roles/firmroles/RoleRange" "low" "Lcom/example/firm_roles/firmroles/Name;" .null := D45 (Or.inr w_99) (ty := (.object "com/example/firm_roles/firmroles/Name")) (by decide)
      have F_lowIncluded_g : Fld Z h45 g "com/example/firm_roles/firmroles/RoleRange" "lowIncluded" "Z" (.int (0 : Int32)) := D45 (Or.inr w_101) (ty := .boolean) (by decide)
      have F_high_g : Fld Z h45 g "com/example/firm_roles/firmroles/RoleRange" "high" "Lcom/example/firm_roles/firmroles/Name;" .null := D45 (Or.inr w_103) (ty := (.object "com/example/firm_roles/firmroles/Name")) (by decide)
      have F_highIncluded_g : Fld Z h45 g "com/example/firm_roles/firmroles/RoleRange" "highIncluded" "Z" (.int (0 : Int32)) := D45 (Or.inr w_105) (ty := .boolean) (by decide)
      have cc50 : Steps p.tables e below S0' (T45.setTop (mkF m 155 #[.val (.int p1), .val (.int p2), .val (.int p3), .val (.int p4), .val (.int p5), .val (.int li), .val (.int hi), .val (.int t1), .val (.int t2), .val (.int ca), .val (.int cb), .val (.int cc), .val (.int cd), .val (.ref x), .val (.ref y), .unset, .unset, .unset, .unset, .unset, .unset] [(.ref g), (.ref g)])) := Steps.trans (cc44.trans (st45 _ (Steps.refl _))) (by
        refine XS.dup X45.here hx rfl (own_d hby at_154) rfl rfl ?_
        exact Steps.refl _)
      obtain ⟨T51, h51, X51, e51, E51, A51, D51, -, st51⟩ := newO X45 hx hZ hown w_34 w_35 w_36 e45 (g := (mkF m 155 #[.val (.int p1), .val (.int p2), .val (.int p3), .val (.int p4), .val (.int p5), .val (.int li), .val (.int hi), .val (.int t1), .val (.int t2), .val (.int ca), .val (.int cb), .val (.int cc), .val (.int cd), .val (.ref x), .val (.ref y), .unset, .unset, .unset, .unset, .unset, .unset] [(.ref g), (.ref g)])) rfl (own_d hby at_155) (by decide) (by decide)
      obtain ⟨na, g_na⟩ : ∃ z, z = h45.size := ⟨_, rfl⟩
      rw [← g_na] at A51 D51 st51
      have K51 := (Keep.refl h45 ([] : List Addr)).ext E51
      have b_na : h45.size ≤ na := (Nat.le_of_eq g_na.symm)
      have gn_na : n0 ≤ na := Nat.le_trans Zs3 b_na
      have s0_na : h0.size ≤ na := Nat.le_trans KK3.1 b_na
      have fa52 : Exa Z h45 x "java/lang/String" := (fa46.keep K45)
      have ne_x_na : x ≠ na := Nat.ne_of_lt (Nat.lt_of_lt_of_le fa52.lt b_na)
      have fa53 : Arv Z h45 tx kx .byte (Int32.ofNat ([ca] : List Int32).length) (own_by ([ca] : List Int32)) (.int (0 : Int32)) := (fa47.keep K45 nin0)
      have ne_tx_na : tx ≠ na := Nat.ne_of_lt (Nat.lt_of_lt_of_le fa53.lt b_na)
      have fa54 : Exa Z h45 y "java/lang/String" := (Ey.keep K45)
      have ne_y_na : y ≠ na := Nat.ne_of_lt (Nat.lt_of_lt_of_le fa54.lt b_na)
      have fa55 : Arv Z h45 ty ky .byte (Int32.ofNat ([cc] : List Int32).length) (own_by ([cc] : List Int32)) (.int (0 : Int32)) := (Ay.keep K45 nin0)
      have ne_ty_na : ty ≠ na := Nat.ne_of_lt (Nat.lt_of_lt_of_le fa55.lt b_na)
      have ne_g_na : g ≠ na := Nat.ne_of_lt (Nat.lt_of_lt_of_le A45.lt b_na)
      have D56 := CHr.ext E51 C49.1
      have C57 := C49.trans D56
      have sf_na : Safe Z EL s.vm h51 na := Safe.ext E51 C49.1 (Safe.new b_na)
      have KK4 : Keep h0 h51 ([] : List Addr) := KK3.trans K51 all0
      have Zs4 : n0 ≤ h51.size := Nat.le_trans Zs3 K51.1
      have F_value_na : Fld Z h51 na "com/example/firm_roles/firmroles/Name" "value" "Ljava/lang/String;" .null := D51 (Or.inr w_93) (ty := (.object "java/lang/String")) (by decide)
      have cc59 : Steps p.tables e below S0' (T51.setTop (mkF m 161 #[.val (.int p1), .val (.int p2), .val (.int p3), .val (.int p4), .val (.int p5), .val (.int li), .val (.int hi), .val (.int t1), .val (.int t2), .val (.int ca), .val (.int cb), .val (.int cc), .val (.int cd), .val (.ref x), .val (.ref y), .unset, .unset, .unset, .unset, .unset, .unset] [(.ref x), (.ref na), (.ref na), (.ref g), (.ref g)])) := Steps.trans (cc50.trans (st51 _ (Steps.refl _))) (by
        refine XS.dup X51.here hx rfl (own_d hby at_158) rfl rfl ?_
        refine XS.aload X51.here hx rfl (own_d hby at_159) rfl rfl ?_
        exact Steps.refl _)
      have fa58 : Old Z n0 h51 := (((fa39.keep Kq41 all0).keep K45 all0).keep K51 all0)
      have fa60 : Exa Z h51 x "java/lang/String" := (fa52.keep K51)
      have fa61 : Fld Z h51 x "java/lang/String" "coder" "B" (.int (0 : Int32)) := (((Cx.keep Kq41 nin0).keep K45 nin0).keep K51 nin0)
      have fa62 : Fld Z h51 x "java/lang/String" "value" "[B" (.ref tx) := (((Vx.keep Kq41 nin0).keep K45 nin0).keep K51 nin0)
      have fa63 : Arv Z h51 tx kx .byte (Int32.ofNat ([ca] : List Int32).length) (own_by ([ca] : List Int32)) (.int (0 : Int32)) := (fa53.keep K51 nin0)
      obtain ⟨_, _, ⟨T64, L64, k64, n64⟩, -, X64, hs64, gr64, ⟨Lc64, hQ64, l64, y64, z64, CH64⟩, st64⟩ := X51.specialBackS hx (y := (⟨"com/example/firm_roles/firmroles/Name", "<init>", "(Ljava/lang/String;)V"⟩ : MethodName)) rfl hown (mvT hZ w_37) (mvT hZ w_38) (mvT hZ w_39) (by decide) (backOfSH (W := 3) (own_nin l Z a0 hw na x ([ca] : List Int32) z f h51 n0 Zs4 fa58 O2 P5 O4 hf A51 F_value_na gn_na (⟨fa60, fa61, px, lx, tx, kx, fa62, fa63⟩ : own_Lat Z h51 x ([ca] : List Int32)) (Or.inl ⟨ca, rfl, kca⟩)) hZ w_39 w_36 (by decide) (by decide) hEL C57.1) (g := (mkF m 161 #[.val (.int p1), .val (.int p2), .val (.int p3), .val (.int p4), .val (.int p5), .val (.int li), .val (.int hi), .val (.int t1), .val (.int t2), .val (.int ca), .val (.int cb), .val (.int cc), .val (.int cd), .val (.ref x), .val (.ref y), .unset, .unset, .unset, .unset, .unset, .unset] [(.ref x), (.ref na), (.ref na), (.ref g), (.ref g)])) rfl (by rw [hml]; rfl) (Steps.refl _) (a := na) (argsL := [(.ref x)]) (rest := [(.ref na), (.ref g), (.ref g)]) (lenOf own_pd10 rfl) rfl (by show 2 * 0 + _ ≤ _; exact Nat.le_of_eq rfl) (own_d hby at_161) (fun _ _ => ⟨rfl, e51, Nat.le_of_ble_eq_true rfl, Nat.le_of_ble_eq_true rfl⟩)
      dsimp only [Pt.U, Pt.locs, Pt.cells, Pt.slots] at X64 l64 y64 z64 st64 hQ64 hs64 gr64 CH64
      subst l64 y64 z64
      obtain ⟨rfl, Nq64, Kq64, Fq64⟩ := hQ64
      obtain ⟨Xr64, hS64, hZ64, hown64⟩ := rebS hS0 (by rw [e51]; exact (Nat.le_trans (Nat.le_trans (Nat.le_trans (Nat.le_trans hk0 Kq35.1) Kq41.1) K45.1) K51.1)) X64 hs64 gr64 hZ hown
      have hk64 : T64.heap.size ≤ T64.heap.size := Nat.le_refl _
      have C64 := C57.trans CH64
      have N64 := Fr.app N41 Nq64
      have KK5 : Keep h0 T64.heap ([] : List Addr) := KK4.trans Kq64 (allS (Or.inr s0_na) all0)
      have Zs5 : n0 ≤ T64.heap.size := Nat.le_trans Zs4 Kq64.1
      have e64 : T64.heap = T64.heap := rfl
      have cc65 : Steps p.tables e below S0' (T64.setTop (mkF m 166 #[.val (.int p1), .val (.int p2), .val (.int p3), .val (.int p4), .val (.int p5), .val (.int li), .val (.int hi), .val (.int t1), .val (.int t2), .val (.int ca), .val (.int cb), .val (.int cc), .val (.int cd), .val (.ref x), .val (.ref y), .unset, .unset, .unset, .unset, .unset, .unset] [(.int li), (.ref na), (.ref g), (.ref g)])) := Steps.trans (Steps.trans cc59 st64) (by
        refine XS.iload Xr64.here hx rfl (own_d hby at_164) rfl ?_
        exact Steps.refl _)
      obtain ⟨T66, h66, X66, e66, E66, A66, D66, -, st66⟩ := newO Xr64 hx hZ64 hown64 w_34 w_35 w_36 e64 (g := (mkF m 166 #[.val (.int p1), .val (.int p2), .val (.int p3), .val (.int p4), .val (.int p5), .val (.int li), .val (.int hi), .val (.int t1), .val (.int t2), .val (.int ca), .val (.int cb), .val (.int cc), .val (.int cd), .val (.ref x), .val (.ref y), .unset, .unset, .unset, .unset, .unset, .unset] [(.int li), (.ref na), (.ref g), (.ref g)])) rfl (own_d hby at_166) (by decide) (by decide)
      obtain ⟨nb, g_nb⟩ : ∃ z, z = T64.heap.size := ⟨_, rfl⟩
      rw [← g_nb] at A66 D66 st66
      have K66 := (Keep.refl T64.heap ([] : List Addr)).ext E66
      have b_nb : T64.heap.size ≤ nb := (Nat.le_of_eq g_nb.symm)
      have gn_nb : n0 ≤ nb := Nat.le_trans Zs5 b_nb
      have s0_nb : h0.size ≤ nb := Nat.le_trans KK5.1 b_nb
      have fa67 : Exa Z T64.heap x "java/lang/String" := (fa60.keep Kq64)
      have ne_x_nb : x ≠ nb := Nat.ne_of_lt (Nat.lt_of_lt_of_le fa67.lt b_nb)
      have fa68 : Arv Z T64.heap tx kx .byte (Int32.ofNat ([ca] : List Int32).length) (own_by ([ca] : List Int32)) (.int (0 : Int32)) := (fa63.keep Kq64 (ninS ne_tx_na nin0))
      have ne_tx_nb : tx ≠ nb := Nat.ne_of_lt (Nat.lt_of_lt_of_le fa68.lt b_nb)
      have fa69 : Exa Z T64.heap y "java/lang/String" := ((fa54.keep K51).keep Kq64)
      have ne_y_nb : y ≠ nb := Nat.ne_of_lt (Nat.lt_of_lt_of_le fa69.lt b_nb)
      have fa70 : Arv Z T64.heap ty ky .byte (Int32.ofNat ([cc] : List Int32).length) (own_by ([cc] : List Int32)) (.int (0 : Int32)) := ((fa55.keep K51 nin0).keep Kq64 (ninS ne_ty_na nin0))
      have ne_ty_nb : ty ≠ nb := Nat.ne_of_lt (Nat.lt_of_lt_of_le fa70.lt b_nb)
      have fa71 : Exa Z T64.heap g "com/example/firm_roles/firmroles/RoleRange" := ((A45.keep K51).keep Kq64)
      have ne_g_nb : g ≠ nb := Nat.ne_of_lt (Nat.lt_of_lt_of_le fa71.lt b_nb)
      have fa72 : Exa Z T64.heap na "com/example/firm_roles/firmroles/Name" := (A51.keep Kq64)
      have ne_na_nb : na ≠ nb := Nat.ne_of_lt (Nat.lt_of_lt_of_le fa72.lt b_nb)
      have D73 := CHr.ext E66 C64.1
      have C74 := C64.trans D73
      have sf_nb : Safe Z EL T64.vm h66 nb := Safe.ext E66 C64.1 (Safe.new b_nb)
      have KK6 : Keep h0 h66 ([] : List Addr) := KK5.trans K66 all0
      have Zs6 : n0 ≤ h66.size := Nat.le_trans Zs5 K66.1
      have F_value_nb : Fld Z h66 nb "com/example/firm_roles/firmroles/Name" "value" "Ljava/lang/String;" .null := D66 (Or.inr w_93) (ty := (.object "java/lang/String")) (by decide)
      have cc76 : Steps p.tables e below S0' (T66.setTop (mkF m 172 #[.val (.int p1), .val (.int p2), .val (.int p3), .val (.int p4), .val (.int p5), .val (.int li), .val (.int hi), .val (.int t1), .val (.int t2), .val (.int ca), .val (.int cb), .val (.int cc), .val (.int cd), .val (.ref x), .val (.ref y), .unset, .unset, .unset, .unset, .unset, .unset] [(.ref y), (.ref nb), (.ref nb), (.int li), (.ref na), (.ref g), (.ref g)])) := Steps.trans (cc65.trans (st66 _ (Steps.refl _))) (by
        refine XS.dup X66.here hx rfl (own_d hby at_169) rfl rfl ?_
        refine XS.aload X66.here hx rfl (own_d hby at_170) rfl rfl ?_
        exact Steps.refl _)
      have fa75 : Old Z n0 h66 := ((fa58.keep Kq64 (allS gn_na all0)).keep K66 all0)
      have fa77 : Exa Z h66 y "java/lang/String" := (fa69.keep K66)
      have fa78 : Fld Z h66 y "java/lang/String" "coder" "B" (.int (0 : Int32)) := ((((Cy.keep K45 nin0).keep K51 nin0).keep Kq64 (ninS ne_y_na nin0)).keep K66 nin0)
      have fa79 : Fld Z h66 y "java/lang/String" "value" "[B" (.ref ty) := ((((Vy.keep K45 nin0).keep K51 nin0).keep Kq64 (ninS ne_y_na nin0)).keep K66 nin0)
      have fa80 : Arv Z h66 ty ky .byte (Int32.ofNat ([cc] : List Int32).length) (own_by ([cc] : List Int32)) (.int (0 : Int32)) := (fa70.keep K66 nin0)
      obtain ⟨_, _, ⟨T81, L81, k81, n81⟩, -, X81, hs81, gr81, ⟨Lc81, hQ81, l81, y81, z81, CH81⟩, st81⟩ := X66.specialBackS hx (y := (⟨"com/example/firm_roles/firmroles/Name", "<init>", "(Ljava/lang/String;)V"⟩ : MethodName)) rfl hown64 (mvT hZ64 w_37) (mvT hZ64 w_38) (mvT hZ64 w_39) (by decide) (backOfSH (W := 5) (own_nin l Z a0 hw nb y ([cc] : List Int32) z f h66 n0 Zs6 fa75 O2 P5 O4 hf A66 F_value_nb gn_nb (⟨fa77, fa78, py, ly, ty, ky, fa79, fa80⟩ : own_Lat Z h66 y ([cc] : List Int32)) (Or.inl ⟨cc, rfl, kcc⟩)) hZ64 w_39 w_36 (by decide) (by decide) hEL C74.1) (g := (mkF m 172 #[.val (.int p1), .val (.int p2), .val (.int p3), .val (.int p4), .val (.int p5), .val (.int li), .val (.int hi), .val (.int t1), .val (.int t2), .val (.int ca), .val (.int cb), .val (.int cc), .val (.int cd), .val (.ref x), .val (.ref y), .unset, .unset, .unset, .unset, .unset, .unset] [(.ref y), (.ref nb), (.ref nb), (.int li), (.ref na), (.ref g), (.ref g)])) rfl (by rw [hml]; rfl) (Steps.refl _) (a := nb) (argsL := [(.ref y)]) (rest := [(.ref nb), (.int li), (.ref na), (.ref g), (.ref g)]) (lenOf own_pd10 rfl) rfl (by show 2 * 0 + _ ≤ _; exact Nat.le_of_eq rfl) (own_d hby at_172) (fun _ _ => ⟨rfl, e66, Nat.le_of_ble_eq_true rfl, Nat.le_of_ble_eq_true rfl⟩)
      dsimp only [Pt.U, Pt.locs, Pt.cells, Pt.slots] at X81 l81 y81 z81 st81 hQ81 hs81 gr81 CH81
      subst l81 y81 z81
      obtain ⟨rfl, Nq81, Kq81, Fq81⟩ := hQ81
      obtain ⟨Xr81, hS81, hZ81, hown81⟩ := rebS hS64 (by rw [e66]; exact (Nat.le_trans hk64 K66.1)) X81 hs81 gr81 hZ64 hown64
      have hk81 : T81.heap.size ≤ T81.heap.size := Nat.le_refl _
      have C81 := C74.trans CH81
      have N81 := Fr.app N64 Nq81
      have KK7 : Keep h0 T81.heap ([] : List Addr) := KK6.trans Kq81 (allS (Or.inr s0_nb) all0)
      have Zs7 : n0 ≤ T81.heap.size := Nat.le_trans Zs6 Kq81.1
      have e81 : T81.heap = T81.heap := rfl
      have cc83 : Steps p.tables e below S0' (T81.setTop (mkF m 177 #[.val (.int p1), .val (.int p2), .val (.int p3), .val (.int p4), .val (.int p5), .val (.int li), .val (.int hi), .val (.int t1), .val (.int t2), .val (.int ca), .val (.int cb), .val (.int cc), .val (.int cd), .val (.ref x), .val (.ref y), .unset, .unset, .unset, .unset, .unset, .unset] [(.int hi), (.ref nb), (.int li), (.ref na), (.ref g), (.ref g)])) := Steps.trans (Steps.trans cc76 st81) (by
        refine XS.iload Xr81.here hx rfl (own_d hby at_175) rfl ?_
        exact Steps.refl _)
      have fa82 : Exa Z T81.heap g "com/example/firm_roles/firmroles/RoleRange" := ((fa71.keep K66).keep Kq81)
      have fa84 : Fld Z T81.heap g "com/example/firm_roles/firmroles/RoleRange" "low" "Lcom/example/firm_roles/firmroles/Name;" .null := ((((F_low_g.keep K51 nin0).keep Kq64 (ninS ne_g_na nin0)).keep K66 nin0).keep Kq81 (ninS ne_g_nb nin0))
      have fa85 : Fld Z T81.heap g "com/example/firm_roles/firmroles/RoleRange" "lowIncluded" "Z" (.int (0 : Int32)) := ((((F_lowIncluded_g.keep K51 nin0).keep Kq64 (ninS ne_g_na nin0)).keep K66 nin0).keep Kq81 (ninS ne_g_nb nin0))
      have fa86 : Fld Z T81.heap g "com/example/firm_roles/firmroles/RoleRange" "high" "Lcom/example/firm_roles/firmroles/Name;" .null := ((((F_high_g.keep K51 nin0).keep Kq64 (ninS ne_g_na nin0)).keep K66 nin0).keep Kq81 (ninS ne_g_nb nin0))
      have fa87 : Fld Z T81.heap g "com/example/firm_roles/firmroles/RoleRange" "highIncluded" "Z" (.int (0 : Int32)) := ((((F_highIncluded_g.keep K51 nin0).keep Kq64 (ninS ne_g_na nin0)).keep K66 nin0).keep Kq81 (ninS ne_g_nb nin0))
      obtain ⟨_, _, ⟨T88, L88, k88, n88⟩, -, X88, ⟨Lc88, hQ88, l88, y88, z88⟩, st88⟩ := Xr81.specialBack hx (y := (⟨"com/example/firm_roles/firmroles/RoleRange", "<init>", "(Lcom/example/firm_roles/firmroles/Name;ZLcom/example/firm_roles/firmroles/Name;Z)V"⟩ : MethodName)) rfl hown81 (mvT hZ81 w_94) (mvT hZ81 w_95) (mvT hZ81 w_96) (by decide) (backOf (W := 1) (own_rin l Z a0 hw g na nb li hi T81.heap n0 Zs7 fa82 fa84 fa85 fa86 fa87 gn_g zli zhi) hZ81 w_96 w_33 (by decide) (by decide)) (g := (mkF m 177 #[.val (.int p1), .val (.int p2), .val (.int p3), .val (.int p4), .val (.int p5), .val (.int li), .val (.int hi), .val (.int t1), .val (.int t2), .val (.int ca), .val (.int cb), .val (.int cc), .val (.int cd), .val (.ref x), .val (.ref y), .unset, .unset, .unset, .unset, .unset, .unset] [(.int hi), (.ref nb), (.int li), (.ref na), (.ref g), (.ref g)])) rfl (by rw [hml]; rfl) (Steps.refl _) (a := g) (argsL := [(.ref na), (.int li), (.ref nb), (.int hi)]) (rest := [(.ref g)]) (lenOf own_pd25 rfl) rfl (by show 2 * 0 + _ ≤ _; exact Nat.le_of_eq rfl) (own_d hby at_177) (fun _ _ => ⟨rfl, e81, Nat.le_of_ble_eq_true rfl, Nat.le_of_ble_eq_true rfl⟩)
      dsimp only [Pt.U, Pt.locs, Pt.cells, Pt.slots] at X88 l88 y88 z88 st88 hQ88
      subst l88 y88 z88
      obtain ⟨rfl, Nq88, Kq88, G188, G288, G388, G488⟩ := hQ88
      have N88 := Fr.app N81 Nq88
      have sf89 := D56.safe A45.lt sf_g
      have lt90 := Nat.lt_of_lt_of_le A45.lt K51.1
      have sf91 := CH64.safe lt90 sf89
      have lt92 := Nat.lt_of_lt_of_le lt90 Kq64.1
      have sf93 := D73.safe lt92 sf91
      have lt94 := Nat.lt_of_lt_of_le lt92 K66.1
      have sf95 := CH81.safe lt94 sf93
      have lt96 := Nat.lt_of_lt_of_le lt94 Kq81.1
      have D97 := CHr.keep Kq88 (sfS sf95 sf0) C81.1
      have C98 := C81.trans D97
      have KK8 : Keep h0 T88.heap ([] : List Addr) := KK7.trans Kq88 (allS (Or.inr s0_g) all0)
      have Zs8 : n0 ≤ T88.heap.size := Nat.le_trans Zs7 Kq88.1
      have e88 : T88.heap = T88.heap := rfl
      have cc100 : Steps p.tables e below S0' (T88.setTop (mkF m 184 #[.val (.int p1), .val (.int p2), .val (.int p3), .val (.int p4), .val (.int p5), .val (.int li), .val (.int hi), .val (.int t1), .val (.int t2), .val (.int ca), .val (.int cb), .val (.int cc), .val (.int cd), .val (.ref x), .val (.ref y), .val (.ref g), .unset, .unset, .unset, .unset, .unset] [(.ref g)])) := Steps.trans (Steps.trans cc83 st88) (by
        refine XS.astore X88.here hx rfl (own_d hby at_180) rfl rfl rfl ?_
        refine XS.aload X88.here hx rfl (own_d hby at_182) rfl rfl ?_
        exact Steps.refl _)
      have fa99 : Old Z n0 T88.heap := ((fa75.keep Kq81 (allS gn_nb all0)).keep Kq88 (allS gn_g all0))
      have fa101 : Exa Z T88.heap na "com/example/firm_roles/firmroles/Name" := (((fa72.keep K66).keep Kq81).keep Kq88)
      have fa102 : Fld Z T88.heap na "com/example/firm_roles/firmroles/Name" "value" "Ljava/lang/String;" (.ref x) := (((Fq64.keep K66 nin0).keep Kq81 (ninS ne_na_nb nin0)).keep Kq88 (ninS (Ne.symm ne_g_na) nin0))
      have fa103 : Exa Z T88.heap nb "com/example/firm_roles/firmroles/Name" := ((A66.keep Kq81).keep Kq88)
      have fa104 : Fld Z T88.heap nb "com/example/firm_roles/firmroles/Name" "value" "Ljava/lang/String;" (.ref y) := (Fq81.keep Kq88 (ninS (Ne.symm ne_g_nb) nin0))
      have fa105 : Exa Z T88.heap x "java/lang/String" := (((fa67.keep K66).keep Kq81).keep Kq88)
      have fa106 : Fld Z T88.heap x "java/lang/String" "coder" "B" (.int (0 : Int32)) := ((((fa61.keep Kq64 (ninS ne_x_na nin0)).keep K66 nin0).keep Kq81 (ninS ne_x_nb nin0)).keep Kq88 (ninS ne_x_g nin0))
      have fa107 : Fld Z T88.heap x "java/lang/String" "value" "[B" (.ref tx) := ((((fa62.keep Kq64 (ninS ne_x_na nin0)).keep K66 nin0).keep Kq81 (ninS ne_x_nb nin0)).keep Kq88 (ninS ne_x_g nin0))
      have fa108 : Arv Z T88.heap tx kx .byte (Int32.ofNat ([ca] : List Int32).length) (own_by ([ca] : List Int32)) (.int (0 : Int32)) := (((fa68.keep K66 nin0).keep Kq81 (ninS ne_tx_nb nin0)).keep Kq88 (ninS ne_tx_g nin0))
      have fa109 : Exa Z T88.heap y "java/lang/String" := ((fa77.keep Kq81).keep Kq88)
      have fa110 : Fld Z T88.heap y "java/lang/String" "coder" "B" (.int (0 : Int32)) := ((fa78.keep Kq81 (ninS ne_y_nb nin0)).keep Kq88 (ninS ne_y_g nin0))
      have fa111 : Fld Z T88.heap y "java/lang/String" "value" "[B" (.ref ty) := ((fa79.keep Kq81 (ninS ne_y_nb nin0)).keep Kq88 (ninS ne_y_g nin0))
      have fa112 : Arv Z T88.heap ty ky .byte (Int32.ofNat ([cc] : List Int32).length) (own_by ([cc] : List Int32)) (.int (0 : Int32)) := ((fa80.keep Kq81 (ninS ne_ty_nb nin0)).keep Kq88 (ninS ne_ty_g nin0))
      have fa113 : Exa Z T88.heap g "com/example/firm_roles/firmroles/RoleRange" := (fa82.keep Kq88)
      obtain ⟨cq114, kq114, qa114, qb114, qc114⟩ := isOf hZ81 e88 fa113
      obtain ⟨_, _, ⟨T114, L114, k114, n114⟩, -, X114, hs114, gr114, ⟨Lc114, hQ114, l114, y114, z114, CH114⟩, st114⟩ := X88.virtualBackS hx (y := (⟨"com/example/firm_roles/firmroles/RoleRange", "toString", "()Ljava/lang/String;"⟩ : MethodName)) (z := (⟨"com/example/firm_roles/firmroles/RoleRange", "toString", "()Ljava/lang/String;"⟩ : MethodName)) hown81 (mvT hZ81 w_106) (mvT hZ81 w_107) (notFace_of_selects (args := #[]) (mvT hZ81 w_109)) (mvT hZ81 w_109) (mvT hZ81 w_108) (by decide) (backOfSH (W := 0) (own_rts l Z a0 hw g na nb x y li hi ([ca] : List Int32) ([cc] : List Int32) z T88.heap n0 Zs8 fa99 O2 P5 G188 G288 G388 G488 fa101 fa102 fa103 fa104 (⟨fa105, fa106, px, lx, tx, kx, fa107, fa108⟩ : own_Lat Z T88.heap x ([ca] : List Int32)) (⟨fa109, fa110, py, ly, ty, ky, fa111, fa112⟩ : own_Lat Z T88.heap y ([cc] : List Int32)) (by simp) (by simp)) hZ81 w_110 w_33 (by decide) (by decide) hEL C98.1) qa114 qc114 (g := (mkF m 184 #[.val (.int p1), .val (.int p2), .val (.int p3), .val (.int p4), .val (.int p5), .val (.int li), .val (.int hi), .val (.int t1), .val (.int t2), .val (.int ca), .val (.int cb), .val (.int cc), .val (.int cd), .val (.ref x), .val (.ref y), .val (.ref g), .unset, .unset, .unset, .unset, .unset] [(.ref g)])) rfl (by rw [hml]; rfl) (Steps.refl _) (argsL := []) (rest := []) (lenOf own_pd23 rfl) rfl (by show 2 * 0 + _ ≤ _; exact Nat.le_of_eq rfl) (own_d hby at_184) (fun _ _ => ⟨rfl, e88, Nat.le_of_ble_eq_true rfl, Nat.le_of_ble_eq_true rfl⟩)
      dsimp only [Pt.U, Pt.locs, Pt.cells, Pt.slots] at X114 l114 y114 z114 st114 hQ114 hs114 gr114 CH114
      subst l114 y114 z114
      obtain ⟨s1, rfl, Nq114, Kq114, Hs114⟩ := hQ114
      obtain ⟨Xr114, hS114, hZ114, hown114⟩ := rebS hS81 (by rw [e88]; exact (Nat.le_trans hk81 Kq88.1)) X114 hs114 gr114 hZ81 hown81
      have hk114 : T114.heap.size ≤ T114.heap.size := Nat.le_refl _
      have C114 := C98.trans CH114
      have N114 := Fr.app N88 Nq114
      have KK9 : Keep h0 T114.heap ([] : List Addr) := KK8.trans Kq114 all0
      have Zs9 : n0 ≤ T114.heap.size := Nat.le_trans Zs8 Kq114.1
      have e114 : T114.heap = T114.heap := rfl
      obtain ⟨lc, elc⟩ : ∃ w : Int32, w = (if li = 0 then 40 else 91) := ⟨_, rfl⟩
      obtain ⟨hc, ehc⟩ : ∃ w : Int32, w = (if hi = 0 then 41 else 93) := ⟨_, rfl⟩
      have Hf : own_Lat Z T114.heap s1 ([lc, ca, 44, 32, cc, hc] : List Int32) := by rw [elc, ehc]; exact Hs114
      have Hg := Hf
      obtain ⟨Es1, Cs1, ps1, ls1, ts1, ks1, Vs1, As1⟩ := Hg
      have cc116 : Steps p.tables e below S0' (T114.setTop (mkF m 224 #[.val (.int p1), .val (.int p2), .val (.int p3), .val (.int p4), .val (.int p5), .val (.int li), .val (.int hi), .val (.int t1), .val (.int t2), .val (.int ca), .val (.int cb), .val (.int cc), .val (.int cd), .val (.ref x), .val (.ref y), .val (.ref g), .val (.ref s1), .val (.int 1), .val (.int 1), .val (.int (((1 : Int32) + (1 : Int32)) + (4 : Int32))), .unset] [(.ref s1)])) := Steps.trans (Steps.trans cc100 st114) (by
        refine XS.astore Xr114.here hx rfl (own_d hby at_187) rfl rfl rfl ?_
        refine XS.iload Xr114.here hx rfl (own_d hby at_189) rfl ?_
        refine XS.ifYes Xr114.here hx rfl (pc0 := 191) rfl (own_d hby at_191) rfl (i0_eq_t qt1) (by decide) rfl ?_
        refine iconstV Xr114.here hx rfl 1 (own_d hby at_198) (by decide) ?_
        refine XS.istore Xr114.here hx rfl (own_d hby at_199) rfl rfl ?_
        refine XS.iload Xr114.here hx rfl (own_d hby at_201) rfl ?_
        refine XS.ifYes Xr114.here hx rfl (pc0 := 203) rfl (own_d hby at_203) rfl (i0_eq_t qt2) (by decide) rfl ?_
        refine iconstV Xr114.here hx rfl 1 (own_d hby at_210) (by decide) ?_
        refine XS.istore Xr114.here hx rfl (own_d hby at_211) rfl rfl ?_
        refine XS.iload Xr114.here hx rfl (own_d hby at_213) rfl ?_
        refine XS.iload Xr114.here hx rfl (own_d hby at_215) rfl ?_
        refine XS.iadd Xr114.here hx rfl (own_d hby at_217) rfl ?_
        refine iconstV Xr114.here hx rfl 4 (own_d hby at_218) (by decide) ?_
        refine XS.iadd Xr114.here hx rfl (own_d hby at_219) rfl ?_
        refine XS.istore Xr114.here hx rfl (own_d hby at_220) rfl rfl ?_
        refine XS.aload Xr114.here hx rfl (own_d hby at_222) rfl rfl ?_
        exact Steps.refl _)
      have fa115 : Old Z n0 T114.heap := (fa99.keep Kq114 all0)
      obtain ⟨cq117, kq117, qa117, qb117, qc117⟩ := isOf hZ114 e114 Es1
      obtain ⟨_, _, ⟨T117, L117, k117, n117⟩, -, X117, ⟨Lc117, hQ117, l117, y117, z117⟩, st117⟩ := Xr114.virtualBack hx (y := (⟨"java/lang/String", "length", "()I"⟩ : MethodName)) (z := (⟨"java/lang/String", "length", "()I"⟩ : MethodName)) hown114 (mvT hZ114 w_220) (mvT hZ114 w_59) (notFace_of_selects (args := #[]) (mvT hZ114 w_61)) (mvT hZ114 w_61) (mvT hZ114 w_60) (by decide) (StrChars.Road.lenW (W := 0) hZ114 hw_wordsLen (kI := 4) w_15 Es1 Vs1 Cs1 As1 (StrChars.Road.codOf (cs := ([lc, ca, 44, 32, cc, hc] : List Int32)) rfl (fun c hc => (ps1 c hc).2)) (own_up _ ps1) (O2.ext fa115.2) P5 ls1 (by decide) (by decide)) qa117 qc117 (g := (mkF m 224 #[.val (.int p1), .val (.int p2), .val (.int p3), .val (.int p4), .val (.int p5), .val (.int li), .val (.int hi), .val (.int t1), .val (.int t2), .val (.int ca), .val (.int cb), .val (.int cc), .val (.int cd), .val (.ref x), .val (.ref y), .val (.ref g), .val (.ref s1), .val (.int 1), .val (.int 1), .val (.int (((1 : Int32) + (1 : Int32)) + (4 : Int32))), .unset] [(.ref s1)])) rfl (by rw [hml]; rfl) (Steps.refl _) (argsL := []) (rest := []) (lenOf own_pd6 rfl) rfl (by show 2 * 0 + _ ≤ _; exact Nat.le_of_eq rfl) (own_d hby at_224) (fun _ _ => ⟨rfl, e114, Nat.le_of_ble_eq_true rfl, Nat.le_of_ble_eq_true rfl⟩)
      dsimp only [Pt.U, Pt.locs, Pt.cells, Pt.slots] at X117 l117 y117 z117 st117 hQ117
      subst l117 y117 z117
      obtain ⟨rfl, rfl, eq117⟩ := hQ117
      have N117 := Fr.app N114 (Fr.nil n0)
      have e117 : T117.heap = T114.heap := eq117
      have cc118 : Steps p.tables e below S0' (T117.setTop (mkF m 227 #[.val (.int p1), .val (.int p2), .val (.int p3), .val (.int p4), .val (.int p5), .val (.int li), .val (.int hi), .val (.int t1), .val (.int t2), .val (.int ca), .val (.int cb), .val (.int cc), .val (.int cd), .val (.ref x), .val (.ref y), .val (.ref g), .val (.ref s1), .val (.int 1), .val (.int 1), .val (.int (((1 : Int32) + (1 : Int32)) + (4 : Int32))), .unset] [(.int 6)])) := (Steps.trans cc116 st117)
      have cc119 : Steps p.tables e below S0' (T117.setTop (mkF m 237 #[.val (.int p1), .val (.int p2), .val (.int p3), .val (.int p4), .val (.int p5), .val (.int li), .val (.int hi), .val (.int t1), .val (.int t2), .val (.int ca), .val (.int cb), .val (.int cc), .val (.int cd), .val (.ref x), .val (.ref y), .val (.ref g), .val (.ref s1), .val (.int 1), .val (.int 1), .val (.int (((1 : Int32) + (1 : Int32)) + (4 : Int32))), .unset] [(.int 0), (.ref s1)])) := Steps.trans cc118 (by
        refine XS.iload X117.here hx rfl (own_d hby at_227) rfl ?_
        refine XS.icmpYes X117.here hx rfl (pc0 := 229) rfl (own_d hby at_229) rfl (ii_eq_t (by decide)) (by decide) rfl ?_
        refine XS.aload X117.here hx rfl (own_d hby at_234) rfl rfl ?_
        refine iconstV X117.here hx rfl 0 (own_d hby at_236) (by decide) ?_
        exact Steps.refl _)
      have cz120 : Steps p.tables e below S0' (T117.setTop (mkF m 237 #[.val (.int p1), .val (.int p2), .val (.int p3), .val (.int p4), .val (.int p5), .val (.int li), .val (.int hi), .val (.int t1), .val (.int t2), .val (.int ca), .val (.int cb), .val (.int cc), .val (.int cd), .val (.ref x), .val (.ref y), .val (.ref g), .val (.ref s1), .val (.int 1), .val (.int 1), .val (.int (((1 : Int32) + (1 : Int32)) + (4 : Int32))), .unset] [(.int (Int32.ofNat 0)), (.ref s1)])) := cc119
      obtain ⟨cq121, kq121, qa121, qb121, qc121⟩ := isOf hZ114 e117 Es1
      obtain ⟨_, _, ⟨T121, L121, k121, n121⟩, -, X121, ⟨Lc121, hQ121, l121, y121, z121⟩, st121⟩ := X117.virtualBack hx (y := (⟨"java/lang/String", "charAt", "(I)C"⟩ : MethodName)) (z := (⟨"java/lang/String", "charAt", "(I)C"⟩ : MethodName)) hown114 (mvT hZ114 w_221) (mvT hZ114 w_69) (notFace_of_selects (args := #[]) (mvT hZ114 w_71)) (mvT hZ114 w_71) (mvT hZ114 w_70) (by decide) (backOf (W := 0) (own_chl l Z a0 hw s1 ([lc, ca, 44, 32, cc, hc] : List Int32) 0 z f T114.heap n0 Zs9 fa115 O2 P5 O4 hf Hf (by simp)) hZ114 w_72 w_7 (by decide) (by decide)) qa121 qc121 (g := (mkF m 237 #[.val (.int p1), .val (.int p2), .val (.int p3), .val (.int p4), .val (.int p5), .val (.int li), .val (.int hi), .val (.int t1), .val (.int t2), .val (.int ca), .val (.int cb), .val (.int cc), .val (.int cd), .val (.ref x), .val (.ref y), .val (.ref g), .val (.ref s1), .val (.int 1), .val (.int 1), .val (.int (((1 : Int32) + (1 : Int32)) + (4 : Int32))), .unset] [(.int (Int32.ofNat 0)), (.ref s1)])) rfl (by rw [hml]; rfl) (Steps.refl _) (argsL := [(.int (Int32.ofNat 0))]) (rest := []) (lenOf own_pd7 rfl) rfl (by show 2 * 0 + _ ≤ _; exact Nat.le_of_eq rfl) (own_d hby at_237) (fun _ _ => ⟨rfl, e117, Nat.le_of_ble_eq_true rfl, Nat.le_of_ble_eq_true rfl⟩)
      dsimp only [Pt.U, Pt.locs, Pt.cells, Pt.slots] at X121 l121 y121 z121 st121 hQ121
      subst l121 y121 z121
      obtain ⟨rfl, Nq121, eq121⟩ := hQ121
      have N121 := Fr.app N117 Nq121
      have e121 : T121.heap = T114.heap := eq121
      have cc122 : Steps p.tables e below S0' (T121.setTop (mkF m 242 #[.val (.int p1), .val (.int p2), .val (.int p3), .val (.int p4), .val (.int p5), .val (.int li), .val (.int hi), .val (.int t1), .val (.int t2), .val (.int ca), .val (.int cb), .val (.int cc), .val (.int cd), .val (.ref x), .val (.ref y), .val (.ref g), .val (.ref s1), .val (.int 1), .val (.int 1), .val (.int (((1 : Int32) + (1 : Int32)) + (4 : Int32))), .unset] [(.int li), (.int lc)])) := Steps.trans (Steps.trans cz120 st121) (by
        refine XS.iload X121.here hx rfl (own_d hby at_240) rfl ?_
        exact Steps.refl _)
      obtain ⟨w123, hw123, c_w123⟩ : ∃ w : Int32, w = (if li = 0 then 40 else 91) ∧ Steps p.tables e below S0' (T121.setTop (mkF m 252 #[.val (.int p1), .val (.int p2), .val (.int p3), .val (.int p4), .val (.int p5), .val (.int li), .val (.int hi), .val (.int t1), .val (.int t2), .val (.int ca), .val (.int cb), .val (.int cc), .val (.int cd), .val (.ref x), .val (.ref y), .val (.ref g), .val (.ref s1), .val (.int 1), .val (.int 1), .val (.int (((1 : Int32) + (1 : Int32)) + (4 : Int32))), .unset] [(.int w), (.int lc)])) := by
        by_cases hq : li = 0
        · refine ⟨40, (if_pos hq).symm, cc122.trans ?_⟩
          refine XS.ifYes X121.here hx rfl (pc0 := 242) rfl (own_d hby at_242) rfl (i0_eq_t hq) (by decide) rfl ?_
          refine bipushV X121.here hx rfl 40 (own_d hby at_250) (by decide) ?_
          exact Steps.refl _
        · refine ⟨91, (if_neg hq).symm, cc122.trans ?_⟩
          refine XS.ifNo X121.here hx rfl (own_d hby at_242) rfl (i0_eq_f hq) ?_
          refine bipushV X121.here hx rfl 91 (own_d hby at_245) (by decide) ?_
          refine XS.goto X121.here hx rfl (pc0 := 247) rfl (own_d hby at_247) (by decide) rfl ?_
          exact Steps.refl _
      have cc124 : Steps p.tables e below S0' (T121.setTop (mkF m 260 #[.val (.int p1), .val (.int p2), .val (.int p3), .val (.int p4), .val (.int p5), .val (.int li), .val (.int hi), .val (.int t1), .val (.int t2), .val (.int ca), .val (.int cb), .val (.int cc), .val (.int cd), .val (.ref x), .val (.ref y), .val (.ref g), .val (.ref s1), .val (.int 1), .val (.int 1), .val (.int (((1 : Int32) + (1 : Int32)) + (4 : Int32))), .unset] [(.int 1), (.ref s1)])) := Steps.trans c_w123 (by
        refine XS.icmpYes X121.here hx rfl (pc0 := 252) rfl (own_d hby at_252) rfl (ii_eq_t (elc.trans hw123.symm)) (by decide) rfl ?_
        refine XS.aload X121.here hx rfl (own_d hby at_257) rfl rfl ?_
        refine iconstV X121.here hx rfl 1 (own_d hby at_259) (by decide) ?_
        exact Steps.refl _)
      have cz125 : Steps p.tables e below S0' (T121.setTop (mkF m 260 #[.val (.int p1), .val (.int p2), .val (.int p3), .val (.int p4), .val (.int p5), .val (.int li), .val (.int hi), .val (.int t1), .val (.int t2), .val (.int ca), .val (.int cb), .val (.int cc), .val (.int cd), .val (.ref x), .val (.ref y), .val (.ref g), .val (.ref s1), .val (.int 1), .val (.int 1), .val (.int (((1 : Int32) + (1 : Int32)) + (4 : Int32))), .unset] [(.int (Int32.ofNat 1)), (.ref s1)])) := cc124
      obtain ⟨cq126, kq126, qa126, qb126, qc126⟩ := isOf hZ114 e121 Es1
      obtain ⟨_, _, ⟨T126, L126, k126, n126⟩, -, X126, ⟨Lc126, hQ126, l126, y126, z126⟩, st126⟩ := X121.virtualBack hx (y := (⟨"java/lang/String", "charAt", "(I)C"⟩ : MethodName)) (z := (⟨"java/lang/String", "charAt", "(I)C"⟩ : MethodName)) hown114 (mvT hZ114 w_221) (mvT hZ114 w_69) (notFace_of_selects (args := #[]) (mvT hZ114 w_71)) (mvT hZ114 w_71) (mvT hZ114 w_70) (by decide) (backOf (W := 0) (own_chl l Z a0 hw s1 ([lc, ca, 44, 32, cc, hc] : List Int32) 1 z f T114.heap n0 Zs9 fa115 O2 P5 O4 hf Hf (by simp)) hZ114 w_72 w_7 (by decide) (by decide)) qa126 qc126 (g := (mkF m 260 #[.val (.int p1), .val (.int p2), .val (.int p3), .val (.int p4), .val (.int p5), .val (.int li), .val (.int hi), .val (.int t1), .val (.int t2), .val (.int ca), .val (.int cb), .val (.int cc), .val (.int cd), .val (.ref x), .val (.ref y), .val (.ref g), .val (.ref s1), .val (.int 1), .val (.int 1), .val (.int (((1 : Int32) + (1 : Int32)) + (4 : Int32))), .unset] [(.int (Int32.ofNat 1)), (.ref s1)])) rfl (by rw [hml]; rfl) (Steps.refl _) (argsL := [(.int (Int32.ofNat 1))]) (rest := []) (lenOf own_pd7 rfl) rfl (by show 2 * 0 + _ ≤ _; exact Nat.le_of_eq rfl) (own_d hby at_260) (fun _ _ => ⟨rfl, e121, Nat.le_of_ble_eq_true rfl, Nat.le_of_ble_eq_true rfl⟩)
      dsimp only [Pt.U, Pt.locs, Pt.cells, Pt.slots] at X126 l126 y126 z126 st126 hQ126
      subst l126 y126 z126
      obtain ⟨rfl, Nq126, eq126⟩ := hQ126
      have N126 := Fr.app N121 Nq126
      have e126 : T126.heap = T114.heap := eq126
      have cc127 : Steps p.tables e below S0' (T126.setTop (mkF m 298 #[.val (.int p1), .val (.int p2), .val (.int p3), .val (.int p4), .val (.int p5), .val (.int li), .val (.int hi), .val (.int t1), .val (.int t2), .val (.int ca), .val (.int cb), .val (.int cc), .val (.int cd), .val (.ref x), .val (.ref y), .val (.ref g), .val (.ref s1), .val (.int 1), .val (.int 1), .val (.int (((1 : Int32) + (1 : Int32)) + (4 : Int32))), .val (.int ((1 : Int32) + (1 : Int32)))] [(.int ((1 : Int32) + (1 : Int32))), (.ref s1)])) := Steps.trans (Steps.trans cz125 st126) (by
        refine XS.iload X126.here hx rfl (own_d hby at_263) rfl ?_
        refine XS.icmpYes X126.here hx rfl (pc0 := 265) rfl (own_d hby at_265) rfl (ii_eq_t rfl) (by decide) rfl ?_
        refine XS.iload X126.here hx rfl (own_d hby at_270) rfl ?_
        refine XS.ifYes X126.here hx rfl (pc0 := 272) rfl (own_d hby at_272) rfl (i0_eq_t qt1) (by decide) rfl ?_
        refine iconstV X126.here hx rfl 1 (own_d hby at_288) (by decide) ?_
        refine XS.iload X126.here hx rfl (own_d hby at_289) rfl ?_
        refine XS.iadd X126.here hx rfl (own_d hby at_291) rfl ?_
        refine XS.istore X126.here hx rfl (own_d hby at_292) rfl rfl ?_
        refine XS.aload X126.here hx rfl (own_d hby at_294) rfl rfl ?_
        refine XS.iload X126.here hx rfl (own_d hby at_296) rfl ?_
        exact Steps.refl _)
      have cz128 : Steps p.tables e below S0' (T126.setTop (mkF m 298 #[.val (.int p1), .val (.int p2), .val (.int p3), .val (.int p4), .val (.int p5), .val (.int li), .val (.int hi), .val (.int t1), .val (.int t2), .val (.int ca), .val (.int cb), .val (.int cc), .val (.int cd), .val (.ref x), .val (.ref y), .val (.ref g), .val (.ref s1), .val (.int 1), .val (.int 1), .val (.int (((1 : Int32) + (1 : Int32)) + (4 : Int32))), .val (.int ((1 : Int32) + (1 : Int32)))] [(.int (Int32.ofNat 2)), (.ref s1)])) := cc127
      obtain ⟨cq129, kq129, qa129, qb129, qc129⟩ := isOf hZ114 e126 Es1
      obtain ⟨_, _, ⟨T129, L129, k129, n129⟩, -, X129, ⟨Lc129, hQ129, l129, y129, z129⟩, st129⟩ := X126.virtualBack hx (y := (⟨"java/lang/String", "charAt", "(I)C"⟩ : MethodName)) (z := (⟨"java/lang/String", "charAt", "(I)C"⟩ : MethodName)) hown114 (mvT hZ114 w_221) (mvT hZ114 w_69) (notFace_of_selects (args := #[]) (mvT hZ114 w_71)) (mvT hZ114 w_71) (mvT hZ114 w_70) (by decide) (backOf (W := 0) (own_chl l Z a0 hw s1 ([lc, ca, 44, 32, cc, hc] : List Int32) 2 z f T114.heap n0 Zs9 fa115 O2 P5 O4 hf Hf (by simp)) hZ114 w_72 w_7 (by decide) (by decide)) qa129 qc129 (g := (mkF m 298 #[.val (.int p1), .val (.int p2), .val (.int p3), .val (.int p4), .val (.int p5), .val (.int li), .val (.int hi), .val (.int t1), .val (.int t2), .val (.int ca), .val (.int cb), .val (.int cc), .val (.int cd), .val (.ref x), .val (.ref y), .val (.ref g), .val (.ref s1), .val (.int 1), .val (.int 1), .val (.int (((1 : Int32) + (1 : Int32)) + (4 : Int32))), .val (.int ((1 : Int32) + (1 : Int32)))] [(.int (Int32.ofNat 2)), (.ref s1)])) rfl (by rw [hml]; rfl) (Steps.refl _) (argsL := [(.int (Int32.ofNat 2))]) (rest := []) (lenOf own_pd7 rfl) rfl (by show 2 * 0 + _ ≤ _; exact Nat.le_of_eq rfl) (own_d hby at_298) (fun _ _ => ⟨rfl, e126, Nat.le_of_ble_eq_true rfl, Nat.le_of_ble_eq_true rfl⟩)
      dsimp only [Pt.U, Pt.locs, Pt.cells, Pt.slots] at X129 l129 y129 z129 st129 hQ129
      subst l129 y129 z129
      obtain ⟨rfl, Nq129, eq129⟩ := hQ129
      have N129 := Fr.app N126 Nq129
      have e129 : T129.heap = T114.heap := eq129
      have cc130 : Steps p.tables e below S0' (T129.setTop (mkF m 312 #[.val (.int p1), .val (.int p2), .val (.int p3), .val (.int p4), .val (.int p5), .val (.int li), .val (.int hi), .val (.int t1), .val (.int t2), .val (.int ca), .val (.int cb), .val (.int cc), .val (.int cd), .val (.ref x), .val (.ref y), .val (.ref g), .val (.ref s1), .val (.int 1), .val (.int 1), .val (.int (((1 : Int32) + (1 : Int32)) + (4 : Int32))), .val (.int ((1 : Int32) + (1 : Int32)))] [(.int (((1 : Int32) + (1 : Int32)) + (1 : Int32))), (.ref s1)])) := Steps.trans (Steps.trans cz128 st129) (by
        refine bipushV X129.here hx rfl 44 (own_d hby at_301) (by decide) ?_
        refine XS.icmpNo X129.here hx rfl (own_d hby at_303) rfl (ii_ne_f rfl) ?_
        refine XS.aload X129.here hx rfl (own_d hby at_306) rfl rfl ?_
        refine XS.iload X129.here hx rfl (own_d hby at_308) rfl ?_
        refine iconstV X129.here hx rfl 1 (own_d hby at_310) (by decide) ?_
        refine XS.iadd X129.here hx rfl (own_d hby at_311) rfl ?_
        exact Steps.refl _)
      have cz131 : Steps p.tables e below S0' (T129.setTop (mkF m 312 #[.val (.int p1), .val (.int p2), .val (.int p3), .val (.int p4), .val (.int p5), .val (.int li), .val (.int hi), .val (.int t1), .val (.int t2), .val (.int ca), .val (.int cb), .val (.int cc), .val (.int cd), .val (.ref x), .val (.ref y), .val (.ref g), .val (.ref s1), .val (.int 1), .val (.int 1), .val (.int (((1 : Int32) + (1 : Int32)) + (4 : Int32))), .val (.int ((1 : Int32) + (1 : Int32)))] [(.int (Int32.ofNat 3)), (.ref s1)])) := cc130
      obtain ⟨cq132, kq132, qa132, qb132, qc132⟩ := isOf hZ114 e129 Es1
      obtain ⟨_, _, ⟨T132, L132, k132, n132⟩, -, X132, ⟨Lc132, hQ132, l132, y132, z132⟩, st132⟩ := X129.virtualBack hx (y := (⟨"java/lang/String", "charAt", "(I)C"⟩ : MethodName)) (z := (⟨"java/lang/String", "charAt", "(I)C"⟩ : MethodName)) hown114 (mvT hZ114 w_221) (mvT hZ114 w_69) (notFace_of_selects (args := #[]) (mvT hZ114 w_71)) (mvT hZ114 w_71) (mvT hZ114 w_70) (by decide) (backOf (W := 0) (own_chl l Z a0 hw s1 ([lc, ca, 44, 32, cc, hc] : List Int32) 3 z f T114.heap n0 Zs9 fa115 O2 P5 O4 hf Hf (by simp)) hZ114 w_72 w_7 (by decide) (by decide)) qa132 qc132 (g := (mkF m 312 #[.val (.int p1), .val (.int p2), .val (.int p3), .val (.int p4), .val (.int p5), .val (.int li), .val (.int hi), .val (.int t1), .val (.int t2), .val (.int ca), .val (.int cb), .val (.int cc), .val (.int cd), .val (.ref x), .val (.ref y), .val (.ref g), .val (.ref s1), .val (.int 1), .val (.int 1), .val (.int (((1 : Int32) + (1 : Int32)) + (4 : Int32))), .val (.int ((1 : Int32) + (1 : Int32)))] [(.int (Int32.ofNat 3)), (.ref s1)])) rfl (by rw [hml]; rfl) (Steps.refl _) (argsL := [(.int (Int32.ofNat 3))]) (rest := []) (lenOf own_pd7 rfl) rfl (by show 2 * 0 + _ ≤ _; exact Nat.le_of_eq rfl) (own_d hby at_312) (fun _ _ => ⟨rfl, e129, Nat.le_of_ble_eq_true rfl, Nat.le_of_ble_eq_true rfl⟩)
      dsimp only [Pt.U, Pt.locs, Pt.cells, Pt.slots] at X132 l132 y132 z132 st132 hQ132
      subst l132 y132 z132
      obtain ⟨rfl, Nq132, eq132⟩ := hQ132
      have N132 := Fr.app N129 Nq132
      have e132 : T132.heap = T114.heap := eq132
      have cc133 : Steps p.tables e below S0' (T132.setTop (mkF m 328 #[.val (.int p1), .val (.int p2), .val (.int p3), .val (.int p4), .val (.int p5), .val (.int li), .val (.int hi), .val (.int t1), .val (.int t2), .val (.int ca), .val (.int cb), .val (.int cc), .val (.int cd), .val (.ref x), .val (.ref y), .val (.ref g), .val (.ref s1), .val (.int 1), .val (.int 1), .val (.int (((1 : Int32) + (1 : Int32)) + (4 : Int32))), .val (.int ((1 : Int32) + (1 : Int32)))] [(.int (((1 : Int32) + (1 : Int32)) + (2 : Int32))), (.ref s1)])) := Steps.trans (Steps.trans cz131 st132) (by
        refine bipushV X132.here hx rfl 32 (own_d hby at_315) (by decide) ?_
        refine XS.icmpYes X132.here hx rfl (pc0 := 317) rfl (own_d hby at_317) rfl (ii_eq_t rfl) (by decide) rfl ?_
        refine XS.aload X132.here hx rfl (own_d hby at_322) rfl rfl ?_
        refine XS.iload X132.here hx rfl (own_d hby at_324) rfl ?_
        refine iconstV X132.here hx rfl 2 (own_d hby at_326) (by decide) ?_
        refine XS.iadd X132.here hx rfl (own_d hby at_327) rfl ?_
        exact Steps.refl _)
      have cz134 : Steps p.tables e below S0' (T132.setTop (mkF m 328 #[.val (.int p1), .val (.int p2), .val (.int p3), .val (.int p4), .val (.int p5), .val (.int li), .val (.int hi), .val (.int t1), .val (.int t2), .val (.int ca), .val (.int cb), .val (.int cc), .val (.int cd), .val (.ref x), .val (.ref y), .val (.ref g), .val (.ref s1), .val (.int 1), .val (.int 1), .val (.int (((1 : Int32) + (1 : Int32)) + (4 : Int32))), .val (.int ((1 : Int32) + (1 : Int32)))] [(.int (Int32.ofNat 4)), (.ref s1)])) := cc133
      obtain ⟨cq135, kq135, qa135, qb135, qc135⟩ := isOf hZ114 e132 Es1
      obtain ⟨_, _, ⟨T135, L135, k135, n135⟩, -, X135, ⟨Lc135, hQ135, l135, y135, z135⟩, st135⟩ := X132.virtualBack hx (y := (⟨"java/lang/String", "charAt", "(I)C"⟩ : MethodName)) (z := (⟨"java/lang/String", "charAt", "(I)C"⟩ : MethodName)) hown114 (mvT hZ114 w_221) (mvT hZ114 w_69) (notFace_of_selects (args := #[]) (mvT hZ114 w_71)) (mvT hZ114 w_71) (mvT hZ114 w_70) (by decide) (backOf (W := 0) (own_chl l Z a0 hw s1 ([lc, ca, 44, 32, cc, hc] : List Int32) 4 z f T114.heap n0 Zs9 fa115 O2 P5 O4 hf Hf (by simp)) hZ114 w_72 w_7 (by decide) (by decide)) qa135 qc135 (g := (mkF m 328 #[.val (.int p1), .val (.int p2), .val (.int p3), .val (.int p4), .val (.int p5), .val (.int li), .val (.int hi), .val (.int t1), .val (.int t2), .val (.int ca), .val (.int cb), .val (.int cc), .val (.int cd), .val (.ref x), .val (.ref y), .val (.ref g), .val (.ref s1), .val (.int 1), .val (.int 1), .val (.int (((1 : Int32) + (1 : Int32)) + (4 : Int32))), .val (.int ((1 : Int32) + (1 : Int32)))] [(.int (Int32.ofNat 4)), (.ref s1)])) rfl (by rw [hml]; rfl) (Steps.refl _) (argsL := [(.int (Int32.ofNat 4))]) (rest := []) (lenOf own_pd7 rfl) rfl (by show 2 * 0 + _ ≤ _; exact Nat.le_of_eq rfl) (own_d hby at_328) (fun _ _ => ⟨rfl, e132, Nat.le_of_ble_eq_true rfl, Nat.le_of_ble_eq_true rfl⟩)
      dsimp only [Pt.U, Pt.locs, Pt.cells, Pt.slots] at X135 l135 y135 z135 st135 hQ135
      subst l135 y135 z135
      obtain ⟨rfl, Nq135, eq135⟩ := hQ135
      have N135 := Fr.app N132 Nq135
      have e135 : T135.heap = T114.heap := eq135
      have cc136 : Steps p.tables e below S0' (T135.setTop (mkF m 365 #[.val (.int p1), .val (.int p2), .val (.int p3), .val (.int p4), .val (.int p5), .val (.int li), .val (.int hi), .val (.int t1), .val (.int t2), .val (.int ca), .val (.int cb), .val (.int cc), .val (.int cd), .val (.ref x), .val (.ref y), .val (.ref g), .val (.ref s1), .val (.int 1), .val (.int 1), .val (.int (((1 : Int32) + (1 : Int32)) + (4 : Int32))), .val (.int ((1 : Int32) + (1 : Int32)))] [(.int ((((1 : Int32) + (1 : Int32)) + (4 : Int32)) - (1 : Int32))), (.ref s1)])) := Steps.trans (Steps.trans cz134 st135) (by
        refine XS.iload X135.here hx rfl (own_d hby at_331) rfl ?_
        refine XS.icmpYes X135.here hx rfl (pc0 := 333) rfl (own_d hby at_333) rfl (ii_eq_t rfl) (by decide) rfl ?_
        refine XS.iload X135.here hx rfl (own_d hby at_338) rfl ?_
        refine XS.ifYes X135.here hx rfl (pc0 := 340) rfl (own_d hby at_340) rfl (i0_eq_t qt2) (by decide) rfl ?_
        refine XS.aload X135.here hx rfl (own_d hby at_359) rfl rfl ?_
        refine XS.iload X135.here hx rfl (own_d hby at_361) rfl ?_
        refine iconstV X135.here hx rfl 1 (own_d hby at_363) (by decide) ?_
        refine XS.isub X135.here hx rfl (own_d hby at_364) rfl ?_
        exact Steps.refl _)
      have cz137 : Steps p.tables e below S0' (T135.setTop (mkF m 365 #[.val (.int p1), .val (.int p2), .val (.int p3), .val (.int p4), .val (.int p5), .val (.int li), .val (.int hi), .val (.int t1), .val (.int t2), .val (.int ca), .val (.int cb), .val (.int cc), .val (.int cd), .val (.ref x), .val (.ref y), .val (.ref g), .val (.ref s1), .val (.int 1), .val (.int 1), .val (.int (((1 : Int32) + (1 : Int32)) + (4 : Int32))), .val (.int ((1 : Int32) + (1 : Int32)))] [(.int (Int32.ofNat 5)), (.ref s1)])) := cc136
      obtain ⟨cq138, kq138, qa138, qb138, qc138⟩ := isOf hZ114 e135 Es1
      obtain ⟨_, _, ⟨T138, L138, k138, n138⟩, -, X138, ⟨Lc138, hQ138, l138, y138, z138⟩, st138⟩ := X135.virtualBack hx (y := (⟨"java/lang/String", "charAt", "(I)C"⟩ : MethodName)) (z := (⟨"java/lang/String", "charAt", "(I)C"⟩ : MethodName)) hown114 (mvT hZ114 w_221) (mvT hZ114 w_69) (notFace_of_selects (args := #[]) (mvT hZ114 w_71)) (mvT hZ114 w_71) (mvT hZ114 w_70) (by decide) (backOf (W := 0) (own_chl l Z a0 hw s1 ([lc, ca, 44, 32, cc, hc] : List Int32) 5 z f T114.heap n0 Zs9 fa115 O2 P5 O4 hf Hf (by simp)) hZ114 w_72 w_7 (by decide) (by decide)) qa138 qc138 (g := (mkF m 365 #[.val (.int p1), .val (.int p2), .val (.int p3), .val (.int p4), .val (.int p5), .val (.int li), .val (.int hi), .val (.int t1), .val (.int t2), .val (.int ca), .val (.int cb), .val (.int cc), .val (.int cd), .val (.ref x), .val (.ref y), .val (.ref g), .val (.ref s1), .val (.int 1), .val (.int 1), .val (.int (((1 : Int32) + (1 : Int32)) + (4 : Int32))), .val (.int ((1 : Int32) + (1 : Int32)))] [(.int (Int32.ofNat 5)), (.ref s1)])) rfl (by rw [hml]; rfl) (Steps.refl _) (argsL := [(.int (Int32.ofNat 5))]) (rest := []) (lenOf own_pd7 rfl) rfl (by show 2 * 0 + _ ≤ _; exact Nat.le_of_eq rfl) (own_d hby at_365) (fun _ _ => ⟨rfl, e135, Nat.le_of_ble_eq_true rfl, Nat.le_of_ble_eq_true rfl⟩)
      dsimp only [Pt.U, Pt.locs, Pt.cells, Pt.slots] at X138 l138 y138 z138 st138 hQ138
      subst l138 y138 z138
      obtain ⟨rfl, Nq138, eq138⟩ := hQ138
      have N138 := Fr.app N135 Nq138
      have e138 : T138.heap = T114.heap := eq138
      have cc139 : Steps p.tables e below S0' (T138.setTop (mkF m 370 #[.val (.int p1), .val (.int p2), .val (.int p3), .val (.int p4), .val (.int p5), .val (.int li), .val (.int hi), .val (.int t1), .val (.int t2), .val (.int ca), .val (.int cb), .val (.int cc), .val (.int cd), .val (.ref x), .val (.ref y), .val (.ref g), .val (.ref s1), .val (.int 1), .val (.int 1), .val (.int (((1 : Int32) + (1 : Int32)) + (4 : Int32))), .val (.int ((1 : Int32) + (1 : Int32)))] [(.int hi), (.int hc)])) := Steps.trans (Steps.trans cz137 st138) (by
        refine XS.iload X138.here hx rfl (own_d hby at_368) rfl ?_
        exact Steps.refl _)
      obtain ⟨w140, hw140, c_w140⟩ : ∃ w : Int32, w = (if hi = 0 then 41 else 93) ∧ Steps p.tables e below S0' (T138.setTop (mkF m 380 #[.val (.int p1), .val (.int p2), .val (.int p3), .val (.int p4), .val (.int p5), .val (.int li), .val (.int hi), .val (.int t1), .val (.int t2), .val (.int ca), .val (.int cb), .val (.int cc), .val (.int cd), .val (.ref x), .val (.ref y), .val (.ref g), .val (.ref s1), .val (.int 1), .val (.int 1), .val (.int (((1 : Int32) + (1 : Int32)) + (4 : Int32))), .val (.int ((1 : Int32) + (1 : Int32)))] [(.int w), (.int hc)])) := by
        by_cases hq : hi = 0
        · refine ⟨41, (if_pos hq).symm, cc139.trans ?_⟩
          refine XS.ifYes X138.here hx rfl (pc0 := 370) rfl (own_d hby at_370) rfl (i0_eq_t hq) (by decide) rfl ?_
          refine bipushV X138.here hx rfl 41 (own_d hby at_378) (by decide) ?_
          exact Steps.refl _
        · refine ⟨93, (if_neg hq).symm, cc139.trans ?_⟩
          refine XS.ifNo X138.here hx rfl (own_d hby at_370) rfl (i0_eq_f hq) ?_
          refine bipushV X138.here hx rfl 93 (own_d hby at_373) (by decide) ?_
          refine XS.goto X138.here hx rfl (pc0 := 375) rfl (own_d hby at_375) (by decide) rfl ?_
          exact Steps.refl _
      have cc141 : Steps p.tables e below S0' (T138.setTop (mkF m 388 #[.val (.int p1), .val (.int p2), .val (.int p3), .val (.int p4), .val (.int p5), .val (.int li), .val (.int hi), .val (.int t1), .val (.int t2), .val (.int ca), .val (.int cb), .val (.int cc), .val (.int cd), .val (.ref x), .val (.ref y), .val (.ref g), .val (.ref s1), .val (.int 1), .val (.int 1), .val (.int (((1 : Int32) + (1 : Int32)) + (4 : Int32))), .val (.int ((1 : Int32) + (1 : Int32)))] [(.int 1)])) := Steps.trans c_w140 (by
        refine XS.icmpNo X138.here hx rfl (own_d hby at_380) rfl (ii_ne_f (ehc.trans hw140.symm)) ?_
        refine iconstV X138.here hx rfl 1 (own_d hby at_383) (by decide) ?_
        refine XS.goto X138.here hx rfl (pc0 := 384) rfl (own_d hby at_384) (by decide) rfl ?_
        exact Steps.refl _)
      have cE := cc141
      rw [hS0'] at cE
      obtain ⟨fs, hr_, hrun, hended, hE⟩ := X138.leaveW hS114 (by rw [e138]; exact hk114) (v := some (.int 1)) (fun h => by rw [Bd.returns] at h; cases h)
      have CE := C114.trans (CHv.at X138 hZ114 hEL C114.1)
      refine ⟨_, _, cE.trans (X138.ireturnOut hx Bd.returns (rfl) (by simp) (own_d hby at_388) hr_), hrun, hended, _, _, rfl, ?_, ?_, hE.1, hE.2.1, hE.2.2.1, hE.2.2.2.mono (by first | decide | omega) (by first | decide | omega)⟩
      · show Q_own_law Z p1 p2 p3 p4 p5 z f h0 n0 _ T138.heap _
        rw [e138]
        exact ⟨rfl, N138⟩
      · rw [hh]
        show CHr Z EL s.vm h0 T138.vm T138.heap
        rw [e138]
        exact CE
    · skip
      have cc39 : Steps p.tables e below S0' (T35.setTop (mkF m 121 #[.val (.int p1), .val (.int p2), .val (.int p3), .val (.int p4), .val (.int p5), .val (.int li), .val (.int hi), .val (.int t1), .val (.int t2), .val (.int ca), .val (.int cb), .val (.int cc), .val (.int cd), .val (.ref x), .unset, .unset, .unset, .unset, .unset, .unset, .unset] [])) := Steps.trans cc38 (by
        refine XS.ifNo X35.here hx rfl (own_d hby at_118) rfl (i0_eq_f qt2) ?_
        exact Steps.refl _)
      obtain ⟨T40, h40, X40, e40, E40, A40, D40, -, st40⟩ := newO X35 hx hZ hown w_222 w_15 w_7 e35 (g := (mkF m 121 #[.val (.int p1), .val (.int p2), .val (.int p3), .val (.int p4), .val (.int p5), .val (.int li), .val (.int hi), .val (.int t1), .val (.int t2), .val (.int ca), .val (.int cb), .val (.int cc), .val (.int cd), .val (.ref x), .unset, .unset, .unset, .unset, .unset, .unset, .unset] [])) rfl (own_d hby at_121) (by decide) (by decide)
      obtain ⟨y, g_y⟩ : ∃ z, z = T35.heap.size := ⟨_, rfl⟩
      rw [← g_y] at A40 D40 st40
      have K40 := (Keep.refl T35.heap ([] : List Addr)).ext E40
      have b_y : T35.heap.size ≤ y := (Nat.le_of_eq g_y.symm)
      have gn_y : n0 ≤ y := Nat.le_trans Zs1 b_y
      have s0_y : h0.size ≤ y := Nat.le_trans KK1.1 b_y
      have ne_x_y : x ≠ y := Nat.ne_of_lt (Nat.lt_of_lt_of_le Ex.lt b_y)
      have ne_tx_y : tx ≠ y := Nat.ne_of_lt (Nat.lt_of_lt_of_le Ax.lt b_y)
      have D41 := CHr.ext E40 C37.1
      have C42 := C37.trans D41
      have sf_y : Safe Z EL s.vm h40 y := Safe.ext E40 C37.1 (Safe.new b_y)
      have KK2 : Keep h0 h40 ([] : List Addr) := KK1.trans K40 all0
      have Zs2 : n0 ≤ h40.size := Nat.le_trans Zs1 K40.1
      have F_value_y : Fld Z h40 y "java/lang/String" "value" "[B" .null := D40 (Or.inr w_28) (ty := (.array .byte)) (by decide)
      have F_coder_y : Fld Z h40 y "java/lang/String" "coder" "B" (.int (0 : Int32)) := D40 (Or.inr w_30) (ty := .byte) (by decide)
      have cc43 : Steps p.tables e below S0' (T40.setTop (mkF m 126 #[.val (.int p1), .val (.int p2), .val (.int p3), .val (.int p4), .val (.int p5), .val (.int li), .val (.int hi), .val (.int t1), .val (.int t2), .val (.int ca), .val (.int cb), .val (.int cc), .val (.int cd), .val (.ref x), .unset, .unset, .unset, .unset, .unset, .unset, .unset] [(.int 2), (.ref y), (.ref y)])) := Steps.trans (cc39.trans (st40 _ (Steps.refl _))) (by
        refine XS.dup X40.here hx rfl (own_d hby at_124) rfl rfl ?_
        refine iconstV X40.here hx rfl 2 (own_d hby at_125) (by decide) ?_
        exact Steps.refl _)
      obtain ⟨T44, h44, k44, X44, e44, E44, A44, st44⟩ := newP X40 hx hZ (aty := .char) w_223 e40 (g := (mkF m 126 #[.val (.int p1), .val (.int p2), .val (.int p3), .val (.int p4), .val (.int p5), .val (.int li), .val (.int hi), .val (.int t1), .val (.int t2), .val (.int ca), .val (.int cb), .val (.int cc), .val (.int cd), .val (.ref x), .unset, .unset, .unset, .unset, .unset, .unset, .unset] [(.int 2), (.ref y), (.ref y)])) rfl (own_d hby at_126) rfl (by decide) (cap := 2) (by decide) (by decide) (by decide) (by decide)
      obtain ⟨ba_y, g_ba_y⟩ : ∃ z, z = h40.size := ⟨_, rfl⟩
      rw [← g_ba_y] at A44 st44
      have K44 := (Keep.refl h40 ([] : List Addr)).ext E44
      have b_ba_y : h40.size ≤ ba_y := (Nat.le_of_eq g_ba_y.symm)
      have gn_ba_y : n0 ≤ ba_y := Nat.le_trans Zs2 b_ba_y
      have s0_ba_y : h0.size ≤ ba_y := Nat.le_trans KK2.1 b_ba_y
      have fa45 : Exa Z h40 x "java/lang/String" := (Ex.keep K40)
      have ne_x_ba_y : x ≠ ba_y := Nat.ne_of_lt (Nat.lt_of_lt_of_le fa45.lt b_ba_y)
      have fa46 : Arv Z h40 tx kx .byte (Int32.ofNat ([ca] : List Int32).length) (own_by ([ca] : List Int32)) (.int (0 : Int32)) := (Ax.keep K40 nin0)
      have ne_tx_ba_y : tx ≠ ba_y := Nat.ne_of_lt (Nat.lt_of_lt_of_le fa46.lt b_ba_y)
      have ne_y_ba_y : y ≠ ba_y := Nat.ne_of_lt (Nat.lt_of_lt_of_le A40.lt b_ba_y)
      have D47 := CHr.ext E44 C42.1
      have C48 := C42.trans D47
      have sf_ba_y : Safe Z EL s.vm h44 ba_y := Safe.ext E44 C42.1 (Safe.new b_ba_y)
      have KK3 : Keep h0 h44 ([] : List Addr) := KK2.trans K44 all0
      have Zs3 : n0 ≤ h44.size := Nat.le_trans Zs2 K44.1
      have V_ba_y : Arv Z h44 ba_y k44 .char (2 : Int32) [(.int (0 : Int32)), (.int (0 : Int32))] (.int (0 : Int32)) := (Arv.new A44 (by decide)).pad (pad_rep [] (.int (0 : Int32)) 2)
      have cc49 : Steps p.tables e below S0' (T44.setTop (mkF m 132 #[.val (.int p1), .val (.int p2), .val (.int p3), .val (.int p4), .val (.int p5), .val (.int li), .val (.int hi), .val (.int t1), .val (.int t2), .val (.int ca), .val (.int cb), .val (.int cc), .val (.int cd), .val (.ref x), .unset, .unset, .unset, .unset, .unset, .unset, .unset] [(.int cc), (.int 0), (.ref ba_y), (.ref ba_y), (.ref y), (.ref y)])) := Steps.trans (cc43.trans (st44 _ (Steps.refl _))) (by
        refine XS.dup X44.here hx rfl (own_d hby at_128) rfl rfl ?_
        refine iconstV X44.here hx rfl 0 (own_d hby at_129) (by decide) ?_
        refine XS.iload X44.here hx rfl (own_d hby at_130) rfl ?_
        exact Steps.refl _)
      obtain ⟨clu50, Aru50, qu50, Su50, Ngu50, Hsu50, Gsu50⟩ := id V_ba_y
      have inu50 : ¬ ((0 : Int32) < 0 ∨ clu50.slots.size ≤ (0 : Int32).toNatClampNeg) := inb_of Su50 ⟨by decide, by decide⟩
      obtain ⟨T51, h51, X51, e51, W51, st51⟩ := stC X44 hx hZ e44 Aru50 (j := (0 : Int32)) inu50 (g := (mkF m 132 #[.val (.int p1), .val (.int p2), .val (.int p3), .val (.int p4), .val (.int p5), .val (.int li), .val (.int hi), .val (.int t1), .val (.int t2), .val (.int ca), .val (.int cb), .val (.int cc), .val (.int cd), .val (.ref x), .unset, .unset, .unset, .unset, .unset, .unset, .unset] [(.int cc), (.int 0), (.ref ba_y), (.ref ba_y), (.ref y), (.ref y)])) rfl rfl (own_d hby at_132)
      have K51 := Keep.of_wr W51
      have N51 := Fr.snoc X51 N35 gn_ba_y
      have D52 := CHr.wr W51 sf_ba_y C48.1
      have C53 := C48.trans D52
      have KK4 : Keep h0 h51 ([] : List Addr) := KK3.trans K51 (allS (Or.inr s0_ba_y) all0)
      have Zs4 : n0 ≤ h51.size := Nat.le_trans Zs3 K51.1
      have V51 : Arv Z h51 ba_y k44 .char (2 : Int32) ([(.int (nar .char cc)), (.int (0 : Int32))]) (.int (0 : Int32)) := Arv.set Aru50 qu50 Su50 Ngu50 Hsu50 Gsu50 (fits_nar_char _) W51 0 rfl (Nat.le_of_ble_eq_true rfl)
      have sf54 := D52.safe A44.lt sf_ba_y
      have lt55 := Nat.lt_of_lt_of_le A44.lt K51.1
      have cc56 : Steps p.tables e below S0' (T51.setTop (mkF m 137 #[.val (.int p1), .val (.int p2), .val (.int p3), .val (.int p4), .val (.int p5), .val (.int li), .val (.int hi), .val (.int t1), .val (.int t2), .val (.int ca), .val (.int cb), .val (.int cc), .val (.int cd), .val (.ref x), .unset, .unset, .unset, .unset, .unset, .unset, .unset] [(.int cd), (.int 1), (.ref ba_y), (.ref ba_y), (.ref y), (.ref y)])) := Steps.trans (cc49.trans (st51 _ (Steps.refl _))) (by
        refine XS.dup X51.here hx rfl (own_d hby at_133) rfl rfl ?_
        refine iconstV X51.here hx rfl 1 (own_d hby at_134) (by decide) ?_
        refine XS.iload X51.here hx rfl (own_d hby at_135) rfl ?_
        exact Steps.refl _)
      obtain ⟨clu57, Aru57, qu57, Su57, Ngu57, Hsu57, Gsu57⟩ := id V51
      have inu57 : ¬ ((1 : Int32) < 0 ∨ clu57.slots.size ≤ (1 : Int32).toNatClampNeg) := inb_of Su57 ⟨by decide, by decide⟩
      obtain ⟨T58, h58, X58, e58, W58, st58⟩ := stC X51 hx hZ e51 Aru57 (j := (1 : Int32)) inu57 (g := (mkF m 137 #[.val (.int p1), .val (.int p2), .val (.int p3), .val (.int p4), .val (.int p5), .val (.int li), .val (.int hi), .val (.int t1), .val (.int t2), .val (.int ca), .val (.int cb), .val (.int cc), .val (.int cd), .val (.ref x), .unset, .unset, .unset, .unset, .unset, .unset, .unset] [(.int cd), (.int 1), (.ref ba_y), (.ref ba_y), (.ref y), (.ref y)])) rfl rfl (own_d hby at_137)
      have K58 := Keep.of_wr W58
      have N58 := Fr.snoc X58 N51 gn_ba_y
      have D59 := CHr.wr W58 sf54 C53.1
      have C60 := C53.trans D59
      have KK5 : Keep h0 h58 ([] : List Addr) := KK4.trans K58 (allS (Or.inr s0_ba_y) all0)
      have Zs5 : n0 ≤ h58.size := Nat.le_trans Zs4 K58.1
      have V58 : Arv Z h58 ba_y k44 .char (2 : Int32) ([(.int (nar .char cc)), (.int (nar .char cd))]) (.int (0 : Int32)) := Arv.set Aru57 qu57 Su57 Ngu57 Hsu57 Gsu57 (fits_nar_char _) W58 1 rfl (Nat.le_of_ble_eq_true rfl)
      have hpy : ∀ w ∈ ([cc, cd] : List Int32), ¬ w < 0 ∧ ¬ (255 : Int32) < w := by
        intro w hw'
        simp only [List.mem_cons, List.not_mem_nil, or_false] at hw'
        rcases hw' with rfl | rfl
        · exact gcc
        · exact gcd
      have cc62 : Steps p.tables e below S0' (T58.setTop (mkF m 138 #[.val (.int p1), .val (.int p2), .val (.int p3), .val (.int p4), .val (.int p5), .val (.int li), .val (.int hi), .val (.int t1), .val (.int t2), .val (.int ca), .val (.int cb), .val (.int cc), .val (.int cd), .val (.ref x), .unset, .unset, .unset, .unset, .unset, .unset, .unset] [(.ref ba_y), (.ref y), (.ref y)])) := (cc56.trans (st58 _ (Steps.refl _)))
      have fa61 : Exa Z h58 y "java/lang/String" := (((A40.keep K44).keep K51).keep K58)
      have fa63 : Fld Z h58 y "java/lang/String" "value" "[B" .null := (((F_value_y.keep K44 nin0).keep K51 (ninS ne_y_ba_y nin0)).keep K58 (ninS ne_y_ba_y nin0))
      have fa64 : Fld Z h58 y "java/lang/String" "coder" "B" (.int (0 : Int32)) := (((F_coder_y.keep K44 nin0).keep K51 (ninS ne_y_ba_y nin0)).keep K58 (ninS ne_y_ba_y nin0))
      have fa65 : Old Z n0 h58 := (((((X00.keep Kq35 all0).keep K40 all0).keep K44 all0).keep K51 (allS gn_ba_y all0)).keep K58 (allS gn_ba_y all0))
      obtain ⟨_, _, ⟨T66, L66, k66, n66⟩, -, X66, ⟨Lc66, hQ66, l66, y66, z66⟩, st66⟩ := X58.specialBack hx (y := (⟨"java/lang/String", "<init>", "([C)V"⟩ : MethodName)) rfl hown (mvT hZ w_224) (mvT hZ w_225) (mvT hZ w_226) (by decide) (StrChars.Road.backV (W := 1) hZ hw_words (kI := 4) w_15 (cs := ([cc, cd] : List Int32)) (bs := (([cc, cd] : List Int32)).map (fun c => c.toInt8.toInt32)) (n := 2) gn_y Zs5 fa61 fa63 fa64 (own_arv_eq V58 (by simp only [own_nar gcc, own_nar gcd]; rfl) : Arv Z h58 ba_y _ .char (2 : Int32) ((([cc, cd] : List Int32)).map Value.int) (.int (0 : Int32))) (O2.ext fa65.2) P5 rfl rfl (by decide) (by decide) hpy rfl (by decide) (by decide)) (g := (mkF m 138 #[.val (.int p1), .val (.int p2), .val (.int p3), .val (.int p4), .val (.int p5), .val (.int li), .val (.int hi), .val (.int t1), .val (.int t2), .val (.int ca), .val (.int cb), .val (.int cc), .val (.int cd), .val (.ref x), .unset, .unset, .unset, .unset, .unset, .unset, .unset] [(.ref ba_y), (.ref y), (.ref y)])) rfl (by rw [hml]; rfl) (Steps.refl _) (a := y) (argsL := [(.ref ba_y)]) (rest := [(.ref y)]) (lenOf own_pd26 rfl) rfl (by show 2 * 0 + _ ≤ _; exact Nat.le_of_eq rfl) (own_d hby at_138) (fun _ _ => ⟨rfl, e58, Nat.le_of_ble_eq_true rfl, Nat.le_of_ble_eq_true rfl⟩)
      dsimp only [Pt.U, Pt.locs, Pt.cells, Pt.slots] at X66 l66 y66 z66 st66 hQ66
      subst l66 y66 z66
      obtain ⟨rfl, Nq66, Kq66, Eq66, Cq66, tt66, kb66, q166, q266, q366, Vq66, Aq66⟩ := hQ66
      have N66 := Fr.app N58 Nq66
      have sf67 := D47.safe A40.lt sf_y
      have lt68 := Nat.lt_of_lt_of_le A40.lt K44.1
      have sf69 := D52.safe lt68 sf67
      have lt70 := Nat.lt_of_lt_of_le lt68 K51.1
      have sf71 := D59.safe lt70 sf69
      have lt72 := Nat.lt_of_lt_of_le lt70 K58.1
      have D73 := CHr.keep Kq66 (sfS sf71 sf0) C60.1
      have C74 := C60.trans D73
      have KK6 : Keep h0 T66.heap ([] : List Addr) := KK5.trans Kq66 (allS (Or.inr s0_y) all0)
      have Zs6 : n0 ≤ T66.heap.size := Nat.le_trans Zs5 Kq66.1
      have e66 : T66.heap = T66.heap := rfl
      have Hy : own_Lat Z T66.heap y ([cc, cd] : List Int32) := ⟨Eq66, Cq66, hpy, by simp, tt66, kb66, Vq66, Aq66⟩
      obtain ⟨Ey, Cy, py, ly, ty, ky, Vy, Ay⟩ := Hy
      have cc75 : Steps p.tables e below S0' (T66.setTop (mkF m 151 #[.val (.int p1), .val (.int p2), .val (.int p3), .val (.int p4), .val (.int p5), .val (.int li), .val (.int hi), .val (.int t1), .val (.int t2), .val (.int ca), .val (.int cb), .val (.int cc), .val (.int cd), .val (.ref x), .val (.ref y), .unset, .unset, .unset, .unset, .unset, .unset] [])) := Steps.trans (Steps.trans cc62 st66) (by
        refine XS.goto X66.here hx rfl (pc0 := 141) rfl (own_d hby at_141) (by decide) rfl ?_
        refine XS.astore X66.here hx rfl (own_d hby at_149) rfl rfl rfl ?_
        exact Steps.refl _)
      obtain ⟨T76, h76, X76, e76, E76, A76, D76, -, st76⟩ := newO X66 hx hZ hown w_31 w_32 w_33 e66 (g := (mkF m 151 #[.val (.int p1), .val (.int p2), .val (.int p3), .val (.int p4), .val (.int p5), .val (.int li), .val (.int hi), .val (.int t1), .val (.int t2), .val (.int ca), .val (.int cb), .val (.int cc), .val (.int cd), .val (.ref x), .val (.ref y), .unset, .unset, .unset, .unset, .unset, .unset] [])) rfl (own_d hby at_151) (by decide) (by decide)
      obtain ⟨g, g_g⟩ : ∃ z, z = T66.heap.size := ⟨_, rfl⟩
      rw [← g_g] at A76 D76 st76
      have K76 := (Keep.refl T66.heap ([] : List Addr)).ext E76
      have b_g : T66.heap.size ≤ g := (Nat.le_of_eq g_g.symm)
      have gn_g : n0 ≤ g := Nat.le_trans Zs6 b_g
      have s0_g : h0.size ≤ g := Nat.le_trans KK6.1 b_g
      have fa77 : Exa Z T66.heap x "java/lang/String" := ((((fa45.keep K44).keep K51).keep K58).keep Kq66)
      have ne_x_g : x ≠ g := Nat.ne_of_lt (Nat.lt_of_lt_of_le fa77.lt b_g)
      have fa78 : Arv Z T66.heap tx kx .byte (Int32.ofNat ([ca] : List Int32).length) (own_by ([ca] : List Int32)) (.int (0 : Int32)) := ((((fa46.keep K44 nin0).keep K51 (ninS ne_tx_ba_y nin0)).keep K58 (ninS ne_tx_ba_y nin0)).keep Kq66 (ninS ne_tx_y nin0))
      have ne_tx_g : tx ≠ g := Nat.ne_of_lt (Nat.lt_of_lt_of_le fa78.lt b_g)
      have ne_y_g : y ≠ g := Nat.ne_of_lt (Nat.lt_of_lt_of_le Ey.lt b_g)
      have fa79 : Arv Z T66.heap ba_y k44 .char (2 : Int32) ([(.int (nar .char cc)), (.int (nar .char cd))]) (.int (0 : Int32)) := (V58.keep Kq66 (ninS (Ne.symm ne_y_ba_y) nin0))
      have ne_ba_y_g : ba_y ≠ g := Nat.ne_of_lt (Nat.lt_of_lt_of_le fa79.lt b_g)
      have ne_ty_g : ty ≠ g := Nat.ne_of_lt (Nat.lt_of_lt_of_le Ay.lt b_g)
      have D80 := CHr.ext E76 C74.1
      have C81 := C74.trans D80
      have sf_g : Safe Z EL s.vm h76 g := Safe.ext E76 C74.1 (Safe.new b_g)
      have KK7 : Keep h0 h76 ([] : List Addr) := KK6.trans K76 all0
      have Zs7 : n0 ≤ h76.size := Nat.le_trans Zs6 K76.1
      have F_low_g : Fld Z h76 g "com/example/firm_roles/firmroles/RoleRange" "low" "Lcom/example/firm_roles/firmroles/Name;" .null := D76 (Or.inr w_99) (ty := (.object "com/example/firm_roles/firmroles/Name")) (by decide)
      have F_lowIncluded_g : Fld Z h76 g "com/example/firm_roles/firmroles/RoleRange" "lowIncluded" "Z" (.int (0 : Int32)) := D76 (Or.inr w_101) (ty := .boolean) (by decide)
      have F_high_g : Fld Z h76 g "com/example/firm_roles/firmroles/RoleRange" "high" "Lcom/example/firm_roles/firmroles/Name;" .null := D76 (Or.inr w_103) (ty := (.object "com/example/firm_roles/firmroles/Name")) (by decide)
      have F_highIncluded_g : Fld Z h76 g "com/example/firm_roles/firmroles/RoleRange" "highIncluded" "Z" (.int (0 : Int32)) := D76 (Or.inr w_105) (ty := .boolean) (by decide)
      have cc82 : Steps p.tables e below S0' (T76.setTop (mkF m 155 #[.val (.int p1), .val (.int p2), .val (.int p3), .val (.int p4), .val (.int p5), .val (.int li), .val (.int hi), .val (.int t1), .val (.int t2), .val (.int ca), .val (.int cb), .val (.int cc), .val (.int cd), .val (.ref x), .val (.ref y), .unset, .unset, .unset, .unset, .unset, .unset] [(.ref g), (.ref g)])) := Steps.trans (cc75.trans (st76 _ (Steps.refl _))) (by
        refine XS.dup X76.here hx rfl (own_d hby at_154) rfl rfl ?_
        exact Steps.refl _)
      obtain ⟨T83, h83, X83, e83, E83, A83, D83, -, st83⟩ := newO X76 hx hZ hown w_34 w_35 w_36 e76 (g := (mkF m 155 #[.val (.int p1), .val (.int p2), .val (.int p3), .val (.int p4), .val (.int p5), .val (.int li), .val (.int hi), .val (.int t1), .val (.int t2), .val (.int ca), .val (.int cb), .val (.int cc), .val (.int cd), .val (.ref x), .val (.ref y), .unset, .unset, .unset, .unset, .unset, .unset] [(.ref g), (.ref g)])) rfl (own_d hby at_155) (by decide) (by decide)
      obtain ⟨na, g_na⟩ : ∃ z, z = h76.size := ⟨_, rfl⟩
      rw [← g_na] at A83 D83 st83
      have K83 := (Keep.refl h76 ([] : List Addr)).ext E83
      have b_na : h76.size ≤ na := (Nat.le_of_eq g_na.symm)
      have gn_na : n0 ≤ na := Nat.le_trans Zs7 b_na
      have s0_na : h0.size ≤ na := Nat.le_trans KK7.1 b_na
      have fa84 : Exa Z h76 x "java/lang/String" := (fa77.keep K76)
      have ne_x_na : x ≠ na := Nat.ne_of_lt (Nat.lt_of_lt_of_le fa84.lt b_na)
      have fa85 : Arv Z h76 tx kx .byte (Int32.ofNat ([ca] : List Int32).length) (own_by ([ca] : List Int32)) (.int (0 : Int32)) := (fa78.keep K76 nin0)
      have ne_tx_na : tx ≠ na := Nat.ne_of_lt (Nat.lt_of_lt_of_le fa85.lt b_na)
      have fa86 : Exa Z h76 y "java/lang/String" := (Ey.keep K76)
      have ne_y_na : y ≠ na := Nat.ne_of_lt (Nat.lt_of_lt_of_le fa86.lt b_na)
      have fa87 : Arv Z h76 ba_y k44 .char (2 : Int32) ([(.int (nar .char cc)), (.int (nar .char cd))]) (.int (0 : Int32)) := (fa79.keep K76 nin0)
      have ne_ba_y_na : ba_y ≠ na := Nat.ne_of_lt (Nat.lt_of_lt_of_le fa87.lt b_na)
      have fa88 : Arv Z h76 ty ky .byte (Int32.ofNat ([cc, cd] : List Int32).length) (own_by ([cc, cd] : List Int32)) (.int (0 : Int32)) := (Ay.keep K76 nin0)
      have ne_ty_na : ty ≠ na := Nat.ne_of_lt (Nat.lt_of_lt_of_le fa88.lt b_na)
      have ne_g_na : g ≠ na := Nat.ne_of_lt (Nat.lt_of_lt_of_le A76.lt b_na)
      have D89 := CHr.ext E83 C81.1
      have C90 := C81.trans D89
      have sf_na : Safe Z EL s.vm h83 na := Safe.ext E83 C81.1 (Safe.new b_na)
      have KK8 : Keep h0 h83 ([] : List Addr) := KK7.trans K83 all0
      have Zs8 : n0 ≤ h83.size := Nat.le_trans Zs7 K83.1
      have F_value_na : Fld Z h83 na "com/example/firm_roles/firmroles/Name" "value" "Ljava/lang/String;" .null := D83 (Or.inr w_93) (ty := (.object "java/lang/String")) (by decide)
      have cc92 : Steps p.tables e below S0' (T83.setTop (mkF m 161 #[.val (.int p1), .val (.int p2), .val (.int p3), .val (.int p4), .val (.int p5), .val (.int li), .val (.int hi), .val (.int t1), .val (.int t2), .val (.int ca), .val (.int cb), .val (.int cc), .val (.int cd), .val (.ref x), .val (.ref y), .unset, .unset, .unset, .unset, .unset, .unset] [(.ref x), (.ref na), (.ref na), (.ref g), (.ref g)])) := Steps.trans (cc82.trans (st83 _ (Steps.refl _))) (by
        refine XS.dup X83.here hx rfl (own_d hby at_158) rfl rfl ?_
        refine XS.aload X83.here hx rfl (own_d hby at_159) rfl rfl ?_
        exact Steps.refl _)
      have fa91 : Old Z n0 h83 := (((fa65.keep Kq66 (allS gn_y all0)).keep K76 all0).keep K83 all0)
      have fa93 : Exa Z h83 x "java/lang/String" := (fa84.keep K83)
      have fa94 : Fld Z h83 x "java/lang/String" "coder" "B" (.int (0 : Int32)) := (((((((Cx.keep K40 nin0).keep K44 nin0).keep K51 (ninS ne_x_ba_y nin0)).keep K58 (ninS ne_x_ba_y nin0)).keep Kq66 (ninS ne_x_y nin0)).keep K76 nin0).keep K83 nin0)
      have fa95 : Fld Z h83 x "java/lang/String" "value" "[B" (.ref tx) := (((((((Vx.keep K40 nin0).keep K44 nin0).keep K51 (ninS ne_x_ba_y nin0)).keep K58 (ninS ne_x_ba_y nin0)).keep Kq66 (ninS ne_x_y nin0)).keep K76 nin0).keep K83 nin0)
      have fa96 : Arv Z h83 tx kx .byte (Int32.ofNat ([ca] : List Int32).length) (own_by ([ca] : List Int32)) (.int (0 : Int32)) := (fa85.keep K83 nin0)
      obtain ⟨_, _, ⟨T97, L97, k97, n97⟩, -, X97, hs97, gr97, ⟨Lc97, hQ97, l97, y97, z97, CH97⟩, st97⟩ := X83.specialBackS hx (y := (⟨"com/example/firm_roles/firmroles/Name", "<init>", "(Ljava/lang/String;)V"⟩ : MethodName)) rfl hown (mvT hZ w_37) (mvT hZ w_38) (mvT hZ w_39) (by decide) (backOfSH (W := 3) (own_nin l Z a0 hw na x ([ca] : List Int32) z f h83 n0 Zs8 fa91 O2 P5 O4 hf A83 F_value_na gn_na (⟨fa93, fa94, px, lx, tx, kx, fa95, fa96⟩ : own_Lat Z h83 x ([ca] : List Int32)) (Or.inl ⟨ca, rfl, kca⟩)) hZ w_39 w_36 (by decide) (by decide) hEL C90.1) (g := (mkF m 161 #[.val (.int p1), .val (.int p2), .val (.int p3), .val (.int p4), .val (.int p5), .val (.int li), .val (.int hi), .val (.int t1), .val (.int t2), .val (.int ca), .val (.int cb), .val (.int cc), .val (.int cd), .val (.ref x), .val (.ref y), .unset, .unset, .unset, .unset, .unset, .unset] [(.ref x), (.ref na), (.ref na), (.ref g), (.ref g)])) rfl (by rw [hml]; rfl) (Steps.refl _) (a := na) (argsL := [(.ref x)]) (rest := [(.ref na), (.ref g), (.ref g)]) (lenOf own_pd10 rfl) rfl (by show 2 * 0 + _ ≤ _; exact Nat.le_of_eq rfl) (own_d hby at_161) (fun _ _ => ⟨rfl, e83, Nat.le_of_ble_eq_true rfl, Nat.le_of_ble_eq_true rfl⟩)
      dsimp only [Pt.U, Pt.locs, Pt.cells, Pt.slots] at X97 l97 y97 z97 st97 hQ97 hs97 gr97 CH97
      subst l97 y97 z97
      obtain ⟨rfl, Nq97, Kq97, Fq97⟩ := hQ97
      obtain ⟨Xr97, hS97, hZ97, hown97⟩ := rebS hS0 (by rw [e83]; exact (Nat.le_trans (Nat.le_trans (Nat.le_trans (Nat.le_trans (Nat.le_trans (Nat.le_trans (Nat.le_trans (Nat.le_trans hk0 Kq35.1) K40.1) K44.1) K51.1) K58.1) Kq66.1) K76.1) K83.1)) X97 hs97 gr97 hZ hown
      have hk97 : T97.heap.size ≤ T97.heap.size := Nat.le_refl _
      have C97 := C90.trans CH97
      have N97 := Fr.app N66 Nq97
      have KK9 : Keep h0 T97.heap ([] : List Addr) := KK8.trans Kq97 (allS (Or.inr s0_na) all0)
      have Zs9 : n0 ≤ T97.heap.size := Nat.le_trans Zs8 Kq97.1
      have e97 : T97.heap = T97.heap := rfl
      have cc98 : Steps p.tables e below S0' (T97.setTop (mkF m 166 #[.val (.int p1), .val (.int p2), .val (.int p3), .val (.int p4), .val (.int p5), .val (.int li), .val (.int hi), .val (.int t1), .val (.int t2), .val (.int ca), .val (.int cb), .val (.int cc), .val (.int cd), .val (.ref x), .val (.ref y), .unset, .unset, .unset, .unset, .unset, .unset] [(.int li), (.ref na), (.ref g), (.ref g)])) := Steps.trans (Steps.trans cc92 st97) (by
        refine XS.iload Xr97.here hx rfl (own_d hby at_164) rfl ?_
        exact Steps.refl _)
      obtain ⟨T99, h99, X99, e99, E99, A99, D99, -, st99⟩ := newO Xr97 hx hZ97 hown97 w_34 w_35 w_36 e97 (g := (mkF m 166 #[.val (.int p1), .val (.int p2), .val (.int p3), .val (.int p4), .val (.int p5), .val (.int li), .val (.int hi), .val (.int t1), .val (.int t2), .val (.int ca), .val (.int cb), .val (.int cc), .val (.int cd), .val (.ref x), .val (.ref y), .unset, .unset, .unset, .unset, .unset, .unset] [(.int li), (.ref na), (.ref g), (.ref g)])) rfl (own_d hby at_166) (by decide) (by decide)
      obtain ⟨nb, g_nb⟩ : ∃ z, z = T97.heap.size := ⟨_, rfl⟩
      rw [← g_nb] at A99 D99 st99
      have K99 := (Keep.refl T97.heap ([] : List Addr)).ext E99
      have b_nb : T97.heap.size ≤ nb := (Nat.le_of_eq g_nb.symm)
      have gn_nb : n0 ≤ nb := Nat.le_trans Zs9 b_nb
      have s0_nb : h0.size ≤ nb := Nat.le_trans KK9.1 b_nb
      have fa100 : Exa Z T97.heap x "java/lang/String" := (fa93.keep Kq97)
      have ne_x_nb : x ≠ nb := Nat.ne_of_lt (Nat.lt_of_lt_of_le fa100.lt b_nb)
      have fa101 : Arv Z T97.heap tx kx .byte (Int32.ofNat ([ca] : List Int32).length) (own_by ([ca] : List Int32)) (.int (0 : Int32)) := (fa96.keep Kq97 (ninS ne_tx_na nin0))
      have ne_tx_nb : tx ≠ nb := Nat.ne_of_lt (Nat.lt_of_lt_of_le fa101.lt b_nb)
      have fa102 : Exa Z T97.heap y "java/lang/String" := ((fa86.keep K83).keep Kq97)
      have ne_y_nb : y ≠ nb := Nat.ne_of_lt (Nat.lt_of_lt_of_le fa102.lt b_nb)
      have fa103 : Arv Z T97.heap ba_y k44 .char (2 : Int32) ([(.int (nar .char cc)), (.int (nar .char cd))]) (.int (0 : Int32)) := ((fa87.keep K83 nin0).keep Kq97 (ninS ne_ba_y_na nin0))
      have ne_ba_y_nb : ba_y ≠ nb := Nat.ne_of_lt (Nat.lt_of_lt_of_le fa103.lt b_nb)
      have fa104 : Arv Z T97.heap ty ky .byte (Int32.ofNat ([cc, cd] : List Int32).length) (own_by ([cc, cd] : List Int32)) (.int (0 : Int32)) := ((fa88.keep K83 nin0).keep Kq97 (ninS ne_ty_na nin0))
      have ne_ty_nb : ty ≠ nb := Nat.ne_of_lt (Nat.lt_of_lt_of_le fa104.lt b_nb)
      have fa105 : Exa Z T97.heap g "com/example/firm_roles/firmroles/RoleRange" := ((A76.keep K83).keep Kq97)
      have ne_g_nb : g ≠ nb := Nat.ne_of_lt (Nat.lt_of_lt_of_le fa105.lt b_nb)
      have fa106 : Exa Z T97.heap na "com/example/firm_roles/firmroles/Name" := (A83.keep Kq97)
      have ne_na_nb : na ≠ nb := Nat.ne_of_lt (Nat.lt_of_lt_of_le fa106.lt b_nb)
      have D107 := CHr.ext E99 C97.1
      have C108 := C97.trans D107
      have sf_nb : Safe Z EL T97.vm h99 nb := Safe.ext E99 C97.1 (Safe.new b_nb)
      have KK10 : Keep h0 h99 ([] : List Addr) := KK9.trans K99 all0
      have Zs10 : n0 ≤ h99.size := Nat.le_trans Zs9 K99.1
      have F_value_nb : Fld Z h99 nb "com/example/firm_roles/firmroles/Name" "value" "Ljava/lang/String;" .null := D99 (Or.inr w_93) (ty := (.object "java/lang/String")) (by decide)
      have cc110 : Steps p.tables e below S0' (T99.setTop (mkF m 172 #[.val (.int p1), .val (.int p2), .val (.int p3), .val (.int p4), .val (.int p5), .val (.int li), .val (.int hi), .val (.int t1), .val (.int t2), .val (.int ca), .val (.int cb), .val (.int cc), .val (.int cd), .val (.ref x), .val (.ref y), .unset, .unset, .unset, .unset, .unset, .unset] [(.ref y), (.ref nb), (.ref nb), (.int li), (.ref na), (.ref g), (.ref g)])) := Steps.trans (cc98.trans (st99 _ (Steps.refl _))) (by
        refine XS.dup X99.here hx rfl (own_d hby at_169) rfl rfl ?_
        refine XS.aload X99.here hx rfl (own_d hby at_170) rfl rfl ?_
        exact Steps.refl _)
      have fa109 : Old Z n0 h99 := ((fa91.keep Kq97 (allS gn_na all0)).keep K99 all0)
      have fa111 : Exa Z h99 y "java/lang/String" := (fa102.keep K99)
      have fa112 : Fld Z h99 y "java/lang/String" "coder" "B" (.int (0 : Int32)) := ((((Cy.keep K76 nin0).keep K83 nin0).keep Kq97 (ninS ne_y_na nin0)).keep K99 nin0)
      have fa113 : Fld Z h99 y "java/lang/String" "value" "[B" (.ref ty) := ((((Vy.keep K76 nin0).keep K83 nin0).keep Kq97 (ninS ne_y_na nin0)).keep K99 nin0)
      have fa114 : Arv Z h99 ty ky .byte (Int32.ofNat ([cc, cd] : List Int32).length) (own_by ([cc, cd] : List Int32)) (.int (0 : Int32)) := (fa104.keep K99 nin0)
      obtain ⟨_, _, ⟨T115, L115, k115, n115⟩, -, X115, hs115, gr115, ⟨Lc115, hQ115, l115, y115, z115, CH115⟩, st115⟩ := X99.specialBackS hx (y := (⟨"com/example/firm_roles/firmroles/Name", "<init>", "(Ljava/lang/String;)V"⟩ : MethodName)) rfl hown97 (mvT hZ97 w_37) (mvT hZ97 w_38) (mvT hZ97 w_39) (by decide) (backOfSH (W := 5) (own_nin l Z a0 hw nb y ([cc, cd] : List Int32) z f h99 n0 Zs10 fa109 O2 P5 O4 hf A99 F_value_nb gn_nb (⟨fa111, fa112, py, ly, ty, ky, fa113, fa114⟩ : own_Lat Z h99 y ([cc, cd] : List Int32)) (Or.inr ⟨cc, cd, rfl, kcc, kcd⟩)) hZ97 w_39 w_36 (by decide) (by decide) hEL C108.1) (g := (mkF m 172 #[.val (.int p1), .val (.int p2), .val (.int p3), .val (.int p4), .val (.int p5), .val (.int li), .val (.int hi), .val (.int t1), .val (.int t2), .val (.int ca), .val (.int cb), .val (.int cc), .val (.int cd), .val (.ref x), .val (.ref y), .unset, .unset, .unset, .unset, .unset, .unset] [(.ref y), (.ref nb), (.ref nb), (.int li), (.ref na), (.ref g), (.ref g)])) rfl (by rw [hml]; rfl) (Steps.refl _) (a := nb) (argsL := [(.ref y)]) (rest := [(.ref nb), (.int li), (.ref na), (.ref g), (.ref g)]) (lenOf own_pd10 rfl) rfl (by show 2 * 0 + _ ≤ _; exact Nat.le_of_eq rfl) (own_d hby at_172) (fun _ _ => ⟨rfl, e99, Nat.le_of_ble_eq_true rfl, Nat.le_of_ble_eq_true rfl⟩)
      dsimp only [Pt.U, Pt.locs, Pt.cells, Pt.slots] at X115 l115 y115 z115 st115 hQ115 hs115 gr115 CH115
      subst l115 y115 z115
      obtain ⟨rfl, Nq115, Kq115, Fq115⟩ := hQ115
      obtain ⟨Xr115, hS115, hZ115, hown115⟩ := rebS hS97 (by rw [e99]; exact (Nat.le_trans hk97 K99.1)) X115 hs115 gr115 hZ97 hown97
      have hk115 : T115.heap.size ≤ T115.heap.size := Nat.le_refl _
      have C115 := C108.trans CH115
      have N115 := Fr.app N97 Nq115
      have KK11 : Keep h0 T115.heap ([] : List Addr) := KK10.trans Kq115 (allS (Or.inr s0_nb) all0)
      have Zs11 : n0 ≤ T115.heap.size := Nat.le_trans Zs10 Kq115.1
      have e115 : T115.heap = T115.heap := rfl
      have cc117 : Steps p.tables e below S0' (T115.setTop (mkF m 177 #[.val (.int p1), .val (.int p2), .val (.int p3), .val (.int p4), .val (.int p5), .val (.int li), .val (.int hi), .val (.int t1), .val (.int t2), .val (.int ca), .val (.int cb), .val (.int cc), .val (.int cd), .val (.ref x), .val (.ref y), .unset, .unset, .unset, .unset, .unset, .unset] [(.int hi), (.ref nb), (.int li), (.ref na), (.ref g), (.ref g)])) := Steps.trans (Steps.trans cc110 st115) (by
        refine XS.iload Xr115.here hx rfl (own_d hby at_175) rfl ?_
        exact Steps.refl _)
      have fa116 : Exa Z T115.heap g "com/example/firm_roles/firmroles/RoleRange" := ((fa105.keep K99).keep Kq115)
      have fa118 : Fld Z T115.heap g "com/example/firm_roles/firmroles/RoleRange" "low" "Lcom/example/firm_roles/firmroles/Name;" .null := ((((F_low_g.keep K83 nin0).keep Kq97 (ninS ne_g_na nin0)).keep K99 nin0).keep Kq115 (ninS ne_g_nb nin0))
      have fa119 : Fld Z T115.heap g "com/example/firm_roles/firmroles/RoleRange" "lowIncluded" "Z" (.int (0 : Int32)) := ((((F_lowIncluded_g.keep K83 nin0).keep Kq97 (ninS ne_g_na nin0)).keep K99 nin0).keep Kq115 (ninS ne_g_nb nin0))
      have fa120 : Fld Z T115.heap g "com/example/firm_roles/firmroles/RoleRange" "high" "Lcom/example/firm_roles/firmroles/Name;" .null := ((((F_high_g.keep K83 nin0).keep Kq97 (ninS ne_g_na nin0)).keep K99 nin0).keep Kq115 (ninS ne_g_nb nin0))
      have fa121 : Fld Z T115.heap g "com/example/firm_roles/firmroles/RoleRange" "highIncluded" "Z" (.int (0 : Int32)) := ((((F_highIncluded_g.keep K83 nin0).keep Kq97 (ninS ne_g_na nin0)).keep K99 nin0).keep Kq115 (ninS ne_g_nb nin0))
      obtain ⟨_, _, ⟨T122, L122, k122, n122⟩, -, X122, ⟨Lc122, hQ122, l122, y122, z122⟩, st122⟩ := Xr115.specialBack hx (y := (⟨"com/example/firm_roles/firmroles/RoleRange", "<init>", "(Lcom/example/firm_roles/firmroles/Name;ZLcom/example/firm_roles/firmroles/Name;Z)V"⟩ : MethodName)) rfl hown115 (mvT hZ115 w_94) (mvT hZ115 w_95) (mvT hZ115 w_96) (by decide) (backOf (W := 1) (own_rin l Z a0 hw g na nb li hi T115.heap n0 Zs11 fa116 fa118 fa119 fa120 fa121 gn_g zli zhi) hZ115 w_96 w_33 (by decide) (by decide)) (g := (mkF m 177 #[.val (.int p1), .val (.int p2), .val (.int p3), .val (.int p4), .val (.int p5), .val (.int li), .val (.int hi), .val (.int t1), .val (.int t2), .val (.int ca), .val (.int cb), .val (.int cc), .val (.int cd), .val (.ref x), .val (.ref y), .unset, .unset, .unset, .unset, .unset, .unset] [(.int hi), (.ref nb), (.int li), (.ref na), (.ref g), (.ref g)])) rfl (by rw [hml]; rfl) (Steps.refl _) (a := g) (argsL := [(.ref na), (.int li), (.ref nb), (.int hi)]) (rest := [(.ref g)]) (lenOf own_pd25 rfl) rfl (by show 2 * 0 + _ ≤ _; exact Nat.le_of_eq rfl) (own_d hby at_177) (fun _ _ => ⟨rfl, e115, Nat.le_of_ble_eq_true rfl, Nat.le_of_ble_eq_true rfl⟩)
      dsimp only [Pt.U, Pt.locs, Pt.cells, Pt.slots] at X122 l122 y122 z122 st122 hQ122
      subst l122 y122 z122
      obtain ⟨rfl, Nq122, Kq122, G1122, G2122, G3122, G4122⟩ := hQ122
      have N122 := Fr.app N115 Nq122
      have sf123 := D89.safe A76.lt sf_g
      have lt124 := Nat.lt_of_lt_of_le A76.lt K83.1
      have sf125 := CH97.safe lt124 sf123
      have lt126 := Nat.lt_of_lt_of_le lt124 Kq97.1
      have sf127 := D107.safe lt126 sf125
      have lt128 := Nat.lt_of_lt_of_le lt126 K99.1
      have sf129 := CH115.safe lt128 sf127
      have lt130 := Nat.lt_of_lt_of_le lt128 Kq115.1
      have D131 := CHr.keep Kq122 (sfS sf129 sf0) C115.1
      have C132 := C115.trans D131
      have KK12 : Keep h0 T122.heap ([] : List Addr) := KK11.trans Kq122 (allS (Or.inr s0_g) all0)
      have Zs12 : n0 ≤ T122.heap.size := Nat.le_trans Zs11 Kq122.1
      have e122 : T122.heap = T122.heap := rfl
      have cc134 : Steps p.tables e below S0' (T122.setTop (mkF m 184 #[.val (.int p1), .val (.int p2), .val (.int p3), .val (.int p4), .val (.int p5), .val (.int li), .val (.int hi), .val (.int t1), .val (.int t2), .val (.int ca), .val (.int cb), .val (.int cc), .val (.int cd), .val (.ref x), .val (.ref y), .val (.ref g), .unset, .unset, .unset, .unset, .unset] [(.ref g)])) := Steps.trans (Steps.trans cc117 st122) (by
        refine XS.astore X122.here hx rfl (own_d hby at_180) rfl rfl rfl ?_
        refine XS.aload X122.here hx rfl (own_d hby at_182) rfl rfl ?_
        exact Steps.refl _)
      have fa133 : Old Z n0 T122.heap := ((fa109.keep Kq115 (allS gn_nb all0)).keep Kq122 (allS gn_g all0))
      have fa135 : Exa Z T122.heap na "com/example/firm_roles/firmroles/Name" := (((fa106.keep K99).keep Kq115).keep Kq122)
      have fa136 : Fld Z T122.heap na "com/example/firm_roles/firmroles/Name" "value" "Ljava/lang/String;" (.ref x) := (((Fq97.keep K99 nin0).keep Kq115 (ninS ne_na_nb nin0)).keep Kq122 (ninS (Ne.symm ne_g_na) nin0))
      have fa137 : Exa Z T122.heap nb "com/example/firm_roles/firmroles/Name" := ((A99.keep Kq115).keep Kq122)
      have fa138 : Fld Z T122.heap nb "com/example/firm_roles/firmroles/Name" "value" "Ljava/lang/String;" (.ref y) := (Fq115.keep Kq122 (ninS (Ne.symm ne_g_nb) nin0))
      have fa139 : Exa Z T122.heap x "java/lang/String" := (((fa100.keep K99).keep Kq115).keep Kq122)
      have fa140 : Fld Z T122.heap x "java/lang/String" "coder" "B" (.int (0 : Int32)) := ((((fa94.keep Kq97 (ninS ne_x_na nin0)).keep K99 nin0).keep Kq115 (ninS ne_x_nb nin0)).keep Kq122 (ninS ne_x_g nin0))
      have fa141 : Fld Z T122.heap x "java/lang/String" "value" "[B" (.ref tx) := ((((fa95.keep Kq97 (ninS ne_x_na nin0)).keep K99 nin0).keep Kq115 (ninS ne_x_nb nin0)).keep Kq122 (ninS ne_x_g nin0))
      have fa142 : Arv Z T122.heap tx kx .byte (Int32.ofNat ([ca] : List Int32).length) (own_by ([ca] : List Int32)) (.int (0 : Int32)) := (((fa101.keep K99 nin0).keep Kq115 (ninS ne_tx_nb nin0)).keep Kq122 (ninS ne_tx_g nin0))
      have fa143 : Exa Z T122.heap y "java/lang/String" := ((fa111.keep Kq115).keep Kq122)
      have fa144 : Fld Z T122.heap y "java/lang/String" "coder" "B" (.int (0 : Int32)) := ((fa112.keep Kq115 (ninS ne_y_nb nin0)).keep Kq122 (ninS ne_y_g nin0))
      have fa145 : Fld Z T122.heap y "java/lang/String" "value" "[B" (.ref ty) := ((fa113.keep Kq115 (ninS ne_y_nb nin0)).keep Kq122 (ninS ne_y_g nin0))
      have fa146 : Arv Z T122.heap ty ky .byte (Int32.ofNat ([cc, cd] : List Int32).length) (own_by ([cc, cd] : List Int32)) (.int (0 : Int32)) := ((fa114.keep Kq115 (ninS ne_ty_nb nin0)).keep Kq122 (ninS ne_ty_g nin0))
      have fa147 : Exa Z T122.heap g "com/example/firm_roles/firmroles/RoleRange" := (fa116.keep Kq122)
      obtain ⟨cq148, kq148, qa148, qb148, qc148⟩ := isOf hZ115 e122 fa147
      obtain ⟨_, _, ⟨T148, L148, k148, n148⟩, -, X148, hs148, gr148, ⟨Lc148, hQ148, l148, y148, z148, CH148⟩, st148⟩ := X122.virtualBackS hx (y := (⟨"com/example/firm_roles/firmroles/RoleRange", "toString", "()Ljava/lang/String;"⟩ : MethodName)) (z := (⟨"com/example/firm_roles/firmroles/RoleRange", "toString", "()Ljava/lang/String;"⟩ : MethodName)) hown115 (mvT hZ115 w_106) (mvT hZ115 w_107) (notFace_of_selects (args := #[]) (mvT hZ115 w_109)) (mvT hZ115 w_109) (mvT hZ115 w_108) (by decide) (backOfSH (W := 0) (own_rts l Z a0 hw g na nb x y li hi ([ca] : List Int32) ([cc, cd] : List Int32) z T122.heap n0 Zs12 fa133 O2 P5 G1122 G2122 G3122 G4122 fa135 fa136 fa137 fa138 (⟨fa139, fa140, px, lx, tx, kx, fa141, fa142⟩ : own_Lat Z T122.heap x ([ca] : List Int32)) (⟨fa143, fa144, py, ly, ty, ky, fa145, fa146⟩ : own_Lat Z T122.heap y ([cc, cd] : List Int32)) (by simp) (by simp)) hZ115 w_110 w_33 (by decide) (by decide) hEL C132.1) qa148 qc148 (g := (mkF m 184 #[.val (.int p1), .val (.int p2), .val (.int p3), .val (.int p4), .val (.int p5), .val (.int li), .val (.int hi), .val (.int t1), .val (.int t2), .val (.int ca), .val (.int cb), .val (.int cc), .val (.int cd), .val (.ref x), .val (.ref y), .val (.ref g), .unset, .unset, .unset, .unset, .unset] [(.ref g)])) rfl (by rw [hml]; rfl) (Steps.refl _) (argsL := []) (rest := []) (lenOf own_pd23 rfl) rfl (by show 2 * 0 + _ ≤ _; exact Nat.le_of_eq rfl) (own_d hby at_184) (fun _ _ => ⟨rfl, e122, Nat.le_of_ble_eq_true rfl, Nat.le_of_ble_eq_true rfl⟩)
      dsimp only [Pt.U, Pt.locs, Pt.cells, Pt.slots] at X148 l148 y148 z148 st148 hQ148 hs148 gr148 CH148
      subst l148 y148 z148
      obtain ⟨s1, rfl, Nq148, Kq148, Hs148⟩ := hQ148
      obtain ⟨Xr148, hS148, hZ148, hown148⟩ := rebS hS115 (by rw [e122]; exact (Nat.le_trans hk115 Kq122.1)) X148 hs148 gr148 hZ115 hown115
      have hk148 : T148.heap.size ≤ T148.heap.size := Nat.le_refl _
      have C148 := C132.trans CH148
      have N148 := Fr.app N122 Nq148
      have KK13 : Keep h0 T148.heap ([] : List Addr) := KK12.trans Kq148 all0
      have Zs13 : n0 ≤ T148.heap.size := Nat.le_trans Zs12 Kq148.1
      have e148 : T148.heap = T148.heap := rfl
      obtain ⟨lc, elc⟩ : ∃ w : Int32, w = (if li = 0 then 40 else 91) := ⟨_, rfl⟩
      obtain ⟨hc, ehc⟩ : ∃ w : Int32, w = (if hi = 0 then 41 else 93) := ⟨_, rfl⟩
      have Hf : own_Lat Z T148.heap s1 ([lc, ca, 44, 32, cc, cd, hc] : List Int32) := by rw [elc, ehc]; exact Hs148
      have Hg := Hf
      obtain ⟨Es1, Cs1, ps1, ls1, ts1, ks1, Vs1, As1⟩ := Hg
      have cc150 : Steps p.tables e below S0' (T148.setTop (mkF m 224 #[.val (.int p1), .val (.int p2), .val (.int p3), .val (.int p4), .val (.int p5), .val (.int li), .val (.int hi), .val (.int t1), .val (.int t2), .val (.int ca), .val (.int cb), .val (.int cc), .val (.int cd), .val (.ref x), .val (.ref y), .val (.ref g), .val (.ref s1), .val (.int 1), .val (.int 2), .val (.int (((1 : Int32) + (2 : Int32)) + (4 : Int32))), .unset] [(.ref s1)])) := Steps.trans (Steps.trans cc134 st148) (by
        refine XS.astore Xr148.here hx rfl (own_d hby at_187) rfl rfl rfl ?_
        refine XS.iload Xr148.here hx rfl (own_d hby at_189) rfl ?_
        refine XS.ifYes Xr148.here hx rfl (pc0 := 191) rfl (own_d hby at_191) rfl (i0_eq_t qt1) (by decide) rfl ?_
        refine iconstV Xr148.here hx rfl 1 (own_d hby at_198) (by decide) ?_
        refine XS.istore Xr148.here hx rfl (own_d hby at_199) rfl rfl ?_
        refine XS.iload Xr148.here hx rfl (own_d hby at_201) rfl ?_
        refine XS.ifNo Xr148.here hx rfl (own_d hby at_203) rfl (i0_eq_f qt2) ?_
        refine iconstV Xr148.here hx rfl 2 (own_d hby at_206) (by decide) ?_
        refine XS.goto Xr148.here hx rfl (pc0 := 207) rfl (own_d hby at_207) (by decide) rfl ?_
        refine XS.istore Xr148.here hx rfl (own_d hby at_211) rfl rfl ?_
        refine XS.iload Xr148.here hx rfl (own_d hby at_213) rfl ?_
        refine XS.iload Xr148.here hx rfl (own_d hby at_215) rfl ?_
        refine XS.iadd Xr148.here hx rfl (own_d hby at_217) rfl ?_
        refine iconstV Xr148.here hx rfl 4 (own_d hby at_218) (by decide) ?_
        refine XS.iadd Xr148.here hx rfl (own_d hby at_219) rfl ?_
        refine XS.istore Xr148.here hx rfl (own_d hby at_220) rfl rfl ?_
        refine XS.aload Xr148.here hx rfl (own_d hby at_222) rfl rfl ?_
        exact Steps.refl _)
      have fa149 : Old Z n0 T148.heap := (fa133.keep Kq148 all0)
      obtain ⟨cq151, kq151, qa151, qb151, qc151⟩ := isOf hZ148 e148 Es1
      obtain ⟨_, _, ⟨T151, L151, k151, n151⟩, -, X151, ⟨Lc151, hQ151, l151, y151, z151⟩, st151⟩ := Xr148.virtualBack hx (y := (⟨"java/lang/String", "length", "()I"⟩ : MethodName)) (z := (⟨"java/lang/String", "length", "()I"⟩ : MethodName)) hown148 (mvT hZ148 w_220) (mvT hZ148 w_59) (notFace_of_selects (args := #[]) (mvT hZ148 w_61)) (mvT hZ148 w_61) (mvT hZ148 w_60) (by decide) (StrChars.Road.lenW (W := 0) hZ148 hw_wordsLen (kI := 4) w_15 Es1 Vs1 Cs1 As1 (StrChars.Road.codOf (cs := ([lc, ca, 44, 32, cc, cd, hc] : List Int32)) rfl (fun c hc => (ps1 c hc).2)) (own_up _ ps1) (O2.ext fa149.2) P5 ls1 (by decide) (by decide)) qa151 qc151 (g := (mkF m 224 #[.val (.int p1), .val (.int p2), .val (.int p3), .val (.int p4), .val (.int p5), .val (.int li), .val (.int hi), .val (.int t1), .val (.int t2), .val (.int ca), .val (.int cb), .val (.int cc), .val (.int cd), .val (.ref x), .val (.ref y), .val (.ref g), .val (.ref s1), .val (.int 1), .val (.int 2), .val (.int (((1 : Int32) + (2 : Int32)) + (4 : Int32))), .unset] [(.ref s1)])) rfl (by rw [hml]; rfl) (Steps.refl _) (argsL := []) (rest := []) (lenOf own_pd6 rfl) rfl (by show 2 * 0 + _ ≤ _; exact Nat.le_of_eq rfl) (own_d hby at_224) (fun _ _ => ⟨rfl, e148, Nat.le_of_ble_eq_true rfl, Nat.le_of_ble_eq_true rfl⟩)
      dsimp only [Pt.U, Pt.locs, Pt.cells, Pt.slots] at X151 l151 y151 z151 st151 hQ151
      subst l151 y151 z151
      obtain ⟨rfl, rfl, eq151⟩ := hQ151
      have N151 := Fr.app N148 (Fr.nil n0)
      have e151 : T151.heap = T148.heap := eq151
      have cc152 : Steps p.tables e below S0' (T151.setTop (mkF m 227 #[.val (.int p1), .val (.int p2), .val (.int p3), .val (.int p4), .val (.int p5), .val (.int li), .val (.int hi), .val (.int t1), .val (.int t2), .val (.int ca), .val (.int cb), .val (.int cc), .val (.int cd), .val (.ref x), .val (.ref y), .val (.ref g), .val (.ref s1), .val (.int 1), .val (.int 2), .val (.int (((1 : Int32) + (2 : Int32)) + (4 : Int32))), .unset] [(.int 7)])) := (Steps.trans cc150 st151)
      have cc153 : Steps p.tables e below S0' (T151.setTop (mkF m 237 #[.val (.int p1), .val (.int p2), .val (.int p3), .val (.int p4), .val (.int p5), .val (.int li), .val (.int hi), .val (.int t1), .val (.int t2), .val (.int ca), .val (.int cb), .val (.int cc), .val (.int cd), .val (.ref x), .val (.ref y), .val (.ref g), .val (.ref s1), .val (.int 1), .val (.int 2), .val (.int (((1 : Int32) + (2 : Int32)) + (4 : Int32))), .unset] [(.int 0), (.ref s1)])) := Steps.trans cc152 (by
        refine XS.iload X151.here hx rfl (own_d hby at_227) rfl ?_
        refine XS.icmpYes X151.here hx rfl (pc0 := 229) rfl (own_d hby at_229) rfl (ii_eq_t (by decide)) (by decide) rfl ?_
        refine XS.aload X151.here hx rfl (own_d hby at_234) rfl rfl ?_
        refine iconstV X151.here hx rfl 0 (own_d hby at_236) (by decide) ?_
        exact Steps.refl _)
      have cz154 : Steps p.tables e below S0' (T151.setTop (mkF m 237 #[.val (.int p1), .val (.int p2), .val (.int p3), .val (.int p4), .val (.int p5), .val (.int li), .val (.int hi), .val (.int t1), .val (.int t2), .val (.int ca), .val (.int cb), .val (.int cc), .val (.int cd), .val (.ref x), .val (.ref y), .val (.ref g), .val (.ref s1), .val (.int 1), .val (.int 2), .val (.int (((1 : Int32) + (2 : Int32)) + (4 : Int32))), .unset] [(.int (Int32.ofNat 0)), (.ref s1)])) := cc153
      obtain ⟨cq155, kq155, qa155, qb155, qc155⟩ := isOf hZ148 e151 Es1
      obtain ⟨_, _, ⟨T155, L155, k155, n155⟩, -, X155, ⟨Lc155, hQ155, l155, y155, z155⟩, st155⟩ := X151.virtualBack hx (y := (⟨"java/lang/String", "charAt", "(I)C"⟩ : MethodName)) (z := (⟨"java/lang/String", "charAt", "(I)C"⟩ : MethodName)) hown148 (mvT hZ148 w_221) (mvT hZ148 w_69) (notFace_of_selects (args := #[]) (mvT hZ148 w_71)) (mvT hZ148 w_71) (mvT hZ148 w_70) (by decide) (backOf (W := 0) (own_chl l Z a0 hw s1 ([lc, ca, 44, 32, cc, cd, hc] : List Int32) 0 z f T148.heap n0 Zs13 fa149 O2 P5 O4 hf Hf (by simp)) hZ148 w_72 w_7 (by decide) (by decide)) qa155 qc155 (g := (mkF m 237 #[.val (.int p1), .val (.int p2), .val (.int p3), .val (.int p4), .val (.int p5), .val (.int li), .val (.int hi), .val (.int t1), .val (.int t2), .val (.int ca), .val (.int cb), .val (.int cc), .val (.int cd), .val (.ref x), .val (.ref y), .val (.ref g), .val (.ref s1), .val (.int 1), .val (.int 2), .val (.int (((1 : Int32) + (2 : Int32)) + (4 : Int32))), .unset] [(.int (Int32.ofNat 0)), (.ref s1)])) rfl (by rw [hml]; rfl) (Steps.refl _) (argsL := [(.int (Int32.ofNat 0))]) (rest := []) (lenOf own_pd7 rfl) rfl (by show 2 * 0 + _ ≤ _; exact Nat.le_of_eq rfl) (own_d hby at_237) (fun _ _ => ⟨rfl, e151, Nat.le_of_ble_eq_true rfl, Nat.le_of_ble_eq_true rfl⟩)
      dsimp only [Pt.U, Pt.locs, Pt.cells, Pt.slots] at X155 l155 y155 z155 st155 hQ155
      subst l155 y155 z155
      obtain ⟨rfl, Nq155, eq155⟩ := hQ155
      have N155 := Fr.app N151 Nq155
      have e155 : T155.heap = T148.heap := eq155
      have cc156 : Steps p.tables e below S0' (T155.setTop (mkF m 242 #[.val (.int p1), .val (.int p2), .val (.int p3), .val (.int p4), .val (.int p5), .val (.int li), .val (.int hi), .val (.int t1), .val (.int t2), .val (.int ca), .val (.int cb), .val (.int cc), .val (.int cd), .val (.ref x), .val (.ref y), .val (.ref g), .val (.ref s1), .val (.int 1), .val (.int 2), .val (.int (((1 : Int32) + (2 : Int32)) + (4 : Int32))), .unset] [(.int li), (.int lc)])) := Steps.trans (Steps.trans cz154 st155) (by
        refine XS.iload X155.here hx rfl (own_d hby at_240) rfl ?_
        exact Steps.refl _)
      obtain ⟨w157, hw157, c_w157⟩ : ∃ w : Int32, w = (if li = 0 then 40 else 91) ∧ Steps p.tables e below S0' (T155.setTop (mkF m 252 #[.val (.int p1), .val (.int p2), .val (.int p3), .val (.int p4), .val (.int p5), .val (.int li), .val (.int hi), .val (.int t1), .val (.int t2), .val (.int ca), .val (.int cb), .val (.int cc), .val (.int cd), .val (.ref x), .val (.ref y), .val (.ref g), .val (.ref s1), .val (.int 1), .val (.int 2), .val (.int (((1 : Int32) + (2 : Int32)) + (4 : Int32))), .unset] [(.int w), (.int lc)])) := by
        by_cases hq : li = 0
        · refine ⟨40, (if_pos hq).symm, cc156.trans ?_⟩
          refine XS.ifYes X155.here hx rfl (pc0 := 242) rfl (own_d hby at_242) rfl (i0_eq_t hq) (by decide) rfl ?_
          refine bipushV X155.here hx rfl 40 (own_d hby at_250) (by decide) ?_
          exact Steps.refl _
        · refine ⟨91, (if_neg hq).symm, cc156.trans ?_⟩
          refine XS.ifNo X155.here hx rfl (own_d hby at_242) rfl (i0_eq_f hq) ?_
          refine bipushV X155.here hx rfl 91 (own_d hby at_245) (by decide) ?_
          refine XS.goto X155.here hx rfl (pc0 := 247) rfl (own_d hby at_247) (by decide) rfl ?_
          exact Steps.refl _
      have cc158 : Steps p.tables e below S0' (T155.setTop (mkF m 260 #[.val (.int p1), .val (.int p2), .val (.int p3), .val (.int p4), .val (.int p5), .val (.int li), .val (.int hi), .val (.int t1), .val (.int t2), .val (.int ca), .val (.int cb), .val (.int cc), .val (.int cd), .val (.ref x), .val (.ref y), .val (.ref g), .val (.ref s1), .val (.int 1), .val (.int 2), .val (.int (((1 : Int32) + (2 : Int32)) + (4 : Int32))), .unset] [(.int 1), (.ref s1)])) := Steps.trans c_w157 (by
        refine XS.icmpYes X155.here hx rfl (pc0 := 252) rfl (own_d hby at_252) rfl (ii_eq_t (elc.trans hw157.symm)) (by decide) rfl ?_
        refine XS.aload X155.here hx rfl (own_d hby at_257) rfl rfl ?_
        refine iconstV X155.here hx rfl 1 (own_d hby at_259) (by decide) ?_
        exact Steps.refl _)
      have cz159 : Steps p.tables e below S0' (T155.setTop (mkF m 260 #[.val (.int p1), .val (.int p2), .val (.int p3), .val (.int p4), .val (.int p5), .val (.int li), .val (.int hi), .val (.int t1), .val (.int t2), .val (.int ca), .val (.int cb), .val (.int cc), .val (.int cd), .val (.ref x), .val (.ref y), .val (.ref g), .val (.ref s1), .val (.int 1), .val (.int 2), .val (.int (((1 : Int32) + (2 : Int32)) + (4 : Int32))), .unset] [(.int (Int32.ofNat 1)), (.ref s1)])) := cc158
      obtain ⟨cq160, kq160, qa160, qb160, qc160⟩ := isOf hZ148 e155 Es1
      obtain ⟨_, _, ⟨T160, L160, k160, n160⟩, -, X160, ⟨Lc160, hQ160, l160, y160, z160⟩, st160⟩ := X155.virtualBack hx (y := (⟨"java/lang/String", "charAt", "(I)C"⟩ : MethodName)) (z := (⟨"java/lang/String", "charAt", "(I)C"⟩ : MethodName)) hown148 (mvT hZ148 w_221) (mvT hZ148 w_69) (notFace_of_selects (args := #[]) (mvT hZ148 w_71)) (mvT hZ148 w_71) (mvT hZ148 w_70) (by decide) (backOf (W := 0) (own_chl l Z a0 hw s1 ([lc, ca, 44, 32, cc, cd, hc] : List Int32) 1 z f T148.heap n0 Zs13 fa149 O2 P5 O4 hf Hf (by simp)) hZ148 w_72 w_7 (by decide) (by decide)) qa160 qc160 (g := (mkF m 260 #[.val (.int p1), .val (.int p2), .val (.int p3), .val (.int p4), .val (.int p5), .val (.int li), .val (.int hi), .val (.int t1), .val (.int t2), .val (.int ca), .val (.int cb), .val (.int cc), .val (.int cd), .val (.ref x), .val (.ref y), .val (.ref g), .val (.ref s1), .val (.int 1), .val (.int 2), .val (.int (((1 : Int32) + (2 : Int32)) + (4 : Int32))), .unset] [(.int (Int32.ofNat 1)), (.ref s1)])) rfl (by rw [hml]; rfl) (Steps.refl _) (argsL := [(.int (Int32.ofNat 1))]) (rest := []) (lenOf own_pd7 rfl) rfl (by show 2 * 0 + _ ≤ _; exact Nat.le_of_eq rfl) (own_d hby at_260) (fun _ _ => ⟨rfl, e155, Nat.le_of_ble_eq_true rfl, Nat.le_of_ble_eq_true rfl⟩)
      dsimp only [Pt.U, Pt.locs, Pt.cells, Pt.slots] at X160 l160 y160 z160 st160 hQ160
      subst l160 y160 z160
      obtain ⟨rfl, Nq160, eq160⟩ := hQ160
      have N160 := Fr.app N155 Nq160
      have e160 : T160.heap = T148.heap := eq160
      have cc161 : Steps p.tables e below S0' (T160.setTop (mkF m 298 #[.val (.int p1), .val (.int p2), .val (.int p3), .val (.int p4), .val (.int p5), .val (.int li), .val (.int hi), .val (.int t1), .val (.int t2), .val (.int ca), .val (.int cb), .val (.int cc), .val (.int cd), .val (.ref x), .val (.ref y), .val (.ref g), .val (.ref s1), .val (.int 1), .val (.int 2), .val (.int (((1 : Int32) + (2 : Int32)) + (4 : Int32))), .val (.int ((1 : Int32) + (1 : Int32)))] [(.int ((1 : Int32) + (1 : Int32))), (.ref s1)])) := Steps.trans (Steps.trans cz159 st160) (by
        refine XS.iload X160.here hx rfl (own_d hby at_263) rfl ?_
        refine XS.icmpYes X160.here hx rfl (pc0 := 265) rfl (own_d hby at_265) rfl (ii_eq_t rfl) (by decide) rfl ?_
        refine XS.iload X160.here hx rfl (own_d hby at_270) rfl ?_
        refine XS.ifYes X160.here hx rfl (pc0 := 272) rfl (own_d hby at_272) rfl (i0_eq_t qt1) (by decide) rfl ?_
        refine iconstV X160.here hx rfl 1 (own_d hby at_288) (by decide) ?_
        refine XS.iload X160.here hx rfl (own_d hby at_289) rfl ?_
        refine XS.iadd X160.here hx rfl (own_d hby at_291) rfl ?_
        refine XS.istore X160.here hx rfl (own_d hby at_292) rfl rfl ?_
        refine XS.aload X160.here hx rfl (own_d hby at_294) rfl rfl ?_
        refine XS.iload X160.here hx rfl (own_d hby at_296) rfl ?_
        exact Steps.refl _)
      have cz162 : Steps p.tables e below S0' (T160.setTop (mkF m 298 #[.val (.int p1), .val (.int p2), .val (.int p3), .val (.int p4), .val (.int p5), .val (.int li), .val (.int hi), .val (.int t1), .val (.int t2), .val (.int ca), .val (.int cb), .val (.int cc), .val (.int cd), .val (.ref x), .val (.ref y), .val (.ref g), .val (.ref s1), .val (.int 1), .val (.int 2), .val (.int (((1 : Int32) + (2 : Int32)) + (4 : Int32))), .val (.int ((1 : Int32) + (1 : Int32)))] [(.int (Int32.ofNat 2)), (.ref s1)])) := cc161
      obtain ⟨cq163, kq163, qa163, qb163, qc163⟩ := isOf hZ148 e160 Es1
      obtain ⟨_, _, ⟨T163, L163, k163, n163⟩, -, X163, ⟨Lc163, hQ163, l163, y163, z163⟩, st163⟩ := X160.virtualBack hx (y := (⟨"java/lang/String", "charAt", "(I)C"⟩ : MethodName)) (z := (⟨"java/lang/String", "charAt", "(I)C"⟩ : MethodName)) hown148 (mvT hZ148 w_221) (mvT hZ148 w_69) (notFace_of_selects (args := #[]) (mvT hZ148 w_71)) (mvT hZ148 w_71) (mvT hZ148 w_70) (by decide) (backOf (W := 0) (own_chl l Z a0 hw s1 ([lc, ca, 44, 32, cc, cd, hc] : List Int32) 2 z f T148.heap n0 Zs13 fa149 O2 P5 O4 hf Hf (by simp)) hZ148 w_72 w_7 (by decide) (by decide)) qa163 qc163 (g := (mkF m 298 #[.val (.int p1), .val (.int p2), .val (.int p3), .val (.int p4), .val (.int p5), .val (.int li), .val (.int hi), .val (.int t1), .val (.int t2), .val (.int ca), .val (.int cb), .val (.int cc), .val (.int cd), .val (.ref x), .val (.ref y), .val (.ref g), .val (.ref s1), .val (.int 1), .val (.int 2), .val (.int (((1 : Int32) + (2 : Int32)) + (4 : Int32))), .val (.int ((1 : Int32) + (1 : Int32)))] [(.int (Int32.ofNat 2)), (.ref s1)])) rfl (by rw [hml]; rfl) (Steps.refl _) (argsL := [(.int (Int32.ofNat 2))]) (rest := []) (lenOf own_pd7 rfl) rfl (by show 2 * 0 + _ ≤ _; exact Nat.le_of_eq rfl) (own_d hby at_298) (fun _ _ => ⟨rfl, e160, Nat.le_of_ble_eq_true rfl, Nat.le_of_ble_eq_true rfl⟩)
      dsimp only [Pt.U, Pt.locs, Pt.cells, Pt.slots] at X163 l163 y163 z163 st163 hQ163
      subst l163 y163 z163
      obtain ⟨rfl, Nq163, eq163⟩ := hQ163
      have N163 := Fr.app N160 Nq163
      have e163 : T163.heap = T148.heap := eq163
      have cc164 : Steps p.tables e below S0' (T163.setTop (mkF m 312 #[.val (.int p1), .val (.int p2), .val (.int p3), .val (.int p4), .val (.int p5), .val (.int li), .val (.int hi), .val (.int t1), .val (.int t2), .val (.int ca), .val (.int cb), .val (.int cc), .val (.int cd), .val (.ref x), .val (.ref y), .val (.ref g), .val (.ref s1), .val (.int 1), .val (.int 2), .val (.int (((1 : Int32) + (2 : Int32)) + (4 : Int32))), .val (.int ((1 : Int32) + (1 : Int32)))] [(.int (((1 : Int32) + (1 : Int32)) + (1 : Int32))), (.ref s1)])) := Steps.trans (Steps.trans cz162 st163) (by
        refine bipushV X163.here hx rfl 44 (own_d hby at_301) (by decide) ?_
        refine XS.icmpNo X163.here hx rfl (own_d hby at_303) rfl (ii_ne_f rfl) ?_
        refine XS.aload X163.here hx rfl (own_d hby at_306) rfl rfl ?_
        refine XS.iload X163.here hx rfl (own_d hby at_308) rfl ?_
        refine iconstV X163.here hx rfl 1 (own_d hby at_310) (by decide) ?_
        refine XS.iadd X163.here hx rfl (own_d hby at_311) rfl ?_
        exact Steps.refl _)
      have cz165 : Steps p.tables e below S0' (T163.setTop (mkF m 312 #[.val (.int p1), .val (.int p2), .val (.int p3), .val (.int p4), .val (.int p5), .val (.int li), .val (.int hi), .val (.int t1), .val (.int t2), .val (.int ca), .val (.int cb), .val (.int cc), .val (.int cd), .val (.ref x), .val (.ref y), .val (.ref g), .val (.ref s1), .val (.int 1), .val (.int 2), .val (.int (((1 : Int32) + (2 : Int32)) + (4 : Int32))), .val (.int ((1 : Int32) + (1 : Int32)))] [(.int (Int32.ofNat 3)), (.ref s1)])) := cc164
      obtain ⟨cq166, kq166, qa166, qb166, qc166⟩ := isOf hZ148 e163 Es1
      obtain ⟨_, _, ⟨T166, L166, k166, n166⟩, -, X166, ⟨Lc166, hQ166, l166, y166, z166⟩, st166⟩ := X163.virtualBack hx (y := (⟨"java/lang/String", "charAt", "(I)C"⟩ : MethodName)) (z := (⟨"java/lang/String", "charAt", "(I)C"⟩ : MethodName)) hown148 (mvT hZ148 w_221) (mvT hZ148 w_69) (notFace_of_selects (args := #[]) (mvT hZ148 w_71)) (mvT hZ148 w_71) (mvT hZ148 w_70) (by decide) (backOf (W := 0) (own_chl l Z a0 hw s1 ([lc, ca, 44, 32, cc, cd, hc] : List Int32) 3 z f T148.heap n0 Zs13 fa149 O2 P5 O4 hf Hf (by simp)) hZ148 w_72 w_7 (by decide) (by decide)) qa166 qc166 (g := (mkF m 312 #[.val (.int p1), .val (.int p2), .val (.int p3), .val (.int p4), .val (.int p5), .val (.int li), .val (.int hi), .val (.int t1), .val (.int t2), .val (.int ca), .val (.int cb), .val (.int cc), .val (.int cd), .val (.ref x), .val (.ref y), .val (.ref g), .val (.ref s1), .val (.int 1), .val (.int 2), .val (.int (((1 : Int32) + (2 : Int32)) + (4 : Int32))), .val (.int ((1 : Int32) + (1 : Int32)))] [(.int (Int32.ofNat 3)), (.ref s1)])) rfl (by rw [hml]; rfl) (Steps.refl _) (argsL := [(.int (Int32.ofNat 3))]) (rest := []) (lenOf own_pd7 rfl) rfl (by show 2 * 0 + _ ≤ _; exact Nat.le_of_eq rfl) (own_d hby at_312) (fun _ _ => ⟨rfl, e163, Nat.le_of_ble_eq_true rfl, Nat.le_of_ble_eq_true rfl⟩)
      dsimp only [Pt.U, Pt.locs, Pt.cells, Pt.slots] at X166 l166 y166 z166 st166 hQ166
      subst l166 y166 z166
      obtain ⟨rfl, Nq166, eq166⟩ := hQ166
      have N166 := Fr.app N163 Nq166
      have e166 : T166.heap = T148.heap := eq166
      have cc167 : Steps p.tables e below S0' (T166.setTop (mkF m 328 #[.val (.int p1), .val (.int p2), .val (.int p3), .val (.int p4), .val (.int p5), .val (.int li), .val (.int hi), .val (.int t1), .val (.int t2), .val (.int ca), .val (.int cb), .val (.int cc), .val (.int cd), .val (.ref x), .val (.ref y), .val (.ref g), .val (.ref s1), .val (.int 1), .val (.int 2), .val (.int (((1 : Int32) + (2 : Int32)) + (4 : Int32))), .val (.int ((1 : Int32) + (1 : Int32)))] [(.int (((1 : Int32) + (1 : Int32)) + (2 : Int32))), (.ref s1)])) := Steps.trans (Steps.trans cz165 st166) (by
        refine bipushV X166.here hx rfl 32 (own_d hby at_315) (by decide) ?_
        refine XS.icmpYes X166.here hx rfl (pc0 := 317) rfl (own_d hby at_317) rfl (ii_eq_t rfl) (by decide) rfl ?_
        refine XS.aload X166.here hx rfl (own_d hby at_322) rfl rfl ?_
        refine XS.iload X166.here hx rfl (own_d hby at_324) rfl ?_
        refine iconstV X166.here hx rfl 2 (own_d hby at_326) (by decide) ?_
        refine XS.iadd X166.here hx rfl (own_d hby at_327) rfl ?_
        exact Steps.refl _)
      have cz168 : Steps p.tables e below S0' (T166.setTop (mkF m 328 #[.val (.int p1), .val (.int p2), .val (.int p3), .val (.int p4), .val (.int p5), .val (.int li), .val (.int hi), .val (.int t1), .val (.int t2), .val (.int ca), .val (.int cb), .val (.int cc), .val (.int cd), .val (.ref x), .val (.ref y), .val (.ref g), .val (.ref s1), .val (.int 1), .val (.int 2), .val (.int (((1 : Int32) + (2 : Int32)) + (4 : Int32))), .val (.int ((1 : Int32) + (1 : Int32)))] [(.int (Int32.ofNat 4)), (.ref s1)])) := cc167
      obtain ⟨cq169, kq169, qa169, qb169, qc169⟩ := isOf hZ148 e166 Es1
      obtain ⟨_, _, ⟨T169, L169, k169, n169⟩, -, X169, ⟨Lc169, hQ169, l169, y169, z169⟩, st169⟩ := X166.virtualBack hx (y := (⟨"java/lang/String", "charAt", "(I)C"⟩ : MethodName)) (z := (⟨"java/lang/String", "charAt", "(I)C"⟩ : MethodName)) hown148 (mvT hZ148 w_221) (mvT hZ148 w_69) (notFace_of_selects (args := #[]) (mvT hZ148 w_71)) (mvT hZ148 w_71) (mvT hZ148 w_70) (by decide) (backOf (W := 0) (own_chl l Z a0 hw s1 ([lc, ca, 44, 32, cc, cd, hc] : List Int32) 4 z f T148.heap n0 Zs13 fa149 O2 P5 O4 hf Hf (by simp)) hZ148 w_72 w_7 (by decide) (by decide)) qa169 qc169 (g := (mkF m 328 #[.val (.int p1), .val (.int p2), .val (.int p3), .val (.int p4), .val (.int p5), .val (.int li), .val (.int hi), .val (.int t1), .val (.int t2), .val (.int ca), .val (.int cb), .val (.int cc), .val (.int cd), .val (.ref x), .val (.ref y), .val (.ref g), .val (.ref s1), .val (.int 1), .val (.int 2), .val (.int (((1 : Int32) + (2 : Int32)) + (4 : Int32))), .val (.int ((1 : Int32) + (1 : Int32)))] [(.int (Int32.ofNat 4)), (.ref s1)])) rfl (by rw [hml]; rfl) (Steps.refl _) (argsL := [(.int (Int32.ofNat 4))]) (rest := []) (lenOf own_pd7 rfl) rfl (by show 2 * 0 + _ ≤ _; exact Nat.le_of_eq rfl) (own_d hby at_328) (fun _ _ => ⟨rfl, e166, Nat.le_of_ble_eq_true rfl, Nat.le_of_ble_eq_true rfl⟩)
      dsimp only [Pt.U, Pt.locs, Pt.cells, Pt.slots] at X169 l169 y169 z169 st169 hQ169
      subst l169 y169 z169
      obtain ⟨rfl, Nq169, eq169⟩ := hQ169
      have N169 := Fr.app N166 Nq169
      have e169 : T169.heap = T148.heap := eq169
      have cc170 : Steps p.tables e below S0' (T169.setTop (mkF m 349 #[.val (.int p1), .val (.int p2), .val (.int p3), .val (.int p4), .val (.int p5), .val (.int li), .val (.int hi), .val (.int t1), .val (.int t2), .val (.int ca), .val (.int cb), .val (.int cc), .val (.int cd), .val (.ref x), .val (.ref y), .val (.ref g), .val (.ref s1), .val (.int 1), .val (.int 2), .val (.int (((1 : Int32) + (2 : Int32)) + (4 : Int32))), .val (.int ((1 : Int32) + (1 : Int32)))] [(.int (((1 : Int32) + (1 : Int32)) + (3 : Int32))), (.ref s1)])) := Steps.trans (Steps.trans cz168 st169) (by
        refine XS.iload X169.here hx rfl (own_d hby at_331) rfl ?_
        refine XS.icmpYes X169.here hx rfl (pc0 := 333) rfl (own_d hby at_333) rfl (ii_eq_t rfl) (by decide) rfl ?_
        refine XS.iload X169.here hx rfl (own_d hby at_338) rfl ?_
        refine XS.ifNo X169.here hx rfl (own_d hby at_340) rfl (i0_eq_f qt2) ?_
        refine XS.aload X169.here hx rfl (own_d hby at_343) rfl rfl ?_
        refine XS.iload X169.here hx rfl (own_d hby at_345) rfl ?_
        refine iconstV X169.here hx rfl 3 (own_d hby at_347) (by decide) ?_
        refine XS.iadd X169.here hx rfl (own_d hby at_348) rfl ?_
        exact Steps.refl _)
      have cz171 : Steps p.tables e below S0' (T169.setTop (mkF m 349 #[.val (.int p1), .val (.int p2), .val (.int p3), .val (.int p4), .val (.int p5), .val (.int li), .val (.int hi), .val (.int t1), .val (.int t2), .val (.int ca), .val (.int cb), .val (.int cc), .val (.int cd), .val (.ref x), .val (.ref y), .val (.ref g), .val (.ref s1), .val (.int 1), .val (.int 2), .val (.int (((1 : Int32) + (2 : Int32)) + (4 : Int32))), .val (.int ((1 : Int32) + (1 : Int32)))] [(.int (Int32.ofNat 5)), (.ref s1)])) := cc170
      obtain ⟨cq172, kq172, qa172, qb172, qc172⟩ := isOf hZ148 e169 Es1
      obtain ⟨_, _, ⟨T172, L172, k172, n172⟩, -, X172, ⟨Lc172, hQ172, l172, y172, z172⟩, st172⟩ := X169.virtualBack hx (y := (⟨"java/lang/String", "charAt", "(I)C"⟩ : MethodName)) (z := (⟨"java/lang/String", "charAt", "(I)C"⟩ : MethodName)) hown148 (mvT hZ148 w_221) (mvT hZ148 w_69) (notFace_of_selects (args := #[]) (mvT hZ148 w_71)) (mvT hZ148 w_71) (mvT hZ148 w_70) (by decide) (backOf (W := 0) (own_chl l Z a0 hw s1 ([lc, ca, 44, 32, cc, cd, hc] : List Int32) 5 z f T148.heap n0 Zs13 fa149 O2 P5 O4 hf Hf (by simp)) hZ148 w_72 w_7 (by decide) (by decide)) qa172 qc172 (g := (mkF m 349 #[.val (.int p1), .val (.int p2), .val (.int p3), .val (.int p4), .val (.int p5), .val (.int li), .val (.int hi), .val (.int t1), .val (.int t2), .val (.int ca), .val (.int cb), .val (.int cc), .val (.int cd), .val (.ref x), .val (.ref y), .val (.ref g), .val (.ref s1), .val (.int 1), .val (.int 2), .val (.int (((1 : Int32) + (2 : Int32)) + (4 : Int32))), .val (.int ((1 : Int32) + (1 : Int32)))] [(.int (Int32.ofNat 5)), (.ref s1)])) rfl (by rw [hml]; rfl) (Steps.refl _) (argsL := [(.int (Int32.ofNat 5))]) (rest := []) (lenOf own_pd7 rfl) rfl (by show 2 * 0 + _ ≤ _; exact Nat.le_of_eq rfl) (own_d hby at_349) (fun _ _ => ⟨rfl, e169, Nat.le_of_ble_eq_true rfl, Nat.le_of_ble_eq_true rfl⟩)
      dsimp only [Pt.U, Pt.locs, Pt.cells, Pt.slots] at X172 l172 y172 z172 st172 hQ172
      subst l172 y172 z172
      obtain ⟨rfl, Nq172, eq172⟩ := hQ172
      have N172 := Fr.app N169 Nq172
      have e172 : T172.heap = T148.heap := eq172
      have cc173 : Steps p.tables e below S0' (T172.setTop (mkF m 365 #[.val (.int p1), .val (.int p2), .val (.int p3), .val (.int p4), .val (.int p5), .val (.int li), .val (.int hi), .val (.int t1), .val (.int t2), .val (.int ca), .val (.int cb), .val (.int cc), .val (.int cd), .val (.ref x), .val (.ref y), .val (.ref g), .val (.ref s1), .val (.int 1), .val (.int 2), .val (.int (((1 : Int32) + (2 : Int32)) + (4 : Int32))), .val (.int ((1 : Int32) + (1 : Int32)))] [(.int ((((1 : Int32) + (2 : Int32)) + (4 : Int32)) - (1 : Int32))), (.ref s1)])) := Steps.trans (Steps.trans cz171 st172) (by
        refine XS.iload X172.here hx rfl (own_d hby at_352) rfl ?_
        refine XS.icmpYes X172.here hx rfl (pc0 := 354) rfl (own_d hby at_354) rfl (ii_eq_t rfl) (by decide) rfl ?_
        refine XS.aload X172.here hx rfl (own_d hby at_359) rfl rfl ?_
        refine XS.iload X172.here hx rfl (own_d hby at_361) rfl ?_
        refine iconstV X172.here hx rfl 1 (own_d hby at_363) (by decide) ?_
        refine XS.isub X172.here hx rfl (own_d hby at_364) rfl ?_
        exact Steps.refl _)
      have cz174 : Steps p.tables e below S0' (T172.setTop (mkF m 365 #[.val (.int p1), .val (.int p2), .val (.int p3), .val (.int p4), .val (.int p5), .val (.int li), .val (.int hi), .val (.int t1), .val (.int t2), .val (.int ca), .val (.int cb), .val (.int cc), .val (.int cd), .val (.ref x), .val (.ref y), .val (.ref g), .val (.ref s1), .val (.int 1), .val (.int 2), .val (.int (((1 : Int32) + (2 : Int32)) + (4 : Int32))), .val (.int ((1 : Int32) + (1 : Int32)))] [(.int (Int32.ofNat 6)), (.ref s1)])) := cc173
      obtain ⟨cq175, kq175, qa175, qb175, qc175⟩ := isOf hZ148 e172 Es1
      obtain ⟨_, _, ⟨T175, L175, k175, n175⟩, -, X175, ⟨Lc175, hQ175, l175, y175, z175⟩, st175⟩ := X172.virtualBack hx (y := (⟨"java/lang/String", "charAt", "(I)C"⟩ : MethodName)) (z := (⟨"java/lang/String", "charAt", "(I)C"⟩ : MethodName)) hown148 (mvT hZ148 w_221) (mvT hZ148 w_69) (notFace_of_selects (args := #[]) (mvT hZ148 w_71)) (mvT hZ148 w_71) (mvT hZ148 w_70) (by decide) (backOf (W := 0) (own_chl l Z a0 hw s1 ([lc, ca, 44, 32, cc, cd, hc] : List Int32) 6 z f T148.heap n0 Zs13 fa149 O2 P5 O4 hf Hf (by simp)) hZ148 w_72 w_7 (by decide) (by decide)) qa175 qc175 (g := (mkF m 365 #[.val (.int p1), .val (.int p2), .val (.int p3), .val (.int p4), .val (.int p5), .val (.int li), .val (.int hi), .val (.int t1), .val (.int t2), .val (.int ca), .val (.int cb), .val (.int cc), .val (.int cd), .val (.ref x), .val (.ref y), .val (.ref g), .val (.ref s1), .val (.int 1), .val (.int 2), .val (.int (((1 : Int32) + (2 : Int32)) + (4 : Int32))), .val (.int ((1 : Int32) + (1 : Int32)))] [(.int (Int32.ofNat 6)), (.ref s1)])) rfl (by rw [hml]; rfl) (Steps.refl _) (argsL := [(.int (Int32.ofNat 6))]) (rest := []) (lenOf own_pd7 rfl) rfl (by show 2 * 0 + _ ≤ _; exact Nat.le_of_eq rfl) (own_d hby at_365) (fun _ _ => ⟨rfl, e172, Nat.le_of_ble_eq_true rfl, Nat.le_of_ble_eq_true rfl⟩)
      dsimp only [Pt.U, Pt.locs, Pt.cells, Pt.slots] at X175 l175 y175 z175 st175 hQ175
      subst l175 y175 z175
      obtain ⟨rfl, Nq175, eq175⟩ := hQ175
      have N175 := Fr.app N172 Nq175
      have e175 : T175.heap = T148.heap := eq175
      have cc176 : Steps p.tables e below S0' (T175.setTop (mkF m 370 #[.val (.int p1), .val (.int p2), .val (.int p3), .val (.int p4), .val (.int p5), .val (.int li), .val (.int hi), .val (.int t1), .val (.int t2), .val (.int ca), .val (.int cb), .val (.int cc), .val (.int cd), .val (.ref x), .val (.ref y), .val (.ref g), .val (.ref s1), .val (.int 1), .val (.int 2), .val (.int (((1 : Int32) + (2 : Int32)) + (4 : Int32))), .val (.int ((1 : Int32) + (1 : Int32)))] [(.int hi), (.int hc)])) := Steps.trans (Steps.trans cz174 st175) (by
        refine XS.iload X175.here hx rfl (own_d hby at_368) rfl ?_
        exact Steps.refl _)
      obtain ⟨w177, hw177, c_w177⟩ : ∃ w : Int32, w = (if hi = 0 then 41 else 93) ∧ Steps p.tables e below S0' (T175.setTop (mkF m 380 #[.val (.int p1), .val (.int p2), .val (.int p3), .val (.int p4), .val (.int p5), .val (.int li), .val (.int hi), .val (.int t1), .val (.int t2), .val (.int ca), .val (.int cb), .val (.int cc), .val (.int cd), .val (.ref x), .val (.ref y), .val (.ref g), .val (.ref s1), .val (.int 1), .val (.int 2), .val (.int (((1 : Int32) + (2 : Int32)) + (4 : Int32))), .val (.int ((1 : Int32) + (1 : Int32)))] [(.int w), (.int hc)])) := by
        by_cases hq : hi = 0
        · refine ⟨41, (if_pos hq).symm, cc176.trans ?_⟩
          refine XS.ifYes X175.here hx rfl (pc0 := 370) rfl (own_d hby at_370) rfl (i0_eq_t hq) (by decide) rfl ?_
          refine bipushV X175.here hx rfl 41 (own_d hby at_378) (by decide) ?_
          exact Steps.refl _
        · refine ⟨93, (if_neg hq).symm, cc176.trans ?_⟩
          refine XS.ifNo X175.here hx rfl (own_d hby at_370) rfl (i0_eq_f hq) ?_
          refine bipushV X175.here hx rfl 93 (own_d hby at_373) (by decide) ?_
          refine XS.goto X175.here hx rfl (pc0 := 375) rfl (own_d hby at_375) (by decide) rfl ?_
          exact Steps.refl _
      have cc178 : Steps p.tables e below S0' (T175.setTop (mkF m 388 #[.val (.int p1), .val (.int p2), .val (.int p3), .val (.int p4), .val (.int p5), .val (.int li), .val (.int hi), .val (.int t1), .val (.int t2), .val (.int ca), .val (.int cb), .val (.int cc), .val (.int cd), .val (.ref x), .val (.ref y), .val (.ref g), .val (.ref s1), .val (.int 1), .val (.int 2), .val (.int (((1 : Int32) + (2 : Int32)) + (4 : Int32))), .val (.int ((1 : Int32) + (1 : Int32)))] [(.int 1)])) := Steps.trans c_w177 (by
        refine XS.icmpNo X175.here hx rfl (own_d hby at_380) rfl (ii_ne_f (ehc.trans hw177.symm)) ?_
        refine iconstV X175.here hx rfl 1 (own_d hby at_383) (by decide) ?_
        refine XS.goto X175.here hx rfl (pc0 := 384) rfl (own_d hby at_384) (by decide) rfl ?_
        exact Steps.refl _)
      have cE := cc178
      rw [hS0'] at cE
      obtain ⟨fs, hr_, hrun, hended, hE⟩ := X175.leaveW hS148 (by rw [e175]; exact hk148) (v := some (.int 1)) (fun h => by rw [Bd.returns] at h; cases h)
      have CE := C148.trans (CHv.at X175 hZ148 hEL C148.1)
      refine ⟨_, _, cE.trans (X175.ireturnOut hx Bd.returns (rfl) (by simp) (own_d hby at_388) hr_), hrun, hended, _, _, rfl, ?_, ?_, hE.1, hE.2.1, hE.2.2.1, hE.2.2.2.mono (by first | decide | omega) (by first | decide | omega)⟩
      · show Q_own_law Z p1 p2 p3 p4 p5 z f h0 n0 _ T175.heap _
        rw [e175]
        exact ⟨rfl, N175⟩
      · rw [hh]
        show CHr Z EL s.vm h0 T175.vm T175.heap
        rw [e175]
        exact CE
  · skip
    have cc34 : Steps p.tables e below S0' (T32.setTop (mkF m 86 #[.val (.int p1), .val (.int p2), .val (.int p3), .val (.int p4), .val (.int p5), .val (.int li), .val (.int hi), .val (.int t1), .val (.int t2), .val (.int ca), .val (.int cb), .val (.int cc), .val (.int cd), .unset, .unset, .unset, .unset, .unset, .unset, .unset, .unset] [])) := Steps.trans cc33 (by
      refine XS.ifNo X32.here hx rfl (own_d hby at_83) rfl (i0_eq_f qt1) ?_
      exact Steps.refl _)
    obtain ⟨T35, h35, X35, e35, E35, A35, D35, -, st35⟩ := newO X32 hx hZ hown w_222 w_15 w_7 e32 (g := (mkF m 86 #[.val (.int p1), .val (.int p2), .val (.int p3), .val (.int p4), .val (.int p5), .val (.int li), .val (.int hi), .val (.int t1), .val (.int t2), .val (.int ca), .val (.int cb), .val (.int cc), .val (.int cd), .unset, .unset, .unset, .unset, .unset, .unset, .unset, .unset] [])) rfl (own_d hby at_86) (by decide) (by decide)
    obtain ⟨x, g_x⟩ : ∃ z, z = h0.size := ⟨_, rfl⟩
    rw [← g_x] at A35 D35 st35
    have K35 := (Keep.refl h0 ([] : List Addr)).ext E35
    have b_x : h0.size ≤ x := (Nat.le_of_eq g_x.symm)
    have gn_x : n0 ≤ x := Nat.le_trans Z0 b_x
    have s0_x : h0.size ≤ x := Nat.le_trans KK0.1 b_x
    have D36 := CHr.ext E35 C0.1
    have C37 := C0.trans D36
    have sf_x : Safe Z EL s.vm h35 x := Safe.ext E35 C0.1 (Safe.new b_x)
    have KK1 : Keep h0 h35 ([] : List Addr) := KK0.trans K35 all0
    have Zs1 : n0 ≤ h35.size := Nat.le_trans Z0 K35.1
    have F_value_x : Fld Z h35 x "java/lang/String" "value" "[B" .null := D35 (Or.inr w_28) (ty := (.array .byte)) (by decide)
    have F_coder_x : Fld Z h35 x "java/lang/String" "coder" "B" (.int (0 : Int32)) := D35 (Or.inr w_30) (ty := .byte) (by decide)
    have cc38 : Steps p.tables e below S0' (T35.setTop (mkF m 91 #[.val (.int p1), .val (.int p2), .val (.int p3), .val (.int p4), .val (.int p5), .val (.int li), .val (.int hi), .val (.int t1), .val (.int t2), .val (.int ca), .val (.int cb), .val (.int cc), .val (.int cd), .unset, .unset, .unset, .unset, .unset, .unset, .unset, .unset] [(.int 2), (.ref x), (.ref x)])) := Steps.trans (cc34.trans (st35 _ (Steps.refl _))) (by
      refine XS.dup X35.here hx rfl (own_d hby at_89) rfl rfl ?_
      refine iconstV X35.here hx rfl 2 (own_d hby at_90) (by decide) ?_
      exact Steps.refl _)
    obtain ⟨T39, h39, k39, X39, e39, E39, A39, st39⟩ := newP X35 hx hZ (aty := .char) w_223 e35 (g := (mkF m 91 #[.val (.int p1), .val (.int p2), .val (.int p3), .val (.int p4), .val (.int p5), .val (.int li), .val (.int hi), .val (.int t1), .val (.int t2), .val (.int ca), .val (.int cb), .val (.int cc), .val (.int cd), .unset, .unset, .unset, .unset, .unset, .unset, .unset, .unset] [(.int 2), (.ref x), (.ref x)])) rfl (own_d hby at_91) rfl (by decide) (cap := 2) (by decide) (by decide) (by decide) (by decide)
    obtain ⟨ba_x, g_ba_x⟩ : ∃ z, z = h35.size := ⟨_, rfl⟩
    rw [← g_ba_x] at A39 st39
    have K39 := (Keep.refl h35 ([] : List Addr)).ext E39
    have b_ba_x : h35.size ≤ ba_x := (Nat.le_of_eq g_ba_x.symm)
    have gn_ba_x : n0 ≤ ba_x := Nat.le_trans Zs1 b_ba_x
    have s0_ba_x : h0.size ≤ ba_x := Nat.le_trans KK1.1 b_ba_x
    have ne_x_ba_x : x ≠ ba_x := Nat.ne_of_lt (Nat.lt_of_lt_of_le A35.lt b_ba_x)
    have D40 := CHr.ext E39 C37.1
    have C41 := C37.trans D40
    have sf_ba_x : Safe Z EL s.vm h39 ba_x := Safe.ext E39 C37.1 (Safe.new b_ba_x)
    have KK2 : Keep h0 h39 ([] : List Addr) := KK1.trans K39 all0
    have Zs2 : n0 ≤ h39.size := Nat.le_trans Zs1 K39.1
    have V_ba_x : Arv Z h39 ba_x k39 .char (2 : Int32) [(.int (0 : Int32)), (.int (0 : Int32))] (.int (0 : Int32)) := (Arv.new A39 (by decide)).pad (pad_rep [] (.int (0 : Int32)) 2)
    have cc42 : Steps p.tables e below S0' (T39.setTop (mkF m 97 #[.val (.int p1), .val (.int p2), .val (.int p3), .val (.int p4), .val (.int p5), .val (.int li), .val (.int hi), .val (.int t1), .val (.int t2), .val (.int ca), .val (.int cb), .val (.int cc), .val (.int cd), .unset, .unset, .unset, .unset, .unset, .unset, .unset, .unset] [(.int ca), (.int 0), (.ref ba_x), (.ref ba_x), (.ref x), (.ref x)])) := Steps.trans (cc38.trans (st39 _ (Steps.refl _))) (by
      refine XS.dup X39.here hx rfl (own_d hby at_93) rfl rfl ?_
      refine iconstV X39.here hx rfl 0 (own_d hby at_94) (by decide) ?_
      refine XS.iload X39.here hx rfl (own_d hby at_95) rfl ?_
      exact Steps.refl _)
    obtain ⟨clu43, Aru43, qu43, Su43, Ngu43, Hsu43, Gsu43⟩ := id V_ba_x
    have inu43 : ¬ ((0 : Int32) < 0 ∨ clu43.slots.size ≤ (0 : Int32).toNatClampNeg) := inb_of Su43 ⟨by decide, by decide⟩
    obtain ⟨T44, h44, X44, e44, W44, st44⟩ := stC X39 hx hZ e39 Aru43 (j := (0 : Int32)) inu43 (g := (mkF m 97 #[.val (.int p1), .val (.int p2), .val (.int p3), .val (.int p4), .val (.int p5), .val (.int li), .val (.int hi), .val (.int t1), .val (.int t2), .val (.int ca), .val (.int cb), .val (.int cc), .val (.int cd), .unset, .unset, .unset, .unset, .unset, .unset, .unset, .unset] [(.int ca), (.int 0), (.ref ba_x), (.ref ba_x), (.ref x), (.ref x)])) rfl rfl (own_d hby at_97)
    have K44 := Keep.of_wr W44
    have N44 := Fr.snoc X44 N32 gn_ba_x
    have D45 := CHr.wr W44 sf_ba_x C41.1
    have C46 := C41.trans D45
    have KK3 : Keep h0 h44 ([] : List Addr) := KK2.trans K44 (allS (Or.inr s0_ba_x) all0)
    have Zs3 : n0 ≤ h44.size := Nat.le_trans Zs2 K44.1
    have V44 : Arv Z h44 ba_x k39 .char (2 : Int32) ([(.int (nar .char ca)), (.int (0 : Int32))]) (.int (0 : Int32)) := Arv.set Aru43 qu43 Su43 Ngu43 Hsu43 Gsu43 (fits_nar_char _) W44 0 rfl (Nat.le_of_ble_eq_true rfl)
    have sf47 := D45.safe A39.lt sf_ba_x
    have lt48 := Nat.lt_of_lt_of_le A39.lt K44.1
    have cc49 : Steps p.tables e below S0' (T44.setTop (mkF m 102 #[.val (.int p1), .val (.int p2), .val (.int p3), .val (.int p4), .val (.int p5), .val (.int li), .val (.int hi), .val (.int t1), .val (.int t2), .val (.int ca), .val (.int cb), .val (.int cc), .val (.int cd), .unset, .unset, .unset, .unset, .unset, .unset, .unset, .unset] [(.int cb), (.int 1), (.ref ba_x), (.ref ba_x), (.ref x), (.ref x)])) := Steps.trans (cc42.trans (st44 _ (Steps.refl _))) (by
      refine XS.dup X44.here hx rfl (own_d hby at_98) rfl rfl ?_
      refine iconstV X44.here hx rfl 1 (own_d hby at_99) (by decide) ?_
      refine XS.iload X44.here hx rfl (own_d hby at_100) rfl ?_
      exact Steps.refl _)
    obtain ⟨clu50, Aru50, qu50, Su50, Ngu50, Hsu50, Gsu50⟩ := id V44
    have inu50 : ¬ ((1 : Int32) < 0 ∨ clu50.slots.size ≤ (1 : Int32).toNatClampNeg) := inb_of Su50 ⟨by decide, by decide⟩
    obtain ⟨T51, h51, X51, e51, W51, st51⟩ := stC X44 hx hZ e44 Aru50 (j := (1 : Int32)) inu50 (g := (mkF m 102 #[.val (.int p1), .val (.int p2), .val (.int p3), .val (.int p4), .val (.int p5), .val (.int li), .val (.int hi), .val (.int t1), .val (.int t2), .val (.int ca), .val (.int cb), .val (.int cc), .val (.int cd), .unset, .unset, .unset, .unset, .unset, .unset, .unset, .unset] [(.int cb), (.int 1), (.ref ba_x), (.ref ba_x), (.ref x), (.ref x)])) rfl rfl (own_d hby at_102)
    have K51 := Keep.of_wr W51
    have N51 := Fr.snoc X51 N44 gn_ba_x
    have D52 := CHr.wr W51 sf47 C46.1
    have C53 := C46.trans D52
    have KK4 : Keep h0 h51 ([] : List Addr) := KK3.trans K51 (allS (Or.inr s0_ba_x) all0)
    have Zs4 : n0 ≤ h51.size := Nat.le_trans Zs3 K51.1
    have V51 : Arv Z h51 ba_x k39 .char (2 : Int32) ([(.int (nar .char ca)), (.int (nar .char cb))]) (.int (0 : Int32)) := Arv.set Aru50 qu50 Su50 Ngu50 Hsu50 Gsu50 (fits_nar_char _) W51 1 rfl (Nat.le_of_ble_eq_true rfl)
    have hpx : ∀ w ∈ ([ca, cb] : List Int32), ¬ w < 0 ∧ ¬ (255 : Int32) < w := by
      intro w hw'
      simp only [List.mem_cons, List.not_mem_nil, or_false] at hw'
      rcases hw' with rfl | rfl
      · exact gca
      · exact gcb
    have cc55 : Steps p.tables e below S0' (T51.setTop (mkF m 103 #[.val (.int p1), .val (.int p2), .val (.int p3), .val (.int p4), .val (.int p5), .val (.int li), .val (.int hi), .val (.int t1), .val (.int t2), .val (.int ca), .val (.int cb), .val (.int cc), .val (.int cd), .unset, .unset, .unset, .unset, .unset, .unset, .unset, .unset] [(.ref ba_x), (.ref x), (.ref x)])) := (cc49.trans (st51 _ (Steps.refl _)))
    have fa54 : Exa Z h51 x "java/lang/String" := (((A35.keep K39).keep K44).keep K51)
    have fa56 : Fld Z h51 x "java/lang/String" "value" "[B" .null := (((F_value_x.keep K39 nin0).keep K44 (ninS ne_x_ba_x nin0)).keep K51 (ninS ne_x_ba_x nin0))
    have fa57 : Fld Z h51 x "java/lang/String" "coder" "B" (.int (0 : Int32)) := (((F_coder_x.keep K39 nin0).keep K44 (ninS ne_x_ba_x nin0)).keep K51 (ninS ne_x_ba_x nin0))
    have fa58 : Old Z n0 h51 := ((((X00.keep K35 all0).keep K39 all0).keep K44 (allS gn_ba_x all0)).keep K51 (allS gn_ba_x all0))
    obtain ⟨_, _, ⟨T59, L59, k59, n59⟩, -, X59, ⟨Lc59, hQ59, l59, y59, z59⟩, st59⟩ := X51.specialBack hx (y := (⟨"java/lang/String", "<init>", "([C)V"⟩ : MethodName)) rfl hown (mvT hZ w_224) (mvT hZ w_225) (mvT hZ w_226) (by decide) (StrChars.Road.backV (W := 1) hZ hw_words (kI := 4) w_15 (cs := ([ca, cb] : List Int32)) (bs := (([ca, cb] : List Int32)).map (fun c => c.toInt8.toInt32)) (n := 2) gn_x Zs4 fa54 fa56 fa57 (own_arv_eq V51 (by simp only [own_nar gca, own_nar gcb]; rfl) : Arv Z h51 ba_x _ .char (2 : Int32) ((([ca, cb] : List Int32)).map Value.int) (.int (0 : Int32))) (O2.ext fa58.2) P5 rfl rfl (by decide) (by decide) hpx rfl (by decide) (by decide)) (g := (mkF m 103 #[.val (.int p1), .val (.int p2), .val (.int p3), .val (.int p4), .val (.int p5), .val (.int li), .val (.int hi), .val (.int t1), .val (.int t2), .val (.int ca), .val (.int cb), .val (.int cc), .val (.int cd), .unset, .unset, .unset, .unset, .unset, .unset, .unset, .unset] [(.ref ba_x), (.ref x), (.ref x)])) rfl (by rw [hml]; rfl) (Steps.refl _) (a := x) (argsL := [(.ref ba_x)]) (rest := [(.ref x)]) (lenOf own_pd26 rfl) rfl (by show 2 * 0 + _ ≤ _; exact Nat.le_of_eq rfl) (own_d hby at_103) (fun _ _ => ⟨rfl, e51, Nat.le_of_ble_eq_true rfl, Nat.le_of_ble_eq_true rfl⟩)
    dsimp only [Pt.U, Pt.locs, Pt.cells, Pt.slots] at X59 l59 y59 z59 st59 hQ59
    subst l59 y59 z59
    obtain ⟨rfl, Nq59, Kq59, Eq59, Cq59, tt59, kb59, q159, q259, q359, Vq59, Aq59⟩ := hQ59
    have N59 := Fr.app N51 Nq59
    have sf60 := D40.safe A35.lt sf_x
    have lt61 := Nat.lt_of_lt_of_le A35.lt K39.1
    have sf62 := D45.safe lt61 sf60
    have lt63 := Nat.lt_of_lt_of_le lt61 K44.1
    have sf64 := D52.safe lt63 sf62
    have lt65 := Nat.lt_of_lt_of_le lt63 K51.1
    have D66 := CHr.keep Kq59 (sfS sf64 sf0) C53.1
    have C67 := C53.trans D66
    have KK5 : Keep h0 T59.heap ([] : List Addr) := KK4.trans Kq59 (allS (Or.inr s0_x) all0)
    have Zs5 : n0 ≤ T59.heap.size := Nat.le_trans Zs4 Kq59.1
    have e59 : T59.heap = T59.heap := rfl
    have Hx : own_Lat Z T59.heap x ([ca, cb] : List Int32) := ⟨Eq59, Cq59, hpx, by simp, tt59, kb59, Vq59, Aq59⟩
    obtain ⟨Ex, Cx, px, lx, tx, kx, Vx, Ax⟩ := Hx
    have cc68 : Steps p.tables e below S0' (T59.setTop (mkF m 118 #[.val (.int p1), .val (.int p2), .val (.int p3), .val (.int p4), .val (.int p5), .val (.int li), .val (.int hi), .val (.int t1), .val (.int t2), .val (.int ca), .val (.int cb), .val (.int cc), .val (.int cd), .val (.ref x), .unset, .unset, .unset, .unset, .unset, .unset, .unset] [(.int t2)])) := Steps.trans (Steps.trans cc55 st59) (by
      refine XS.goto X59.here hx rfl (pc0 := 106) rfl (own_d hby at_106) (by decide) rfl ?_
      refine XS.astore X59.here hx rfl (own_d hby at_114) rfl rfl rfl ?_
      refine XS.iload X59.here hx rfl (own_d hby at_116) rfl ?_
      exact Steps.refl _)
    by_cases qt2 : t2 = 0
    · skip
      have cc70 : Steps p.tables e below S0' (T59.setTop (mkF m 146 #[.val (.int p1), .val (.int p2), .val (.int p3), .val (.int p4), .val (.int p5), .val (.int li), .val (.int hi), .val (.int t1), .val (.int t2), .val (.int ca), .val (.int cb), .val (.int cc), .val (.int cd), .val (.ref x), .unset, .unset, .unset, .unset, .unset, .unset, .unset] [(.int cc)])) := Steps.trans cc68 (by
        refine XS.ifYes X59.here hx rfl (pc0 := 118) rfl (own_d hby at_118) rfl (i0_eq_t qt2) (by decide) rfl ?_
        refine XS.iload X59.here hx rfl (own_d hby at_144) rfl ?_
        exact Steps.refl _)
      have fa69 : Old Z n0 T59.heap := (fa58.keep Kq59 (allS gn_x all0))
      obtain ⟨_, _, ⟨T71, L71, k71, n71⟩, -, X71, ⟨Lc71, hQ71, l71, y71, z71⟩, st71⟩ := Jvm.LawKit.callS X59 hx (y := (⟨"java/lang/String", "valueOf", "(C)Ljava/lang/String;"⟩ : MethodName)) hown (mvT hZ w_5) (mvT hZ w_6) (mvT hZ w_7) (mvT hZ w_8) (by decide) (backOf (W := 0) (own_vo l Z a0 hw cc z T59.heap n0 Zs5 fa69 O2 P5 gcc) hZ w_8 w_7 (by decide) (by decide)) (g := (mkF m 146 #[.val (.int p1), .val (.int p2), .val (.int p3), .val (.int p4), .val (.int p5), .val (.int li), .val (.int hi), .val (.int t1), .val (.int t2), .val (.int ca), .val (.int cb), .val (.int cc), .val (.int cd), .val (.ref x), .unset, .unset, .unset, .unset, .unset, .unset, .unset] [(.int cc)])) rfl (by rw [hml]; rfl) (argsL := [(.int cc)]) (rest := []) (lenOf own_pd24 rfl) rfl (by show 2 * 0 + _ ≤ _; exact Nat.le_of_eq rfl) (own_d hby at_146) (fun _ _ => ⟨rfl, e59, Nat.le_of_ble_eq_true rfl, Nat.le_of_ble_eq_true rfl⟩)
      dsimp only [Pt.U, Pt.locs, Pt.cells, Pt.slots] at X71 l71 y71 z71 st71 hQ71
      subst l71 y71 z71
      obtain ⟨y, rfl, Nq71, Kq71, sq71, Hy⟩ := hQ71
      have N71 := Fr.app N59 Nq71
      have b_y : T59.heap.size ≤ y := sq71
      have gn_y : n0 ≤ y := Nat.le_trans Zs5 b_y
      have s0_y : h0.size ≤ y := Nat.le_trans KK5.1 b_y
      have ne_x_y : x ≠ y := Nat.ne_of_lt (Nat.lt_of_lt_of_le Ex.lt b_y)
      have fa72 : Arv Z T59.heap ba_x k39 .char (2 : Int32) ([(.int (nar .char ca)), (.int (nar .char cb))]) (.int (0 : Int32)) := (V51.keep Kq59 (ninS (Ne.symm ne_x_ba_x) nin0))
      have ne_ba_x_y : ba_x ≠ y := Nat.ne_of_lt (Nat.lt_of_lt_of_le fa72.lt b_y)
      have ne_tx_y : tx ≠ y := Nat.ne_of_lt (Nat.lt_of_lt_of_le Ax.lt b_y)
      have D73 := CHr.keep Kq71 sf0 C67.1
      have C74 := C67.trans D73
      have sf_y := Safe.keep Kq71 sf0 C67.1 (Safe.new b_y)
      have KK6 : Keep h0 T71.heap ([] : List Addr) := KK5.trans Kq71 all0
      have Zs6 : n0 ≤ T71.heap.size := Nat.le_trans Zs5 Kq71.1
      have e71 : T71.heap = T71.heap := rfl
      obtain ⟨Ey, Cy, py, ly, ty, ky, Vy, Ay⟩ := Hy
      have cc75 : Steps p.tables e below S0' (T71.setTop (mkF m 151 #[.val (.int p1), .val (.int p2), .val (.int p3), .val (.int p4), .val (.int p5), .val (.int li), .val (.int hi), .val (.int t1), .val (.int t2), .val (.int ca), .val (.int cb), .val (.int cc), .val (.int cd), .val (.ref x), .val (.ref y), .unset, .unset, .unset, .unset, .unset, .unset] [])) := Steps.trans (cc70.trans (st71 _ (Steps.refl _))) (by
        refine XS.astore X71.here hx rfl (own_d hby at_149) rfl rfl rfl ?_
        exact Steps.refl _)
      obtain ⟨T76, h76, X76, e76, E76, A76, D76, -, st76⟩ := newO X71 hx hZ hown w_31 w_32 w_33 e71 (g := (mkF m 151 #[.val (.int p1), .val (.int p2), .val (.int p3), .val (.int p4), .val (.int p5), .val (.int li), .val (.int hi), .val (.int t1), .val (.int t2), .val (.int ca), .val (.int cb), .val (.int cc), .val (.int cd), .val (.ref x), .val (.ref y), .unset, .unset, .unset, .unset, .unset, .unset] [])) rfl (own_d hby at_151) (by decide) (by decide)
      obtain ⟨g, g_g⟩ : ∃ z, z = T71.heap.size := ⟨_, rfl⟩
      rw [← g_g] at A76 D76 st76
      have K76 := (Keep.refl T71.heap ([] : List Addr)).ext E76
      have b_g : T71.heap.size ≤ g := (Nat.le_of_eq g_g.symm)
      have gn_g : n0 ≤ g := Nat.le_trans Zs6 b_g
      have s0_g : h0.size ≤ g := Nat.le_trans KK6.1 b_g
      have fa77 : Exa Z T71.heap x "java/lang/String" := (Ex.keep Kq71)
      have ne_x_g : x ≠ g := Nat.ne_of_lt (Nat.lt_of_lt_of_le fa77.lt b_g)
      have fa78 : Arv Z T71.heap ba_x k39 .char (2 : Int32) ([(.int (nar .char ca)), (.int (nar .char cb))]) (.int (0 : Int32)) := (fa72.keep Kq71 nin0)
      have ne_ba_x_g : ba_x ≠ g := Nat.ne_of_lt (Nat.lt_of_lt_of_le fa78.lt b_g)
      have fa79 : Arv Z T71.heap tx kx .byte (Int32.ofNat ([ca, cb] : List Int32).length) (own_by ([ca, cb] : List Int32)) (.int (0 : Int32)) := (Ax.keep Kq71 nin0)
      have ne_tx_g : tx ≠ g := Nat.ne_of_lt (Nat.lt_of_lt_of_le fa79.lt b_g)
      have ne_y_g : y ≠ g := Nat.ne_of_lt (Nat.lt_of_lt_of_le Ey.lt b_g)
      have ne_ty_g : ty ≠ g := Nat.ne_of_lt (Nat.lt_of_lt_of_le Ay.lt b_g)
      have D80 := CHr.ext E76 C74.1
      have C81 := C74.trans D80
      have sf_g : Safe Z EL s.vm h76 g := Safe.ext E76 C74.1 (Safe.new b_g)
      have KK7 : Keep h0 h76 ([] : List Addr) := KK6.trans K76 all0
      have Zs7 : n0 ≤ h76.size := Nat.le_trans Zs6 K76.1
      have F_low_g : Fld Z h76 g "com/example/firm_roles/firmroles/RoleRange" "low" "Lcom/example/firm_roles/firmroles/Name;" .null := D76 (Or.inr w_99) (ty := (.object "com/example/firm_roles/firmroles/Name")) (by decide)
      have F_lowIncluded_g : Fld Z h76 g "com/example/firm_roles/firmroles/RoleRange" "lowIncluded" "Z" (.int (0 : Int32)) := D76 (Or.inr w_101) (ty := .boolean) (by decide)
      have F_high_g : Fld Z h76 g "com/example/firm_roles/firmroles/RoleRange" "high" "Lcom/example/firm_roles/firmroles/Name;" .null := D76 (Or.inr w_103) (ty := (.object "com/example/firm_roles/firmroles/Name")) (by decide)
      have F_highIncluded_g : Fld Z h76 g "com/example/firm_roles/firmroles/RoleRange" "highIncluded" "Z" (.int (0 : Int32)) := D76 (Or.inr w_105) (ty := .boolean) (by decide)
      have cc82 : Steps p.tables e below S0' (T76.setTop (mkF m 155 #[.val (.int p1), .val (.int p2), .val (.int p3), .val (.int p4), .val (.int p5), .val (.int li), .val (.int hi), .val (.int t1), .val (.int t2), .val (.int ca), .val (.int cb), .val (.int cc), .val (.int cd), .val (.ref x), .val (.ref y), .unset, .unset, .unset, .unset, .unset, .unset] [(.ref g), (.ref g)])) := Steps.trans (cc75.trans (st76 _ (Steps.refl _))) (by
        refine XS.dup X76.here hx rfl (own_d hby at_154) rfl rfl ?_
        exact Steps.refl _)
      obtain ⟨T83, h83, X83, e83, E83, A83, D83, -, st83⟩ := newO X76 hx hZ hown w_34 w_35 w_36 e76 (g := (mkF m 155 #[.val (.int p1), .val (.int p2), .val (.int p3), .val (.int p4), .val (.int p5), .val (.int li), .val (.int hi), .val (.int t1), .val (.int t2), .val (.int ca), .val (.int cb), .val (.int cc), .val (.int cd), .val (.ref x), .val (.ref y), .unset, .unset, .unset, .unset, .unset, .unset] [(.ref g), (.ref g)])) rfl (own_d hby at_155) (by decide) (by decide)
      obtain ⟨na, g_na⟩ : ∃ z, z = h76.size := ⟨_, rfl⟩
      rw [← g_na] at A83 D83 st83
      have K83 := (Keep.refl h76 ([] : List Addr)).ext E83
      have b_na : h76.size ≤ na := (Nat.le_of_eq g_na.symm)
      have gn_na : n0 ≤ na := Nat.le_trans Zs7 b_na
      have s0_na : h0.size ≤ na := Nat.le_trans KK7.1 b_na
      have fa84 : Exa Z h76 x "java/lang/String" := (fa77.keep K76)
      have ne_x_na : x ≠ na := Nat.ne_of_lt (Nat.lt_of_lt_of_le fa84.lt b_na)
      have fa85 : Arv Z h76 ba_x k39 .char (2 : Int32) ([(.int (nar .char ca)), (.int (nar .char cb))]) (.int (0 : Int32)) := (fa78.keep K76 nin0)
      have ne_ba_x_na : ba_x ≠ na := Nat.ne_of_lt (Nat.lt_of_lt_of_le fa85.lt b_na)
      have fa86 : Arv Z h76 tx kx .byte (Int32.ofNat ([ca, cb] : List Int32).length) (own_by ([ca, cb] : List Int32)) (.int (0 : Int32)) := (fa79.keep K76 nin0)
      have ne_tx_na : tx ≠ na := Nat.ne_of_lt (Nat.lt_of_lt_of_le fa86.lt b_na)
      have fa87 : Exa Z h76 y "java/lang/String" := (Ey.keep K76)
      have ne_y_na : y ≠ na := Nat.ne_of_lt (Nat.lt_of_lt_of_le fa87.lt b_na)
      have fa88 : Arv Z h76 ty ky .byte (Int32.ofNat ([cc] : List Int32).length) (own_by ([cc] : List Int32)) (.int (0 : Int32)) := (Ay.keep K76 nin0)
      have ne_ty_na : ty ≠ na := Nat.ne_of_lt (Nat.lt_of_lt_of_le fa88.lt b_na)
      have ne_g_na : g ≠ na := Nat.ne_of_lt (Nat.lt_of_lt_of_le A76.lt b_na)
      have D89 := CHr.ext E83 C81.1
      have C90 := C81.trans D89
      have sf_na : Safe Z EL s.vm h83 na := Safe.ext E83 C81.1 (Safe.new b_na)
      have KK8 : Keep h0 h83 ([] : List Addr) := KK7.trans K83 all0
      have Zs8 : n0 ≤ h83.size := Nat.le_trans Zs7 K83.1
      have F_value_na : Fld Z h83 na "com/example/firm_roles/firmroles/Name" "value" "Ljava/lang/String;" .null := D83 (Or.inr w_93) (ty := (.object "java/lang/String")) (by decide)
      have cc92 : Steps p.tables e below S0' (T83.setTop (mkF m 161 #[.val (.int p1), .val (.int p2), .val (.int p3), .val (.int p4), .val (.int p5), .val (.int li), .val (.int hi), .val (.int t1), .val (.int t2), .val (.int ca), .val (.int cb), .val (.int cc), .val (.int cd), .val (.ref x), .val (.ref y), .unset, .unset, .unset, .unset, .unset, .unset] [(.ref x), (.ref na), (.ref na), (.ref g), (.ref g)])) := Steps.trans (cc82.trans (st83 _ (Steps.refl _))) (by
        refine XS.dup X83.here hx rfl (own_d hby at_158) rfl rfl ?_
        refine XS.aload X83.here hx rfl (own_d hby at_159) rfl rfl ?_
        exact Steps.refl _)
      have fa91 : Old Z n0 h83 := (((fa69.keep Kq71 all0).keep K76 all0).keep K83 all0)
      have fa93 : Exa Z h83 x "java/lang/String" := (fa84.keep K83)
      have fa94 : Fld Z h83 x "java/lang/String" "coder" "B" (.int (0 : Int32)) := (((Cx.keep Kq71 nin0).keep K76 nin0).keep K83 nin0)
      have fa95 : Fld Z h83 x "java/lang/String" "value" "[B" (.ref tx) := (((Vx.keep Kq71 nin0).keep K76 nin0).keep K83 nin0)
      have fa96 : Arv Z h83 tx kx .byte (Int32.ofNat ([ca, cb] : List Int32).length) (own_by ([ca, cb] : List Int32)) (.int (0 : Int32)) := (fa86.keep K83 nin0)
      obtain ⟨_, _, ⟨T97, L97, k97, n97⟩, -, X97, hs97, gr97, ⟨Lc97, hQ97, l97, y97, z97, CH97⟩, st97⟩ := X83.specialBackS hx (y := (⟨"com/example/firm_roles/firmroles/Name", "<init>", "(Ljava/lang/String;)V"⟩ : MethodName)) rfl hown (mvT hZ w_37) (mvT hZ w_38) (mvT hZ w_39) (by decide) (backOfSH (W := 3) (own_nin l Z a0 hw na x ([ca, cb] : List Int32) z f h83 n0 Zs8 fa91 O2 P5 O4 hf A83 F_value_na gn_na (⟨fa93, fa94, px, lx, tx, kx, fa95, fa96⟩ : own_Lat Z h83 x ([ca, cb] : List Int32)) (Or.inr ⟨ca, cb, rfl, kca, kcb⟩)) hZ w_39 w_36 (by decide) (by decide) hEL C90.1) (g := (mkF m 161 #[.val (.int p1), .val (.int p2), .val (.int p3), .val (.int p4), .val (.int p5), .val (.int li), .val (.int hi), .val (.int t1), .val (.int t2), .val (.int ca), .val (.int cb), .val (.int cc), .val (.int cd), .val (.ref x), .val (.ref y), .unset, .unset, .unset, .unset, .unset, .unset] [(.ref x), (.ref na), (.ref na), (.ref g), (.ref g)])) rfl (by rw [hml]; rfl) (Steps.refl _) (a := na) (argsL := [(.ref x)]) (rest := [(.ref na), (.ref g), (.ref g)]) (lenOf own_pd10 rfl) rfl (by show 2 * 0 + _ ≤ _; exact Nat.le_of_eq rfl) (own_d hby at_161) (fun _ _ => ⟨rfl, e83, Nat.le_of_ble_eq_true rfl, Nat.le_of_ble_eq_true rfl⟩)
      dsimp only [Pt.U, Pt.locs, Pt.cells, Pt.slots] at X97 l97 y97 z97 st97 hQ97 hs97 gr97 CH97
      subst l97 y97 z97
      obtain ⟨rfl, Nq97, Kq97, Fq97⟩ := hQ97
      obtain ⟨Xr97, hS97, hZ97, hown97⟩ := rebS hS0 (by rw [e83]; exact (Nat.le_trans (Nat.le_trans (Nat.le_trans (Nat.le_trans (Nat.le_trans (Nat.le_trans (Nat.le_trans (Nat.le_trans hk0 K35.1) K39.1) K44.1) K51.1) Kq59.1) Kq71.1) K76.1) K83.1)) X97 hs97 gr97 hZ hown
      have hk97 : T97.heap.size ≤ T97.heap.size := Nat.le_refl _
      have C97 := C90.trans CH97
      have N97 := Fr.app N71 Nq97
      have KK9 : Keep h0 T97.heap ([] : List Addr) := KK8.trans Kq97 (allS (Or.inr s0_na) all0)
      have Zs9 : n0 ≤ T97.heap.size := Nat.le_trans Zs8 Kq97.1
      have e97 : T97.heap = T97.heap := rfl
      have cc98 : Steps p.tables e below S0' (T97.setTop (mkF m 166 #[.val (.int p1), .val (.int p2), .val (.int p3), .val (.int p4), .val (.int p5), .val (.int li), .val (.int hi), .val (.int t1), .val (.int t2), .val (.int ca), .val (.int cb), .val (.int cc), .val (.int cd), .val (.ref x), .val (.ref y), .unset, .unset, .unset, .unset, .unset, .unset] [(.int li), (.ref na), (.ref g), (.ref g)])) := Steps.trans (Steps.trans cc92 st97) (by
        refine XS.iload Xr97.here hx rfl (own_d hby at_164) rfl ?_
        exact Steps.refl _)
      obtain ⟨T99, h99, X99, e99, E99, A99, D99, -, st99⟩ := newO Xr97 hx hZ97 hown97 w_34 w_35 w_36 e97 (g := (mkF m 166 #[.val (.int p1), .val (.int p2), .val (.int p3), .val (.int p4), .val (.int p5), .val (.int li), .val (.int hi), .val (.int t1), .val (.int t2), .val (.int ca), .val (.int cb), .val (.int cc), .val (.int cd), .val (.ref x), .val (.ref y), .unset, .unset, .unset, .unset, .unset, .unset] [(.int li), (.ref na), (.ref g), (.ref g)])) rfl (own_d hby at_166) (by decide) (by decide)
      obtain ⟨nb, g_nb⟩ : ∃ z, z = T97.heap.size := ⟨_, rfl⟩
      rw [← g_nb] at A99 D99 st99
      have K99 := (Keep.refl T97.heap ([] : List Addr)).ext E99
      have b_nb : T97.heap.size ≤ nb := (Nat.le_of_eq g_nb.symm)
      have gn_nb : n0 ≤ nb := Nat.le_trans Zs9 b_nb
      have s0_nb : h0.size ≤ nb := Nat.le_trans KK9.1 b_nb
      have fa100 : Exa Z T97.heap x "java/lang/String" := (fa93.keep Kq97)
      have ne_x_nb : x ≠ nb := Nat.ne_of_lt (Nat.lt_of_lt_of_le fa100.lt b_nb)
      have fa101 : Arv Z T97.heap ba_x k39 .char (2 : Int32) ([(.int (nar .char ca)), (.int (nar .char cb))]) (.int (0 : Int32)) := ((fa85.keep K83 nin0).keep Kq97 (ninS ne_ba_x_na nin0))
      have ne_ba_x_nb : ba_x ≠ nb := Nat.ne_of_lt (Nat.lt_of_lt_of_le fa101.lt b_nb)
      have fa102 : Arv Z T97.heap tx kx .byte (Int32.ofNat ([ca, cb] : List Int32).length) (own_by ([ca, cb] : List Int32)) (.int (0 : Int32)) := (fa96.keep Kq97 (ninS ne_tx_na nin0))
      have ne_tx_nb : tx ≠ nb := Nat.ne_of_lt (Nat.lt_of_lt_of_le fa102.lt b_nb)
      have fa103 : Exa Z T97.heap y "java/lang/String" := ((fa87.keep K83).keep Kq97)
      have ne_y_nb : y ≠ nb := Nat.ne_of_lt (Nat.lt_of_lt_of_le fa103.lt b_nb)
      have fa104 : Arv Z T97.heap ty ky .byte (Int32.ofNat ([cc] : List Int32).length) (own_by ([cc] : List Int32)) (.int (0 : Int32)) := ((fa88.keep K83 nin0).keep Kq97 (ninS ne_ty_na nin0))
      have ne_ty_nb : ty ≠ nb := Nat.ne_of_lt (Nat.lt_of_lt_of_le fa104.lt b_nb)
      have fa105 : Exa Z T97.heap g "com/example/firm_roles/firmroles/RoleRange" := ((A76.keep K83).keep Kq97)
      have ne_g_nb : g ≠ nb := Nat.ne_of_lt (Nat.lt_of_lt_of_le fa105.lt b_nb)
      have fa106 : Exa Z T97.heap na "com/example/firm_roles/firmroles/Name" := (A83.keep Kq97)
      have ne_na_nb : na ≠ nb := Nat.ne_of_lt (Nat.lt_of_lt_of_le fa106.lt b_nb)
      have D107 := CHr.ext E99 C97.1
      have C108 := C97.trans D107
      have sf_nb : Safe Z EL T97.vm h99 nb := Safe.ext E99 C97.1 (Safe.new b_nb)
      have KK10 : Keep h0 h99 ([] : List Addr) := KK9.trans K99 all0
      have Zs10 : n0 ≤ h99.size := Nat.le_trans Zs9 K99.1
      have F_value_nb : Fld Z h99 nb "com/example/firm_roles/firmroles/Name" "value" "Ljava/lang/String;" .null := D99 (Or.inr w_93) (ty := (.object "java/lang/String")) (by decide)
      have cc110 : Steps p.tables e below S0' (T99.setTop (mkF m 172 #[.val (.int p1), .val (.int p2), .val (.int p3), .val (.int p4), .val (.int p5), .val (.int li), .val (.int hi), .val (.int t1), .val (.int t2), .val (.int ca), .val (.int cb), .val (.int cc), .val (.int cd), .val (.ref x), .val (.ref y), .unset, .unset, .unset, .unset, .unset, .unset] [(.ref y), (.ref nb), (.ref nb), (.int li), (.ref na), (.ref g), (.ref g)])) := Steps.trans (cc98.trans (st99 _ (Steps.refl _))) (by
        refine XS.dup X99.here hx rfl (own_d hby at_169) rfl rfl ?_
        refine XS.aload X99.here hx rfl (own_d hby at_170) rfl rfl ?_
        exact Steps.refl _)
      have fa109 : Old Z n0 h99 := ((fa91.keep Kq97 (allS gn_na all0)).keep K99 all0)
      have fa111 : Exa Z h99 y "java/lang/String" := (fa103.keep K99)
      have fa112 : Fld Z h99 y "java/lang/String" "coder" "B" (.int (0 : Int32)) := ((((Cy.keep K76 nin0).keep K83 nin0).keep Kq97 (ninS ne_y_na nin0)).keep K99 nin0)
      have fa113 : Fld Z h99 y "java/lang/String" "value" "[B" (.ref ty) := ((((Vy.keep K76 nin0).keep K83 nin0).keep Kq97 (ninS ne_y_na nin0)).keep K99 nin0)
      have fa114 : Arv Z h99 ty ky .byte (Int32.ofNat ([cc] : List Int32).length) (own_by ([cc] : List Int32)) (.int (0 : Int32)) := (fa104.keep K99 nin0)
      obtain ⟨_, _, ⟨T115, L115, k115, n115⟩, -, X115, hs115, gr115, ⟨Lc115, hQ115, l115, y115, z115, CH115⟩, st115⟩ := X99.specialBackS hx (y := (⟨"com/example/firm_roles/firmroles/Name", "<init>", "(Ljava/lang/String;)V"⟩ : MethodName)) rfl hown97 (mvT hZ97 w_37) (mvT hZ97 w_38) (mvT hZ97 w_39) (by decide) (backOfSH (W := 5) (own_nin l Z a0 hw nb y ([cc] : List Int32) z f h99 n0 Zs10 fa109 O2 P5 O4 hf A99 F_value_nb gn_nb (⟨fa111, fa112, py, ly, ty, ky, fa113, fa114⟩ : own_Lat Z h99 y ([cc] : List Int32)) (Or.inl ⟨cc, rfl, kcc⟩)) hZ97 w_39 w_36 (by decide) (by decide) hEL C108.1) (g := (mkF m 172 #[.val (.int p1), .val (.int p2), .val (.int p3), .val (.int p4), .val (.int p5), .val (.int li), .val (.int hi), .val (.int t1), .val (.int t2), .val (.int ca), .val (.int cb), .val (.int cc), .val (.int cd), .val (.ref x), .val (.ref y), .unset, .unset, .unset, .unset, .unset, .unset] [(.ref y), (.ref nb), (.ref nb), (.int li), (.ref na), (.ref g), (.ref g)])) rfl (by rw [hml]; rfl) (Steps.refl _) (a := nb) (argsL := [(.ref y)]) (rest := [(.ref nb), (.int li), (.ref na), (.ref g), (.ref g)]) (lenOf own_pd10 rfl) rfl (by show 2 * 0 + _ ≤ _; exact Nat.le_of_eq rfl) (own_d hby at_172) (fun _ _ => ⟨rfl, e99, Nat.le_of_ble_eq_true rfl, Nat.le_of_ble_eq_true rfl⟩)
      dsimp only [Pt.U, Pt.locs, Pt.cells, Pt.slots] at X115 l115 y115 z115 st115 hQ115 hs115 gr115 CH115
      subst l115 y115 z115
      obtain ⟨rfl, Nq115, Kq115, Fq115⟩ := hQ115
      obtain ⟨Xr115, hS115, hZ115, hown115⟩ := rebS hS97 (by rw [e99]; exact (Nat.le_trans hk97 K99.1)) X115 hs115 gr115 hZ97 hown97
      have hk115 : T115.heap.size ≤ T115.heap.size := Nat.le_refl _
      have C115 := C108.trans CH115
      have N115 := Fr.app N97 Nq115
      have KK11 : Keep h0 T115.heap ([] : List Addr) := KK10.trans Kq115 (allS (Or.inr s0_nb) all0)
      have Zs11 : n0 ≤ T115.heap.size := Nat.le_trans Zs10 Kq115.1
      have e115 : T115.heap = T115.heap := rfl
      have cc117 : Steps p.tables e below S0' (T115.setTop (mkF m 177 #[.val (.int p1), .val (.int p2), .val (.int p3), .val (.int p4), .val (.int p5), .val (.int li), .val (.int hi), .val (.int t1), .val (.int t2), .val (.int ca), .val (.int cb), .val (.int cc), .val (.int cd), .val (.ref x), .val (.ref y), .unset, .unset, .unset, .unset, .unset, .unset] [(.int hi), (.ref nb), (.int li), (.ref na), (.ref g), (.ref g)])) := Steps.trans (Steps.trans cc110 st115) (by
        refine XS.iload Xr115.here hx rfl (own_d hby at_175) rfl ?_
        exact Steps.refl _)
      have fa116 : Exa Z T115.heap g "com/example/firm_roles/firmroles/RoleRange" := ((fa105.keep K99).keep Kq115)
      have fa118 : Fld Z T115.heap g "com/example/firm_roles/firmroles/RoleRange" "low" "Lcom/example/firm_roles/firmroles/Name;" .null := ((((F_low_g.keep K83 nin0).keep Kq97 (ninS ne_g_na nin0)).keep K99 nin0).keep Kq115 (ninS ne_g_nb nin0))
      have fa119 : Fld Z T115.heap g "com/example/firm_roles/firmroles/RoleRange" "lowIncluded" "Z" (.int (0 : Int32)) := ((((F_lowIncluded_g.keep K83 nin0).keep Kq97 (ninS ne_g_na nin0)).keep K99 nin0).keep Kq115 (ninS ne_g_nb nin0))
      have fa120 : Fld Z T115.heap g "com/example/firm_roles/firmroles/RoleRange" "high" "Lcom/example/firm_roles/firmroles/Name;" .null := ((((F_high_g.keep K83 nin0).keep Kq97 (ninS ne_g_na nin0)).keep K99 nin0).keep Kq115 (ninS ne_g_nb nin0))
      have fa121 : Fld Z T115.heap g "com/example/firm_roles/firmroles/RoleRange" "highIncluded" "Z" (.int (0 : Int32)) := ((((F_highIncluded_g.keep K83 nin0).keep Kq97 (ninS ne_g_na nin0)).keep K99 nin0).keep Kq115 (ninS ne_g_nb nin0))
      obtain ⟨_, _, ⟨T122, L122, k122, n122⟩, -, X122, ⟨Lc122, hQ122, l122, y122, z122⟩, st122⟩ := Xr115.specialBack hx (y := (⟨"com/example/firm_roles/firmroles/RoleRange", "<init>", "(Lcom/example/firm_roles/firmroles/Name;ZLcom/example/firm_roles/firmroles/Name;Z)V"⟩ : MethodName)) rfl hown115 (mvT hZ115 w_94) (mvT hZ115 w_95) (mvT hZ115 w_96) (by decide) (backOf (W := 1) (own_rin l Z a0 hw g na nb li hi T115.heap n0 Zs11 fa116 fa118 fa119 fa120 fa121 gn_g zli zhi) hZ115 w_96 w_33 (by decide) (by decide)) (g := (mkF m 177 #[.val (.int p1), .val (.int p2), .val (.int p3), .val (.int p4), .val (.int p5), .val (.int li), .val (.int hi), .val (.int t1), .val (.int t2), .val (.int ca), .val (.int cb), .val (.int cc), .val (.int cd), .val (.ref x), .val (.ref y), .unset, .unset, .unset, .unset, .unset, .unset] [(.int hi), (.ref nb), (.int li), (.ref na), (.ref g), (.ref g)])) rfl (by rw [hml]; rfl) (Steps.refl _) (a := g) (argsL := [(.ref na), (.int li), (.ref nb), (.int hi)]) (rest := [(.ref g)]) (lenOf own_pd25 rfl) rfl (by show 2 * 0 + _ ≤ _; exact Nat.le_of_eq rfl) (own_d hby at_177) (fun _ _ => ⟨rfl, e115, Nat.le_of_ble_eq_true rfl, Nat.le_of_ble_eq_true rfl⟩)
      dsimp only [Pt.U, Pt.locs, Pt.cells, Pt.slots] at X122 l122 y122 z122 st122 hQ122
      subst l122 y122 z122
      obtain ⟨rfl, Nq122, Kq122, G1122, G2122, G3122, G4122⟩ := hQ122
      have N122 := Fr.app N115 Nq122
      have sf123 := D89.safe A76.lt sf_g
      have lt124 := Nat.lt_of_lt_of_le A76.lt K83.1
      have sf125 := CH97.safe lt124 sf123
      have lt126 := Nat.lt_of_lt_of_le lt124 Kq97.1
      have sf127 := D107.safe lt126 sf125
      have lt128 := Nat.lt_of_lt_of_le lt126 K99.1
      have sf129 := CH115.safe lt128 sf127
      have lt130 := Nat.lt_of_lt_of_le lt128 Kq115.1
      have D131 := CHr.keep Kq122 (sfS sf129 sf0) C115.1
      have C132 := C115.trans D131
      have KK12 : Keep h0 T122.heap ([] : List Addr) := KK11.trans Kq122 (allS (Or.inr s0_g) all0)
      have Zs12 : n0 ≤ T122.heap.size := Nat.le_trans Zs11 Kq122.1
      have e122 : T122.heap = T122.heap := rfl
      have cc134 : Steps p.tables e below S0' (T122.setTop (mkF m 184 #[.val (.int p1), .val (.int p2), .val (.int p3), .val (.int p4), .val (.int p5), .val (.int li), .val (.int hi), .val (.int t1), .val (.int t2), .val (.int ca), .val (.int cb), .val (.int cc), .val (.int cd), .val (.ref x), .val (.ref y), .val (.ref g), .unset, .unset, .unset, .unset, .unset] [(.ref g)])) := Steps.trans (Steps.trans cc117 st122) (by
        refine XS.astore X122.here hx rfl (own_d hby at_180) rfl rfl rfl ?_
        refine XS.aload X122.here hx rfl (own_d hby at_182) rfl rfl ?_
        exact Steps.refl _)
      have fa133 : Old Z n0 T122.heap := ((fa109.keep Kq115 (allS gn_nb all0)).keep Kq122 (allS gn_g all0))
      have fa135 : Exa Z T122.heap na "com/example/firm_roles/firmroles/Name" := (((fa106.keep K99).keep Kq115).keep Kq122)
      have fa136 : Fld Z T122.heap na "com/example/firm_roles/firmroles/Name" "value" "Ljava/lang/String;" (.ref x) := (((Fq97.keep K99 nin0).keep Kq115 (ninS ne_na_nb nin0)).keep Kq122 (ninS (Ne.symm ne_g_na) nin0))
      have fa137 : Exa Z T122.heap nb "com/example/firm_roles/firmroles/Name" := ((A99.keep Kq115).keep Kq122)
      have fa138 : Fld Z T122.heap nb "com/example/firm_roles/firmroles/Name" "value" "Ljava/lang/String;" (.ref y) := (Fq115.keep Kq122 (ninS (Ne.symm ne_g_nb) nin0))
      have fa139 : Exa Z T122.heap x "java/lang/String" := (((fa100.keep K99).keep Kq115).keep Kq122)
      have fa140 : Fld Z T122.heap x "java/lang/String" "coder" "B" (.int (0 : Int32)) := ((((fa94.keep Kq97 (ninS ne_x_na nin0)).keep K99 nin0).keep Kq115 (ninS ne_x_nb nin0)).keep Kq122 (ninS ne_x_g nin0))
      have fa141 : Fld Z T122.heap x "java/lang/String" "value" "[B" (.ref tx) := ((((fa95.keep Kq97 (ninS ne_x_na nin0)).keep K99 nin0).keep Kq115 (ninS ne_x_nb nin0)).keep Kq122 (ninS ne_x_g nin0))
      have fa142 : Arv Z T122.heap tx kx .byte (Int32.ofNat ([ca, cb] : List Int32).length) (own_by ([ca, cb] : List Int32)) (.int (0 : Int32)) := (((fa102.keep K99 nin0).keep Kq115 (ninS ne_tx_nb nin0)).keep Kq122 (ninS ne_tx_g nin0))
      have fa143 : Exa Z T122.heap y "java/lang/String" := ((fa111.keep Kq115).keep Kq122)
      have fa144 : Fld Z T122.heap y "java/lang/String" "coder" "B" (.int (0 : Int32)) := ((fa112.keep Kq115 (ninS ne_y_nb nin0)).keep Kq122 (ninS ne_y_g nin0))
      have fa145 : Fld Z T122.heap y "java/lang/String" "value" "[B" (.ref ty) := ((fa113.keep Kq115 (ninS ne_y_nb nin0)).keep Kq122 (ninS ne_y_g nin0))
      have fa146 : Arv Z T122.heap ty ky .byte (Int32.ofNat ([cc] : List Int32).length) (own_by ([cc] : List Int32)) (.int (0 : Int32)) := ((fa114.keep Kq115 (ninS ne_ty_nb nin0)).keep Kq122 (ninS ne_ty_g nin0))
      have fa147 : Exa Z T122.heap g "com/example/firm_roles/firmroles/RoleRange" := (fa116.keep Kq122)
      obtain ⟨cq148, kq148, qa148, qb148, qc148⟩ := isOf hZ115 e122 fa147
      obtain ⟨_, _, ⟨T148, L148, k148, n148⟩, -, X148, hs148, gr148, ⟨Lc148, hQ148, l148, y148, z148, CH148⟩, st148⟩ := X122.virtualBackS hx (y := (⟨"com/example/firm_roles/firmroles/RoleRange", "toString", "()Ljava/lang/String;"⟩ : MethodName)) (z := (⟨"com/example/firm_roles/firmroles/RoleRange", "toString", "()Ljava/lang/String;"⟩ : MethodName)) hown115 (mvT hZ115 w_106) (mvT hZ115 w_107) (notFace_of_selects (args := #[]) (mvT hZ115 w_109)) (mvT hZ115 w_109) (mvT hZ115 w_108) (by decide) (backOfSH (W := 0) (own_rts l Z a0 hw g na nb x y li hi ([ca, cb] : List Int32) ([cc] : List Int32) z T122.heap n0 Zs12 fa133 O2 P5 G1122 G2122 G3122 G4122 fa135 fa136 fa137 fa138 (⟨fa139, fa140, px, lx, tx, kx, fa141, fa142⟩ : own_Lat Z T122.heap x ([ca, cb] : List Int32)) (⟨fa143, fa144, py, ly, ty, ky, fa145, fa146⟩ : own_Lat Z T122.heap y ([cc] : List Int32)) (by simp) (by simp)) hZ115 w_110 w_33 (by decide) (by decide) hEL C132.1) qa148 qc148 (g := (mkF m 184 #[.val (.int p1), .val (.int p2), .val (.int p3), .val (.int p4), .val (.int p5), .val (.int li), .val (.int hi), .val (.int t1), .val (.int t2), .val (.int ca), .val (.int cb), .val (.int cc), .val (.int cd), .val (.ref x), .val (.ref y), .val (.ref g), .unset, .unset, .unset, .unset, .unset] [(.ref g)])) rfl (by rw [hml]; rfl) (Steps.refl _) (argsL := []) (rest := []) (lenOf own_pd23 rfl) rfl (by show 2 * 0 + _ ≤ _; exact Nat.le_of_eq rfl) (own_d hby at_184) (fun _ _ => ⟨rfl, e122, Nat.le_of_ble_eq_true rfl, Nat.le_of_ble_eq_true rfl⟩)
      dsimp only [Pt.U, Pt.locs, Pt.cells, Pt.slots] at X148 l148 y148 z148 st148 hQ148 hs148 gr148 CH148
      subst l148 y148 z148
      obtain ⟨s1, rfl, Nq148, Kq148, Hs148⟩ := hQ148
      obtain ⟨Xr148, hS148, hZ148, hown148⟩ := rebS hS115 (by rw [e122]; exact (Nat.le_trans hk115 Kq122.1)) X148 hs148 gr148 hZ115 hown115
      have hk148 : T148.heap.size ≤ T148.heap.size := Nat.le_refl _
      have C148 := C132.trans CH148
      have N148 := Fr.app N122 Nq148
      have KK13 : Keep h0 T148.heap ([] : List Addr) := KK12.trans Kq148 all0
      have Zs13 : n0 ≤ T148.heap.size := Nat.le_trans Zs12 Kq148.1
      have e148 : T148.heap = T148.heap := rfl
      obtain ⟨lc, elc⟩ : ∃ w : Int32, w = (if li = 0 then 40 else 91) := ⟨_, rfl⟩
      obtain ⟨hc, ehc⟩ : ∃ w : Int32, w = (if hi = 0 then 41 else 93) := ⟨_, rfl⟩
      have Hf : own_Lat Z T148.heap s1 ([lc, ca, cb, 44, 32, cc, hc] : List Int32) := by rw [elc, ehc]; exact Hs148
      have Hg := Hf
      obtain ⟨Es1, Cs1, ps1, ls1, ts1, ks1, Vs1, As1⟩ := Hg
      have cc150 : Steps p.tables e below S0' (T148.setTop (mkF m 224 #[.val (.int p1), .val (.int p2), .val (.int p3), .val (.int p4), .val (.int p5), .val (.int li), .val (.int hi), .val (.int t1), .val (.int t2), .val (.int ca), .val (.int cb), .val (.int cc), .val (.int cd), .val (.ref x), .val (.ref y), .val (.ref g), .val (.ref s1), .val (.int 2), .val (.int 1), .val (.int (((2 : Int32) + (1 : Int32)) + (4 : Int32))), .unset] [(.ref s1)])) := Steps.trans (Steps.trans cc134 st148) (by
        refine XS.astore Xr148.here hx rfl (own_d hby at_187) rfl rfl rfl ?_
        refine XS.iload Xr148.here hx rfl (own_d hby at_189) rfl ?_
        refine XS.ifNo Xr148.here hx rfl (own_d hby at_191) rfl (i0_eq_f qt1) ?_
        refine iconstV Xr148.here hx rfl 2 (own_d hby at_194) (by decide) ?_
        refine XS.goto Xr148.here hx rfl (pc0 := 195) rfl (own_d hby at_195) (by decide) rfl ?_
        refine XS.istore Xr148.here hx rfl (own_d hby at_199) rfl rfl ?_
        refine XS.iload Xr148.here hx rfl (own_d hby at_201) rfl ?_
        refine XS.ifYes Xr148.here hx rfl (pc0 := 203) rfl (own_d hby at_203) rfl (i0_eq_t qt2) (by decide) rfl ?_
        refine iconstV Xr148.here hx rfl 1 (own_d hby at_210) (by decide) ?_
        refine XS.istore Xr148.here hx rfl (own_d hby at_211) rfl rfl ?_
        refine XS.iload Xr148.here hx rfl (own_d hby at_213) rfl ?_
        refine XS.iload Xr148.here hx rfl (own_d hby at_215) rfl ?_
        refine XS.iadd Xr148.here hx rfl (own_d hby at_217) rfl ?_
        refine iconstV Xr148.here hx rfl 4 (own_d hby at_218) (by decide) ?_
        refine XS.iadd Xr148.here hx rfl (own_d hby at_219) rfl ?_
        refine XS.istore Xr148.here hx rfl (own_d hby at_220) rfl rfl ?_
        refine XS.aload Xr148.here hx rfl (own_d hby at_222) rfl rfl ?_
        exact Steps.refl _)
      have fa149 : Old Z n0 T148.heap := (fa133.keep Kq148 all0)
      obtain ⟨cq151, kq151, qa151, qb151, qc151⟩ := isOf hZ148 e148 Es1
      obtain ⟨_, _, ⟨T151, L151, k151, n151⟩, -, X151, ⟨Lc151, hQ151, l151, y151, z151⟩, st151⟩ := Xr148.virtualBack hx (y := (⟨"java/lang/String", "length", "()I"⟩ : MethodName)) (z := (⟨"java/lang/String", "length", "()I"⟩ : MethodName)) hown148 (mvT hZ148 w_220) (mvT hZ148 w_59) (notFace_of_selects (args := #[]) (mvT hZ148 w_61)) (mvT hZ148 w_61) (mvT hZ148 w_60) (by decide) (StrChars.Road.lenW (W := 0) hZ148 hw_wordsLen (kI := 4) w_15 Es1 Vs1 Cs1 As1 (StrChars.Road.codOf (cs := ([lc, ca, cb, 44, 32, cc, hc] : List Int32)) rfl (fun c hc => (ps1 c hc).2)) (own_up _ ps1) (O2.ext fa149.2) P5 ls1 (by decide) (by decide)) qa151 qc151 (g := (mkF m 224 #[.val (.int p1), .val (.int p2), .val (.int p3), .val (.int p4), .val (.int p5), .val (.int li), .val (.int hi), .val (.int t1), .val (.int t2), .val (.int ca), .val (.int cb), .val (.int cc), .val (.int cd), .val (.ref x), .val (.ref y), .val (.ref g), .val (.ref s1), .val (.int 2), .val (.int 1), .val (.int (((2 : Int32) + (1 : Int32)) + (4 : Int32))), .unset] [(.ref s1)])) rfl (by rw [hml]; rfl) (Steps.refl _) (argsL := []) (rest := []) (lenOf own_pd6 rfl) rfl (by show 2 * 0 + _ ≤ _; exact Nat.le_of_eq rfl) (own_d hby at_224) (fun _ _ => ⟨rfl, e148, Nat.le_of_ble_eq_true rfl, Nat.le_of_ble_eq_true rfl⟩)
      dsimp only [Pt.U, Pt.locs, Pt.cells, Pt.slots] at X151 l151 y151 z151 st151 hQ151
      subst l151 y151 z151
      obtain ⟨rfl, rfl, eq151⟩ := hQ151
      have N151 := Fr.app N148 (Fr.nil n0)
      have e151 : T151.heap = T148.heap := eq151
      have cc152 : Steps p.tables e below S0' (T151.setTop (mkF m 227 #[.val (.int p1), .val (.int p2), .val (.int p3), .val (.int p4), .val (.int p5), .val (.int li), .val (.int hi), .val (.int t1), .val (.int t2), .val (.int ca), .val (.int cb), .val (.int cc), .val (.int cd), .val (.ref x), .val (.ref y), .val (.ref g), .val (.ref s1), .val (.int 2), .val (.int 1), .val (.int (((2 : Int32) + (1 : Int32)) + (4 : Int32))), .unset] [(.int 7)])) := (Steps.trans cc150 st151)
      have cc153 : Steps p.tables e below S0' (T151.setTop (mkF m 237 #[.val (.int p1), .val (.int p2), .val (.int p3), .val (.int p4), .val (.int p5), .val (.int li), .val (.int hi), .val (.int t1), .val (.int t2), .val (.int ca), .val (.int cb), .val (.int cc), .val (.int cd), .val (.ref x), .val (.ref y), .val (.ref g), .val (.ref s1), .val (.int 2), .val (.int 1), .val (.int (((2 : Int32) + (1 : Int32)) + (4 : Int32))), .unset] [(.int 0), (.ref s1)])) := Steps.trans cc152 (by
        refine XS.iload X151.here hx rfl (own_d hby at_227) rfl ?_
        refine XS.icmpYes X151.here hx rfl (pc0 := 229) rfl (own_d hby at_229) rfl (ii_eq_t (by decide)) (by decide) rfl ?_
        refine XS.aload X151.here hx rfl (own_d hby at_234) rfl rfl ?_
        refine iconstV X151.here hx rfl 0 (own_d hby at_236) (by decide) ?_
        exact Steps.refl _)
      have cz154 : Steps p.tables e below S0' (T151.setTop (mkF m 237 #[.val (.int p1), .val (.int p2), .val (.int p3), .val (.int p4), .val (.int p5), .val (.int li), .val (.int hi), .val (.int t1), .val (.int t2), .val (.int ca), .val (.int cb), .val (.int cc), .val (.int cd), .val (.ref x), .val (.ref y), .val (.ref g), .val (.ref s1), .val (.int 2), .val (.int 1), .val (.int (((2 : Int32) + (1 : Int32)) + (4 : Int32))), .unset] [(.int (Int32.ofNat 0)), (.ref s1)])) := cc153
      obtain ⟨cq155, kq155, qa155, qb155, qc155⟩ := isOf hZ148 e151 Es1
      obtain ⟨_, _, ⟨T155, L155, k155, n155⟩, -, X155, ⟨Lc155, hQ155, l155, y155, z155⟩, st155⟩ := X151.virtualBack hx (y := (⟨"java/lang/String", "charAt", "(I)C"⟩ : MethodName)) (z := (⟨"java/lang/String", "charAt", "(I)C"⟩ : MethodName)) hown148 (mvT hZ148 w_221) (mvT hZ148 w_69) (notFace_of_selects (args := #[]) (mvT hZ148 w_71)) (mvT hZ148 w_71) (mvT hZ148 w_70) (by decide) (backOf (W := 0) (own_chl l Z a0 hw s1 ([lc, ca, cb, 44, 32, cc, hc] : List Int32) 0 z f T148.heap n0 Zs13 fa149 O2 P5 O4 hf Hf (by simp)) hZ148 w_72 w_7 (by decide) (by decide)) qa155 qc155 (g := (mkF m 237 #[.val (.int p1), .val (.int p2), .val (.int p3), .val (.int p4), .val (.int p5), .val (.int li), .val (.int hi), .val (.int t1), .val (.int t2), .val (.int ca), .val (.int cb), .val (.int cc), .val (.int cd), .val (.ref x), .val (.ref y), .val (.ref g), .val (.ref s1), .val (.int 2), .val (.int 1), .val (.int (((2 : Int32) + (1 : Int32)) + (4 : Int32))), .unset] [(.int (Int32.ofNat 0)), (.ref s1)])) rfl (by rw [hml]; rfl) (Steps.refl _) (argsL := [(.int (Int32.ofNat 0))]) (rest := []) (lenOf own_pd7 rfl) rfl (by show 2 * 0 + _ ≤ _; exact Nat.le_of_eq rfl) (own_d hby at_237) (fun _ _ => ⟨rfl, e151, Nat.le_of_ble_eq_true rfl, Nat.le_of_ble_eq_true rfl⟩)
      dsimp only [Pt.U, Pt.locs, Pt.cells, Pt.slots] at X155 l155 y155 z155 st155 hQ155
      subst l155 y155 z155
      obtain ⟨rfl, Nq155, eq155⟩ := hQ155
      have N155 := Fr.app N151 Nq155
      have e155 : T155.heap = T148.heap := eq155
      have cc156 : Steps p.tables e below S0' (T155.setTop (mkF m 242 #[.val (.int p1), .val (.int p2), .val (.int p3), .val (.int p4), .val (.int p5), .val (.int li), .val (.int hi), .val (.int t1), .val (.int t2), .val (.int ca), .val (.int cb), .val (.int cc), .val (.int cd), .val (.ref x), .val (.ref y), .val (.ref g), .val (.ref s1), .val (.int 2), .val (.int 1), .val (.int (((2 : Int32) + (1 : Int32)) + (4 : Int32))), .unset] [(.int li), (.int lc)])) := Steps.trans (Steps.trans cz154 st155) (by
        refine XS.iload X155.here hx rfl (own_d hby at_240) rfl ?_
        exact Steps.refl _)
      obtain ⟨w157, hw157, c_w157⟩ : ∃ w : Int32, w = (if li = 0 then 40 else 91) ∧ Steps p.tables e below S0' (T155.setTop (mkF m 252 #[.val (.int p1), .val (.int p2), .val (.int p3), .val (.int p4), .val (.int p5), .val (.int li), .val (.int hi), .val (.int t1), .val (.int t2), .val (.int ca), .val (.int cb), .val (.int cc), .val (.int cd), .val (.ref x), .val (.ref y), .val (.ref g), .val (.ref s1), .val (.int 2), .val (.int 1), .val (.int (((2 : Int32) + (1 : Int32)) + (4 : Int32))), .unset] [(.int w), (.int lc)])) := by
        by_cases hq : li = 0
        · refine ⟨40, (if_pos hq).symm, cc156.trans ?_⟩
          refine XS.ifYes X155.here hx rfl (pc0 := 242) rfl (own_d hby at_242) rfl (i0_eq_t hq) (by decide) rfl ?_
          refine bipushV X155.here hx rfl 40 (own_d hby at_250) (by decide) ?_
          exact Steps.refl _
        · refine ⟨91, (if_neg hq).symm, cc156.trans ?_⟩
          refine XS.ifNo X155.here hx rfl (own_d hby at_242) rfl (i0_eq_f hq) ?_
          refine bipushV X155.here hx rfl 91 (own_d hby at_245) (by decide) ?_
          refine XS.goto X155.here hx rfl (pc0 := 247) rfl (own_d hby at_247) (by decide) rfl ?_
          exact Steps.refl _
      have cc158 : Steps p.tables e below S0' (T155.setTop (mkF m 260 #[.val (.int p1), .val (.int p2), .val (.int p3), .val (.int p4), .val (.int p5), .val (.int li), .val (.int hi), .val (.int t1), .val (.int t2), .val (.int ca), .val (.int cb), .val (.int cc), .val (.int cd), .val (.ref x), .val (.ref y), .val (.ref g), .val (.ref s1), .val (.int 2), .val (.int 1), .val (.int (((2 : Int32) + (1 : Int32)) + (4 : Int32))), .unset] [(.int 1), (.ref s1)])) := Steps.trans c_w157 (by
        refine XS.icmpYes X155.here hx rfl (pc0 := 252) rfl (own_d hby at_252) rfl (ii_eq_t (elc.trans hw157.symm)) (by decide) rfl ?_
        refine XS.aload X155.here hx rfl (own_d hby at_257) rfl rfl ?_
        refine iconstV X155.here hx rfl 1 (own_d hby at_259) (by decide) ?_
        exact Steps.refl _)
      have cz159 : Steps p.tables e below S0' (T155.setTop (mkF m 260 #[.val (.int p1), .val (.int p2), .val (.int p3), .val (.int p4), .val (.int p5), .val (.int li), .val (.int hi), .val (.int t1), .val (.int t2), .val (.int ca), .val (.int cb), .val (.int cc), .val (.int cd), .val (.ref x), .val (.ref y), .val (.ref g), .val (.ref s1), .val (.int 2), .val (.int 1), .val (.int (((2 : Int32) + (1 : Int32)) + (4 : Int32))), .unset] [(.int (Int32.ofNat 1)), (.ref s1)])) := cc158
      obtain ⟨cq160, kq160, qa160, qb160, qc160⟩ := isOf hZ148 e155 Es1
      obtain ⟨_, _, ⟨T160, L160, k160, n160⟩, -, X160, ⟨Lc160, hQ160, l160, y160, z160⟩, st160⟩ := X155.virtualBack hx (y := (⟨"java/lang/String", "charAt", "(I)C"⟩ : MethodName)) (z := (⟨"java/lang/String", "charAt", "(I)C"⟩ : MethodName)) hown148 (mvT hZ148 w_221) (mvT hZ148 w_69) (notFace_of_selects (args := #[]) (mvT hZ148 w_71)) (mvT hZ148 w_71) (mvT hZ148 w_70) (by decide) (backOf (W := 0) (own_chl l Z a0 hw s1 ([lc, ca, cb, 44, 32, cc, hc] : List Int32) 1 z f T148.heap n0 Zs13 fa149 O2 P5 O4 hf Hf (by simp)) hZ148 w_72 w_7 (by decide) (by decide)) qa160 qc160 (g := (mkF m 260 #[.val (.int p1), .val (.int p2), .val (.int p3), .val (.int p4), .val (.int p5), .val (.int li), .val (.int hi), .val (.int t1), .val (.int t2), .val (.int ca), .val (.int cb), .val (.int cc), .val (.int cd), .val (.ref x), .val (.ref y), .val (.ref g), .val (.ref s1), .val (.int 2), .val (.int 1), .val (.int (((2 : Int32) + (1 : Int32)) + (4 : Int32))), .unset] [(.int (Int32.ofNat 1)), (.ref s1)])) rfl (by rw [hml]; rfl) (Steps.refl _) (argsL := [(.int (Int32.ofNat 1))]) (rest := []) (lenOf own_pd7 rfl) rfl (by show 2 * 0 + _ ≤ _; exact Nat.le_of_eq rfl) (own_d hby at_260) (fun _ _ => ⟨rfl, e155, Nat.le_of_ble_eq_true rfl, Nat.le_of_ble_eq_true rfl⟩)
      dsimp only [Pt.U, Pt.locs, Pt.cells, Pt.slots] at X160 l160 y160 z160 st160 hQ160
      subst l160 y160 z160
      obtain ⟨rfl, Nq160, eq160⟩ := hQ160
      have N160 := Fr.app N155 Nq160
      have e160 : T160.heap = T148.heap := eq160
      have cc161 : Steps p.tables e below S0' (T160.setTop (mkF m 278 #[.val (.int p1), .val (.int p2), .val (.int p3), .val (.int p4), .val (.int p5), .val (.int li), .val (.int hi), .val (.int t1), .val (.int t2), .val (.int ca), .val (.int cb), .val (.int cc), .val (.int cd), .val (.ref x), .val (.ref y), .val (.ref g), .val (.ref s1), .val (.int 2), .val (.int 1), .val (.int (((2 : Int32) + (1 : Int32)) + (4 : Int32))), .unset] [(.int 2), (.ref s1)])) := Steps.trans (Steps.trans cz159 st160) (by
        refine XS.iload X160.here hx rfl (own_d hby at_263) rfl ?_
        refine XS.icmpYes X160.here hx rfl (pc0 := 265) rfl (own_d hby at_265) rfl (ii_eq_t rfl) (by decide) rfl ?_
        refine XS.iload X160.here hx rfl (own_d hby at_270) rfl ?_
        refine XS.ifNo X160.here hx rfl (own_d hby at_272) rfl (i0_eq_f qt1) ?_
        refine XS.aload X160.here hx rfl (own_d hby at_275) rfl rfl ?_
        refine iconstV X160.here hx rfl 2 (own_d hby at_277) (by decide) ?_
        exact Steps.refl _)
      have cz162 : Steps p.tables e below S0' (T160.setTop (mkF m 278 #[.val (.int p1), .val (.int p2), .val (.int p3), .val (.int p4), .val (.int p5), .val (.int li), .val (.int hi), .val (.int t1), .val (.int t2), .val (.int ca), .val (.int cb), .val (.int cc), .val (.int cd), .val (.ref x), .val (.ref y), .val (.ref g), .val (.ref s1), .val (.int 2), .val (.int 1), .val (.int (((2 : Int32) + (1 : Int32)) + (4 : Int32))), .unset] [(.int (Int32.ofNat 2)), (.ref s1)])) := cc161
      obtain ⟨cq163, kq163, qa163, qb163, qc163⟩ := isOf hZ148 e160 Es1
      obtain ⟨_, _, ⟨T163, L163, k163, n163⟩, -, X163, ⟨Lc163, hQ163, l163, y163, z163⟩, st163⟩ := X160.virtualBack hx (y := (⟨"java/lang/String", "charAt", "(I)C"⟩ : MethodName)) (z := (⟨"java/lang/String", "charAt", "(I)C"⟩ : MethodName)) hown148 (mvT hZ148 w_221) (mvT hZ148 w_69) (notFace_of_selects (args := #[]) (mvT hZ148 w_71)) (mvT hZ148 w_71) (mvT hZ148 w_70) (by decide) (backOf (W := 0) (own_chl l Z a0 hw s1 ([lc, ca, cb, 44, 32, cc, hc] : List Int32) 2 z f T148.heap n0 Zs13 fa149 O2 P5 O4 hf Hf (by simp)) hZ148 w_72 w_7 (by decide) (by decide)) qa163 qc163 (g := (mkF m 278 #[.val (.int p1), .val (.int p2), .val (.int p3), .val (.int p4), .val (.int p5), .val (.int li), .val (.int hi), .val (.int t1), .val (.int t2), .val (.int ca), .val (.int cb), .val (.int cc), .val (.int cd), .val (.ref x), .val (.ref y), .val (.ref g), .val (.ref s1), .val (.int 2), .val (.int 1), .val (.int (((2 : Int32) + (1 : Int32)) + (4 : Int32))), .unset] [(.int (Int32.ofNat 2)), (.ref s1)])) rfl (by rw [hml]; rfl) (Steps.refl _) (argsL := [(.int (Int32.ofNat 2))]) (rest := []) (lenOf own_pd7 rfl) rfl (by show 2 * 0 + _ ≤ _; exact Nat.le_of_eq rfl) (own_d hby at_278) (fun _ _ => ⟨rfl, e160, Nat.le_of_ble_eq_true rfl, Nat.le_of_ble_eq_true rfl⟩)
      dsimp only [Pt.U, Pt.locs, Pt.cells, Pt.slots] at X163 l163 y163 z163 st163 hQ163
      subst l163 y163 z163
      obtain ⟨rfl, Nq163, eq163⟩ := hQ163
      have N163 := Fr.app N160 Nq163
      have e163 : T163.heap = T148.heap := eq163
      have cc164 : Steps p.tables e below S0' (T163.setTop (mkF m 298 #[.val (.int p1), .val (.int p2), .val (.int p3), .val (.int p4), .val (.int p5), .val (.int li), .val (.int hi), .val (.int t1), .val (.int t2), .val (.int ca), .val (.int cb), .val (.int cc), .val (.int cd), .val (.ref x), .val (.ref y), .val (.ref g), .val (.ref s1), .val (.int 2), .val (.int 1), .val (.int (((2 : Int32) + (1 : Int32)) + (4 : Int32))), .val (.int ((1 : Int32) + (2 : Int32)))] [(.int ((1 : Int32) + (2 : Int32))), (.ref s1)])) := Steps.trans (Steps.trans cz162 st163) (by
        refine XS.iload X163.here hx rfl (own_d hby at_281) rfl ?_
        refine XS.icmpYes X163.here hx rfl (pc0 := 283) rfl (own_d hby at_283) rfl (ii_eq_t rfl) (by decide) rfl ?_
        refine iconstV X163.here hx rfl 1 (own_d hby at_288) (by decide) ?_
        refine XS.iload X163.here hx rfl (own_d hby at_289) rfl ?_
        refine XS.iadd X163.here hx rfl (own_d hby at_291) rfl ?_
        refine XS.istore X163.here hx rfl (own_d hby at_292) rfl rfl ?_
        refine XS.aload X163.here hx rfl (own_d hby at_294) rfl rfl ?_
        refine XS.iload X163.here hx rfl (own_d hby at_296) rfl ?_
        exact Steps.refl _)
      have cz165 : Steps p.tables e below S0' (T163.setTop (mkF m 298 #[.val (.int p1), .val (.int p2), .val (.int p3), .val (.int p4), .val (.int p5), .val (.int li), .val (.int hi), .val (.int t1), .val (.int t2), .val (.int ca), .val (.int cb), .val (.int cc), .val (.int cd), .val (.ref x), .val (.ref y), .val (.ref g), .val (.ref s1), .val (.int 2), .val (.int 1), .val (.int (((2 : Int32) + (1 : Int32)) + (4 : Int32))), .val (.int ((1 : Int32) + (2 : Int32)))] [(.int (Int32.ofNat 3)), (.ref s1)])) := cc164
      obtain ⟨cq166, kq166, qa166, qb166, qc166⟩ := isOf hZ148 e163 Es1
      obtain ⟨_, _, ⟨T166, L166, k166, n166⟩, -, X166, ⟨Lc166, hQ166, l166, y166, z166⟩, st166⟩ := X163.virtualBack hx (y := (⟨"java/lang/String", "charAt", "(I)C"⟩ : MethodName)) (z := (⟨"java/lang/String", "charAt", "(I)C"⟩ : MethodName)) hown148 (mvT hZ148 w_221) (mvT hZ148 w_69) (notFace_of_selects (args := #[]) (mvT hZ148 w_71)) (mvT hZ148 w_71) (mvT hZ148 w_70) (by decide) (backOf (W := 0) (own_chl l Z a0 hw s1 ([lc, ca, cb, 44, 32, cc, hc] : List Int32) 3 z f T148.heap n0 Zs13 fa149 O2 P5 O4 hf Hf (by simp)) hZ148 w_72 w_7 (by decide) (by decide)) qa166 qc166 (g := (mkF m 298 #[.val (.int p1), .val (.int p2), .val (.int p3), .val (.int p4), .val (.int p5), .val (.int li), .val (.int hi), .val (.int t1), .val (.int t2), .val (.int ca), .val (.int cb), .val (.int cc), .val (.int cd), .val (.ref x), .val (.ref y), .val (.ref g), .val (.ref s1), .val (.int 2), .val (.int 1), .val (.int (((2 : Int32) + (1 : Int32)) + (4 : Int32))), .val (.int ((1 : Int32) + (2 : Int32)))] [(.int (Int32.ofNat 3)), (.ref s1)])) rfl (by rw [hml]; rfl) (Steps.refl _) (argsL := [(.int (Int32.ofNat 3))]) (rest := []) (lenOf own_pd7 rfl) rfl (by show 2 * 0 + _ ≤ _; exact Nat.le_of_eq rfl) (own_d hby at_298) (fun _ _ => ⟨rfl, e163, Nat.le_of_ble_eq_true rfl, Nat.le_of_ble_eq_true rfl⟩)
      dsimp only [Pt.U, Pt.locs, Pt.cells, Pt.slots] at X166 l166 y166 z166 st166 hQ166
      subst l166 y166 z166
      obtain ⟨rfl, Nq166, eq166⟩ := hQ166
      have N166 := Fr.app N163 Nq166
      have e166 : T166.heap = T148.heap := eq166
      have cc167 : Steps p.tables e below S0' (T166.setTop (mkF m 312 #[.val (.int p1), .val (.int p2), .val (.int p3), .val (.int p4), .val (.int p5), .val (.int li), .val (.int hi), .val (.int t1), .val (.int t2), .val (.int ca), .val (.int cb), .val (.int cc), .val (.int cd), .val (.ref x), .val (.ref y), .val (.ref g), .val (.ref s1), .val (.int 2), .val (.int 1), .val (.int (((2 : Int32) + (1 : Int32)) + (4 : Int32))), .val (.int ((1 : Int32) + (2 : Int32)))] [(.int (((1 : Int32) + (2 : Int32)) + (1 : Int32))), (.ref s1)])) := Steps.trans (Steps.trans cz165 st166) (by
        refine bipushV X166.here hx rfl 44 (own_d hby at_301) (by decide) ?_
        refine XS.icmpNo X166.here hx rfl (own_d hby at_303) rfl (ii_ne_f rfl) ?_
        refine XS.aload X166.here hx rfl (own_d hby at_306) rfl rfl ?_
        refine XS.iload X166.here hx rfl (own_d hby at_308) rfl ?_
        refine iconstV X166.here hx rfl 1 (own_d hby at_310) (by decide) ?_
        refine XS.iadd X166.here hx rfl (own_d hby at_311) rfl ?_
        exact Steps.refl _)
      have cz168 : Steps p.tables e below S0' (T166.setTop (mkF m 312 #[.val (.int p1), .val (.int p2), .val (.int p3), .val (.int p4), .val (.int p5), .val (.int li), .val (.int hi), .val (.int t1), .val (.int t2), .val (.int ca), .val (.int cb), .val (.int cc), .val (.int cd), .val (.ref x), .val (.ref y), .val (.ref g), .val (.ref s1), .val (.int 2), .val (.int 1), .val (.int (((2 : Int32) + (1 : Int32)) + (4 : Int32))), .val (.int ((1 : Int32) + (2 : Int32)))] [(.int (Int32.ofNat 4)), (.ref s1)])) := cc167
      obtain ⟨cq169, kq169, qa169, qb169, qc169⟩ := isOf hZ148 e166 Es1
      obtain ⟨_, _, ⟨T169, L169, k169, n169⟩, -, X169, ⟨Lc169, hQ169, l169, y169, z169⟩, st169⟩ := X166.virtualBack hx (y := (⟨"java/lang/String", "charAt", "(I)C"⟩ : MethodName)) (z := (⟨"java/lang/String", "charAt", "(I)C"⟩ : MethodName)) hown148 (mvT hZ148 w_221) (mvT hZ148 w_69) (notFace_of_selects (args := #[]) (mvT hZ148 w_71)) (mvT hZ148 w_71) (mvT hZ148 w_70) (by decide) (backOf (W := 0) (own_chl l Z a0 hw s1 ([lc, ca, cb, 44, 32, cc, hc] : List Int32) 4 z f T148.heap n0 Zs13 fa149 O2 P5 O4 hf Hf (by simp)) hZ148 w_72 w_7 (by decide) (by decide)) qa169 qc169 (g := (mkF m 312 #[.val (.int p1), .val (.int p2), .val (.int p3), .val (.int p4), .val (.int p5), .val (.int li), .val (.int hi), .val (.int t1), .val (.int t2), .val (.int ca), .val (.int cb), .val (.int cc), .val (.int cd), .val (.ref x), .val (.ref y), .val (.ref g), .val (.ref s1), .val (.int 2), .val (.int 1), .val (.int (((2 : Int32) + (1 : Int32)) + (4 : Int32))), .val (.int ((1 : Int32) + (2 : Int32)))] [(.int (Int32.ofNat 4)), (.ref s1)])) rfl (by rw [hml]; rfl) (Steps.refl _) (argsL := [(.int (Int32.ofNat 4))]) (rest := []) (lenOf own_pd7 rfl) rfl (by show 2 * 0 + _ ≤ _; exact Nat.le_of_eq rfl) (own_d hby at_312) (fun _ _ => ⟨rfl, e166, Nat.le_of_ble_eq_true rfl, Nat.le_of_ble_eq_true rfl⟩)
      dsimp only [Pt.U, Pt.locs, Pt.cells, Pt.slots] at X169 l169 y169 z169 st169 hQ169
      subst l169 y169 z169
      obtain ⟨rfl, Nq169, eq169⟩ := hQ169
      have N169 := Fr.app N166 Nq169
      have e169 : T169.heap = T148.heap := eq169
      have cc170 : Steps p.tables e below S0' (T169.setTop (mkF m 328 #[.val (.int p1), .val (.int p2), .val (.int p3), .val (.int p4), .val (.int p5), .val (.int li), .val (.int hi), .val (.int t1), .val (.int t2), .val (.int ca), .val (.int cb), .val (.int cc), .val (.int cd), .val (.ref x), .val (.ref y), .val (.ref g), .val (.ref s1), .val (.int 2), .val (.int 1), .val (.int (((2 : Int32) + (1 : Int32)) + (4 : Int32))), .val (.int ((1 : Int32) + (2 : Int32)))] [(.int (((1 : Int32) + (2 : Int32)) + (2 : Int32))), (.ref s1)])) := Steps.trans (Steps.trans cz168 st169) (by
        refine bipushV X169.here hx rfl 32 (own_d hby at_315) (by decide) ?_
        refine XS.icmpYes X169.here hx rfl (pc0 := 317) rfl (own_d hby at_317) rfl (ii_eq_t rfl) (by decide) rfl ?_
        refine XS.aload X169.here hx rfl (own_d hby at_322) rfl rfl ?_
        refine XS.iload X169.here hx rfl (own_d hby at_324) rfl ?_
        refine iconstV X169.here hx rfl 2 (own_d hby at_326) (by decide) ?_
        refine XS.iadd X169.here hx rfl (own_d hby at_327) rfl ?_
        exact Steps.refl _)
      have cz171 : Steps p.tables e below S0' (T169.setTop (mkF m 328 #[.val (.int p1), .val (.int p2), .val (.int p3), .val (.int p4), .val (.int p5), .val (.int li), .val (.int hi), .val (.int t1), .val (.int t2), .val (.int ca), .val (.int cb), .val (.int cc), .val (.int cd), .val (.ref x), .val (.ref y), .val (.ref g), .val (.ref s1), .val (.int 2), .val (.int 1), .val (.int (((2 : Int32) + (1 : Int32)) + (4 : Int32))), .val (.int ((1 : Int32) + (2 : Int32)))] [(.int (Int32.ofNat 5)), (.ref s1)])) := cc170
      obtain ⟨cq172, kq172, qa172, qb172, qc172⟩ := isOf hZ148 e169 Es1
      obtain ⟨_, _, ⟨T172, L172, k172, n172⟩, -, X172, ⟨Lc172, hQ172, l172, y172, z172⟩, st172⟩ := X169.virtualBack hx (y := (⟨"java/lang/String", "charAt", "(I)C"⟩ : MethodName)) (z := (⟨"java/lang/String", "charAt", "(I)C"⟩ : MethodName)) hown148 (mvT hZ148 w_221) (mvT hZ148 w_69) (notFace_of_selects (args := #[]) (mvT hZ148 w_71)) (mvT hZ148 w_71) (mvT hZ148 w_70) (by decide) (backOf (W := 0) (own_chl l Z a0 hw s1 ([lc, ca, cb, 44, 32, cc, hc] : List Int32) 5 z f T148.heap n0 Zs13 fa149 O2 P5 O4 hf Hf (by simp)) hZ148 w_72 w_7 (by decide) (by decide)) qa172 qc172 (g := (mkF m 328 #[.val (.int p1), .val (.int p2), .val (.int p3), .val (.int p4), .val (.int p5), .val (.int li), .val (.int hi), .val (.int t1), .val (.int t2), .val (.int ca), .val (.int cb), .val (.int cc), .val (.int cd), .val (.ref x), .val (.ref y), .val (.ref g), .val (.ref s1), .val (.int 2), .val (.int 1), .val (.int (((2 : Int32) + (1 : Int32)) + (4 : Int32))), .val (.int ((1 : Int32) + (2 : Int32)))] [(.int (Int32.ofNat 5)), (.ref s1)])) rfl (by rw [hml]; rfl) (Steps.refl _) (argsL := [(.int (Int32.ofNat 5))]) (rest := []) (lenOf own_pd7 rfl) rfl (by show 2 * 0 + _ ≤ _; exact Nat.le_of_eq rfl) (own_d hby at_328) (fun _ _ => ⟨rfl, e169, Nat.le_of_ble_eq_true rfl, Nat.le_of_ble_eq_true rfl⟩)
      dsimp only [Pt.U, Pt.locs, Pt.cells, Pt.slots] at X172 l172 y172 z172 st172 hQ172
      subst l172 y172 z172
      obtain ⟨rfl, Nq172, eq172⟩ := hQ172
      have N172 := Fr.app N169 Nq172
      have e172 : T172.heap = T148.heap := eq172
      have cc173 : Steps p.tables e below S0' (T172.setTop (mkF m 365 #[.val (.int p1), .val (.int p2), .val (.int p3), .val (.int p4), .val (.int p5), .val (.int li), .val (.int hi), .val (.int t1), .val (.int t2), .val (.int ca), .val (.int cb), .val (.int cc), .val (.int cd), .val (.ref x), .val (.ref y), .val (.ref g), .val (.ref s1), .val (.int 2), .val (.int 1), .val (.int (((2 : Int32) + (1 : Int32)) + (4 : Int32))), .val (.int ((1 : Int32) + (2 : Int32)))] [(.int ((((2 : Int32) + (1 : Int32)) + (4 : Int32)) - (1 : Int32))), (.ref s1)])) := Steps.trans (Steps.trans cz171 st172) (by
        refine XS.iload X172.here hx rfl (own_d hby at_331) rfl ?_
        refine XS.icmpYes X172.here hx rfl (pc0 := 333) rfl (own_d hby at_333) rfl (ii_eq_t rfl) (by decide) rfl ?_
        refine XS.iload X172.here hx rfl (own_d hby at_338) rfl ?_
        refine XS.ifYes X172.here hx rfl (pc0 := 340) rfl (own_d hby at_340) rfl (i0_eq_t qt2) (by decide) rfl ?_
        refine XS.aload X172.here hx rfl (own_d hby at_359) rfl rfl ?_
        refine XS.iload X172.here hx rfl (own_d hby at_361) rfl ?_
        refine iconstV X172.here hx rfl 1 (own_d hby at_363) (by decide) ?_
        refine XS.isub X172.here hx rfl (own_d hby at_364) rfl ?_
        exact Steps.refl _)
      have cz174 : Steps p.tables e below S0' (T172.setTop (mkF m 365 #[.val (.int p1), .val (.int p2), .val (.int p3), .val (.int p4), .val (.int p5), .val (.int li), .val (.int hi), .val (.int t1), .val (.int t2), .val (.int ca), .val (.int cb), .val (.int cc), .val (.int cd), .val (.ref x), .val (.ref y), .val (.ref g), .val (.ref s1), .val (.int 2), .val (.int 1), .val (.int (((2 : Int32) + (1 : Int32)) + (4 : Int32))), .val (.int ((1 : Int32) + (2 : Int32)))] [(.int (Int32.ofNat 6)), (.ref s1)])) := cc173
      obtain ⟨cq175, kq175, qa175, qb175, qc175⟩ := isOf hZ148 e172 Es1
      obtain ⟨_, _, ⟨T175, L175, k175, n175⟩, -, X175, ⟨Lc175, hQ175, l175, y175, z175⟩, st175⟩ := X172.virtualBack hx (y := (⟨"java/lang/String", "charAt", "(I)C"⟩ : MethodName)) (z := (⟨"java/lang/String", "charAt", "(I)C"⟩ : MethodName)) hown148 (mvT hZ148 w_221) (mvT hZ148 w_69) (notFace_of_selects (args := #[]) (mvT hZ148 w_71)) (mvT hZ148 w_71) (mvT hZ148 w_70) (by decide) (backOf (W := 0) (own_chl l Z a0 hw s1 ([lc, ca, cb, 44, 32, cc, hc] : List Int32) 6 z f T148.heap n0 Zs13 fa149 O2 P5 O4 hf Hf (by simp)) hZ148 w_72 w_7 (by decide) (by decide)) qa175 qc175 (g := (mkF m 365 #[.val (.int p1), .val (.int p2), .val (.int p3), .val (.int p4), .val (.int p5), .val (.int li), .val (.int hi), .val (.int t1), .val (.int t2), .val (.int ca), .val (.int cb), .val (.int cc), .val (.int cd), .val (.ref x), .val (.ref y), .val (.ref g), .val (.ref s1), .val (.int 2), .val (.int 1), .val (.int (((2 : Int32) + (1 : Int32)) + (4 : Int32))), .val (.int ((1 : Int32) + (2 : Int32)))] [(.int (Int32.ofNat 6)), (.ref s1)])) rfl (by rw [hml]; rfl) (Steps.refl _) (argsL := [(.int (Int32.ofNat 6))]) (rest := []) (lenOf own_pd7 rfl) rfl (by show 2 * 0 + _ ≤ _; exact Nat.le_of_eq rfl) (own_d hby at_365) (fun _ _ => ⟨rfl, e172, Nat.le_of_ble_eq_true rfl, Nat.le_of_ble_eq_true rfl⟩)
      dsimp only [Pt.U, Pt.locs, Pt.cells, Pt.slots] at X175 l175 y175 z175 st175 hQ175
      subst l175 y175 z175
      obtain ⟨rfl, Nq175, eq175⟩ := hQ175
      have N175 := Fr.app N172 Nq175
      have e175 : T175.heap = T148.heap := eq175
      have cc176 : Steps p.tables e below S0' (T175.setTop (mkF m 370 #[.val (.int p1), .val (.int p2), .val (.int p3), .val (.int p4), .val (.int p5), .val (.int li), .val (.int hi), .val (.int t1), .val (.int t2), .val (.int ca), .val (.int cb), .val (.int cc), .val (.int cd), .val (.ref x), .val (.ref y), .val (.ref g), .val (.ref s1), .val (.int 2), .val (.int 1), .val (.int (((2 : Int32) + (1 : Int32)) + (4 : Int32))), .val (.int ((1 : Int32) + (2 : Int32)))] [(.int hi), (.int hc)])) := Steps.trans (Steps.trans cz174 st175) (by
        refine XS.iload X175.here hx rfl (own_d hby at_368) rfl ?_
        exact Steps.refl _)
      obtain ⟨w177, hw177, c_w177⟩ : ∃ w : Int32, w = (if hi = 0 then 41 else 93) ∧ Steps p.tables e below S0' (T175.setTop (mkF m 380 #[.val (.int p1), .val (.int p2), .val (.int p3), .val (.int p4), .val (.int p5), .val (.int li), .val (.int hi), .val (.int t1), .val (.int t2), .val (.int ca), .val (.int cb), .val (.int cc), .val (.int cd), .val (.ref x), .val (.ref y), .val (.ref g), .val (.ref s1), .val (.int 2), .val (.int 1), .val (.int (((2 : Int32) + (1 : Int32)) + (4 : Int32))), .val (.int ((1 : Int32) + (2 : Int32)))] [(.int w), (.int hc)])) := by
        by_cases hq : hi = 0
        · refine ⟨41, (if_pos hq).symm, cc176.trans ?_⟩
          refine XS.ifYes X175.here hx rfl (pc0 := 370) rfl (own_d hby at_370) rfl (i0_eq_t hq) (by decide) rfl ?_
          refine bipushV X175.here hx rfl 41 (own_d hby at_378) (by decide) ?_
          exact Steps.refl _
        · refine ⟨93, (if_neg hq).symm, cc176.trans ?_⟩
          refine XS.ifNo X175.here hx rfl (own_d hby at_370) rfl (i0_eq_f hq) ?_
          refine bipushV X175.here hx rfl 93 (own_d hby at_373) (by decide) ?_
          refine XS.goto X175.here hx rfl (pc0 := 375) rfl (own_d hby at_375) (by decide) rfl ?_
          exact Steps.refl _
      have cc178 : Steps p.tables e below S0' (T175.setTop (mkF m 388 #[.val (.int p1), .val (.int p2), .val (.int p3), .val (.int p4), .val (.int p5), .val (.int li), .val (.int hi), .val (.int t1), .val (.int t2), .val (.int ca), .val (.int cb), .val (.int cc), .val (.int cd), .val (.ref x), .val (.ref y), .val (.ref g), .val (.ref s1), .val (.int 2), .val (.int 1), .val (.int (((2 : Int32) + (1 : Int32)) + (4 : Int32))), .val (.int ((1 : Int32) + (2 : Int32)))] [(.int 1)])) := Steps.trans c_w177 (by
        refine XS.icmpNo X175.here hx rfl (own_d hby at_380) rfl (ii_ne_f (ehc.trans hw177.symm)) ?_
        refine iconstV X175.here hx rfl 1 (own_d hby at_383) (by decide) ?_
        refine XS.goto X175.here hx rfl (pc0 := 384) rfl (own_d hby at_384) (by decide) rfl ?_
        exact Steps.refl _)
      have cE := cc178
      rw [hS0'] at cE
      obtain ⟨fs, hr_, hrun, hended, hE⟩ := X175.leaveW hS148 (by rw [e175]; exact hk148) (v := some (.int 1)) (fun h => by rw [Bd.returns] at h; cases h)
      have CE := C148.trans (CHv.at X175 hZ148 hEL C148.1)
      refine ⟨_, _, cE.trans (X175.ireturnOut hx Bd.returns (rfl) (by simp) (own_d hby at_388) hr_), hrun, hended, _, _, rfl, ?_, ?_, hE.1, hE.2.1, hE.2.2.1, hE.2.2.2.mono (by first | decide | omega) (by first | decide | omega)⟩
      · show Q_own_law Z p1 p2 p3 p4 p5 z f h0 n0 _ T175.heap _
        rw [e175]
        exact ⟨rfl, N175⟩
      · rw [hh]
        show CHr Z EL s.vm h0 T175.vm T175.heap
        rw [e175]
        exact CE
    · skip
      have cc69 : Steps p.tables e below S0' (T59.setTop (mkF m 121 #[.val (.int p1), .val (.int p2), .val (.int p3), .val (.int p4), .val (.int p5), .val (.int li), .val (.int hi), .val (.int t1), .val (.int t2), .val (.int ca), .val (.int cb), .val (.int cc), .val (.int cd), .val (.ref x), .unset, .unset, .unset, .unset, .unset, .unset, .unset] [])) := Steps.trans cc68 (by
        refine XS.ifNo X59.here hx rfl (own_d hby at_118) rfl (i0_eq_f qt2) ?_
        exact Steps.refl _)
      obtain ⟨T70, h70, X70, e70, E70, A70, D70, -, st70⟩ := newO X59 hx hZ hown w_222 w_15 w_7 e59 (g := (mkF m 121 #[.val (.int p1), .val (.int p2), .val (.int p3), .val (.int p4), .val (.int p5), .val (.int li), .val (.int hi), .val (.int t1), .val (.int t2), .val (.int ca), .val (.int cb), .val (.int cc), .val (.int cd), .val (.ref x), .unset, .unset, .unset, .unset, .unset, .unset, .unset] [])) rfl (own_d hby at_121) (by decide) (by decide)
      obtain ⟨y, g_y⟩ : ∃ z, z = T59.heap.size := ⟨_, rfl⟩
      rw [← g_y] at A70 D70 st70
      have K70 := (Keep.refl T59.heap ([] : List Addr)).ext E70
      have b_y : T59.heap.size ≤ y := (Nat.le_of_eq g_y.symm)
      have gn_y : n0 ≤ y := Nat.le_trans Zs5 b_y
      have s0_y : h0.size ≤ y := Nat.le_trans KK5.1 b_y
      have ne_x_y : x ≠ y := Nat.ne_of_lt (Nat.lt_of_lt_of_le Ex.lt b_y)
      have fa71 : Arv Z T59.heap ba_x k39 .char (2 : Int32) ([(.int (nar .char ca)), (.int (nar .char cb))]) (.int (0 : Int32)) := (V51.keep Kq59 (ninS (Ne.symm ne_x_ba_x) nin0))
      have ne_ba_x_y : ba_x ≠ y := Nat.ne_of_lt (Nat.lt_of_lt_of_le fa71.lt b_y)
      have ne_tx_y : tx ≠ y := Nat.ne_of_lt (Nat.lt_of_lt_of_le Ax.lt b_y)
      have D72 := CHr.ext E70 C67.1
      have C73 := C67.trans D72
      have sf_y : Safe Z EL s.vm h70 y := Safe.ext E70 C67.1 (Safe.new b_y)
      have KK6 : Keep h0 h70 ([] : List Addr) := KK5.trans K70 all0
      have Zs6 : n0 ≤ h70.size := Nat.le_trans Zs5 K70.1
      have F_value_y : Fld Z h70 y "java/lang/String" "value" "[B" .null := D70 (Or.inr w_28) (ty := (.array .byte)) (by decide)
      have F_coder_y : Fld Z h70 y "java/lang/String" "coder" "B" (.int (0 : Int32)) := D70 (Or.inr w_30) (ty := .byte) (by decide)
      have cc74 : Steps p.tables e below S0' (T70.setTop (mkF m 126 #[.val (.int p1), .val (.int p2), .val (.int p3), .val (.int p4), .val (.int p5), .val (.int li), .val (.int hi), .val (.int t1), .val (.int t2), .val (.int ca), .val (.int cb), .val (.int cc), .val (.int cd), .val (.ref x), .unset, .unset, .unset, .unset, .unset, .unset, .unset] [(.int 2), (.ref y), (.ref y)])) := Steps.trans (cc69.trans (st70 _ (Steps.refl _))) (by
        refine XS.dup X70.here hx rfl (own_d hby at_124) rfl rfl ?_
        refine iconstV X70.here hx rfl 2 (own_d hby at_125) (by decide) ?_
        exact Steps.refl _)
      obtain ⟨T75, h75, k75, X75, e75, E75, A75, st75⟩ := newP X70 hx hZ (aty := .char) w_223 e70 (g := (mkF m 126 #[.val (.int p1), .val (.int p2), .val (.int p3), .val (.int p4), .val (.int p5), .val (.int li), .val (.int hi), .val (.int t1), .val (.int t2), .val (.int ca), .val (.int cb), .val (.int cc), .val (.int cd), .val (.ref x), .unset, .unset, .unset, .unset, .unset, .unset, .unset] [(.int 2), (.ref y), (.ref y)])) rfl (own_d hby at_126) rfl (by decide) (cap := 2) (by decide) (by decide) (by decide) (by decide)
      obtain ⟨ba_y, g_ba_y⟩ : ∃ z, z = h70.size := ⟨_, rfl⟩
      rw [← g_ba_y] at A75 st75
      have K75 := (Keep.refl h70 ([] : List Addr)).ext E75
      have b_ba_y : h70.size ≤ ba_y := (Nat.le_of_eq g_ba_y.symm)
      have gn_ba_y : n0 ≤ ba_y := Nat.le_trans Zs6 b_ba_y
      have s0_ba_y : h0.size ≤ ba_y := Nat.le_trans KK6.1 b_ba_y
      have fa76 : Exa Z h70 x "java/lang/String" := (Ex.keep K70)
      have ne_x_ba_y : x ≠ ba_y := Nat.ne_of_lt (Nat.lt_of_lt_of_le fa76.lt b_ba_y)
      have fa77 : Arv Z h70 ba_x k39 .char (2 : Int32) ([(.int (nar .char ca)), (.int (nar .char cb))]) (.int (0 : Int32)) := (fa71.keep K70 nin0)
      have ne_ba_x_ba_y : ba_x ≠ ba_y := Nat.ne_of_lt (Nat.lt_of_lt_of_le fa77.lt b_ba_y)
      have fa78 : Arv Z h70 tx kx .byte (Int32.ofNat ([ca, cb] : List Int32).length) (own_by ([ca, cb] : List Int32)) (.int (0 : Int32)) := (Ax.keep K70 nin0)
      have ne_tx_ba_y : tx ≠ ba_y := Nat.ne_of_lt (Nat.lt_of_lt_of_le fa78.lt b_ba_y)
      have ne_y_ba_y : y ≠ ba_y := Nat.ne_of_lt (Nat.lt_of_lt_of_le A70.lt b_ba_y)
      have D79 := CHr.ext E75 C73.1
      have C80 := C73.trans D79
      have sf_ba_y : Safe Z EL s.vm h75 ba_y := Safe.ext E75 C73.1 (Safe.new b_ba_y)
      have KK7 : Keep h0 h75 ([] : List Addr) := KK6.trans K75 all0
      have Zs7 : n0 ≤ h75.size := Nat.le_trans Zs6 K75.1
      have V_ba_y : Arv Z h75 ba_y k75 .char (2 : Int32) [(.int (0 : Int32)), (.int (0 : Int32))] (.int (0 : Int32)) := (Arv.new A75 (by decide)).pad (pad_rep [] (.int (0 : Int32)) 2)
      have cc81 : Steps p.tables e below S0' (T75.setTop (mkF m 132 #[.val (.int p1), .val (.int p2), .val (.int p3), .val (.int p4), .val (.int p5), .val (.int li), .val (.int hi), .val (.int t1), .val (.int t2), .val (.int ca), .val (.int cb), .val (.int cc), .val (.int cd), .val (.ref x), .unset, .unset, .unset, .unset, .unset, .unset, .unset] [(.int cc), (.int 0), (.ref ba_y), (.ref ba_y), (.ref y), (.ref y)])) := Steps.trans (cc74.trans (st75 _ (Steps.refl _))) (by
        refine XS.dup X75.here hx rfl (own_d hby at_128) rfl rfl ?_
        refine iconstV X75.here hx rfl 0 (own_d hby at_129) (by decide) ?_
        refine XS.iload X75.here hx rfl (own_d hby at_130) rfl ?_
        exact Steps.refl _)
      obtain ⟨clu82, Aru82, qu82, Su82, Ngu82, Hsu82, Gsu82⟩ := id V_ba_y
      have inu82 : ¬ ((0 : Int32) < 0 ∨ clu82.slots.size ≤ (0 : Int32).toNatClampNeg) := inb_of Su82 ⟨by decide, by decide⟩
      obtain ⟨T83, h83, X83, e83, W83, st83⟩ := stC X75 hx hZ e75 Aru82 (j := (0 : Int32)) inu82 (g := (mkF m 132 #[.val (.int p1), .val (.int p2), .val (.int p3), .val (.int p4), .val (.int p5), .val (.int li), .val (.int hi), .val (.int t1), .val (.int t2), .val (.int ca), .val (.int cb), .val (.int cc), .val (.int cd), .val (.ref x), .unset, .unset, .unset, .unset, .unset, .unset, .unset] [(.int cc), (.int 0), (.ref ba_y), (.ref ba_y), (.ref y), (.ref y)])) rfl rfl (own_d hby at_132)
      have K83 := Keep.of_wr W83
      have N83 := Fr.snoc X83 N59 gn_ba_y
      have D84 := CHr.wr W83 sf_ba_y C80.1
      have C85 := C80.trans D84
      have KK8 : Keep h0 h83 ([] : List Addr) := KK7.trans K83 (allS (Or.inr s0_ba_y) all0)
      have Zs8 : n0 ≤ h83.size := Nat.le_trans Zs7 K83.1
      have V83 : Arv Z h83 ba_y k75 .char (2 : Int32) ([(.int (nar .char cc)), (.int (0 : Int32))]) (.int (0 : Int32)) := Arv.set Aru82 qu82 Su82 Ngu82 Hsu82 Gsu82 (fits_nar_char _) W83 0 rfl (Nat.le_of_ble_eq_true rfl)
      have sf86 := D84.safe A75.lt sf_ba_y
      have lt87 := Nat.lt_of_lt_of_le A75.lt K83.1
      have cc88 : Steps p.tables e below S0' (T83.setTop (mkF m 137 #[.val (.int p1), .val (.int p2), .val (.int p3), .val (.int p4), .val (.int p5), .val (.int li), .val (.int hi), .val (.int t1), .val (.int t2), .val (.int ca), .val (.int cb), .val (.int cc), .val (.int cd), .val (.ref x), .unset, .unset, .unset, .unset, .unset, .unset, .unset] [(.int cd), (.int 1), (.ref ba_y), (.ref ba_y), (.ref y), (.ref y)])) := Steps.trans (cc81.trans (st83 _ (Steps.refl _))) (by
        refine XS.dup X83.here hx rfl (own_d hby at_133) rfl rfl ?_
        refine iconstV X83.here hx rfl 1 (own_d hby at_134) (by decide) ?_
        refine XS.iload X83.here hx rfl (own_d hby at_135) rfl ?_
        exact Steps.refl _)
      obtain ⟨clu89, Aru89, qu89, Su89, Ngu89, Hsu89, Gsu89⟩ := id V83
      have inu89 : ¬ ((1 : Int32) < 0 ∨ clu89.slots.size ≤ (1 : Int32).toNatClampNeg) := inb_of Su89 ⟨by decide, by decide⟩
      obtain ⟨T90, h90, X90, e90, W90, st90⟩ := stC X83 hx hZ e83 Aru89 (j := (1 : Int32)) inu89 (g := (mkF m 137 #[.val (.int p1), .val (.int p2), .val (.int p3), .val (.int p4), .val (.int p5), .val (.int li), .val (.int hi), .val (.int t1), .val (.int t2), .val (.int ca), .val (.int cb), .val (.int cc), .val (.int cd), .val (.ref x), .unset, .unset, .unset, .unset, .unset, .unset, .unset] [(.int cd), (.int 1), (.ref ba_y), (.ref ba_y), (.ref y), (.ref y)])) rfl rfl (own_d hby at_137)
      have K90 := Keep.of_wr W90
      have N90 := Fr.snoc X90 N83 gn_ba_y
      have D91 := CHr.wr W90 sf86 C85.1
      have C92 := C85.trans D91
      have KK9 : Keep h0 h90 ([] : List Addr) := KK8.trans K90 (allS (Or.inr s0_ba_y) all0)
      have Zs9 : n0 ≤ h90.size := Nat.le_trans Zs8 K90.1
      have V90 : Arv Z h90 ba_y k75 .char (2 : Int32) ([(.int (nar .char cc)), (.int (nar .char cd))]) (.int (0 : Int32)) := Arv.set Aru89 qu89 Su89 Ngu89 Hsu89 Gsu89 (fits_nar_char _) W90 1 rfl (Nat.le_of_ble_eq_true rfl)
      have hpy : ∀ w ∈ ([cc, cd] : List Int32), ¬ w < 0 ∧ ¬ (255 : Int32) < w := by
        intro w hw'
        simp only [List.mem_cons, List.not_mem_nil, or_false] at hw'
        rcases hw' with rfl | rfl
        · exact gcc
        · exact gcd
      have cc94 : Steps p.tables e below S0' (T90.setTop (mkF m 138 #[.val (.int p1), .val (.int p2), .val (.int p3), .val (.int p4), .val (.int p5), .val (.int li), .val (.int hi), .val (.int t1), .val (.int t2), .val (.int ca), .val (.int cb), .val (.int cc), .val (.int cd), .val (.ref x), .unset, .unset, .unset, .unset, .unset, .unset, .unset] [(.ref ba_y), (.ref y), (.ref y)])) := (cc88.trans (st90 _ (Steps.refl _)))
      have fa93 : Exa Z h90 y "java/lang/String" := (((A70.keep K75).keep K83).keep K90)
      have fa95 : Fld Z h90 y "java/lang/String" "value" "[B" .null := (((F_value_y.keep K75 nin0).keep K83 (ninS ne_y_ba_y nin0)).keep K90 (ninS ne_y_ba_y nin0))
      have fa96 : Fld Z h90 y "java/lang/String" "coder" "B" (.int (0 : Int32)) := (((F_coder_y.keep K75 nin0).keep K83 (ninS ne_y_ba_y nin0)).keep K90 (ninS ne_y_ba_y nin0))
      have fa97 : Old Z n0 h90 := (((((fa58.keep Kq59 (allS gn_x all0)).keep K70 all0).keep K75 all0).keep K83 (allS gn_ba_y all0)).keep K90 (allS gn_ba_y all0))
      obtain ⟨_, _, ⟨T98, L98, k98, n98⟩, -, X98, ⟨Lc98, hQ98, l98, y98, z98⟩, st98⟩ := X90.specialBack hx (y := (⟨"java/lang/String", "<init>", "([C)V"⟩ : MethodName)) rfl hown (mvT hZ w_224) (mvT hZ w_225) (mvT hZ w_226) (by decide) (StrChars.Road.backV (W := 1) hZ hw_words (kI := 4) w_15 (cs := ([cc, cd] : List Int32)) (bs := (([cc, cd] : List Int32)).map (fun c => c.toInt8.toInt32)) (n := 2) gn_y Zs9 fa93 fa95 fa96 (own_arv_eq V90 (by simp only [own_nar gcc, own_nar gcd]; rfl) : Arv Z h90 ba_y _ .char (2 : Int32) ((([cc, cd] : List Int32)).map Value.int) (.int (0 : Int32))) (O2.ext fa97.2) P5 rfl rfl (by decide) (by decide) hpy rfl (by decide) (by decide)) (g := (mkF m 138 #[.val (.int p1), .val (.int p2), .val (.int p3), .val (.int p4), .val (.int p5), .val (.int li), .val (.int hi), .val (.int t1), .val (.int t2), .val (.int ca), .val (.int cb), .val (.int cc), .val (.int cd), .val (.ref x), .unset, .unset, .unset, .unset, .unset, .unset, .unset] [(.ref ba_y), (.ref y), (.ref y)])) rfl (by rw [hml]; rfl) (Steps.refl _) (a := y) (argsL := [(.ref ba_y)]) (rest := [(.ref y)]) (lenOf own_pd26 rfl) rfl (by show 2 * 0 + _ ≤ _; exact Nat.le_of_eq rfl) (own_d hby at_138) (fun _ _ => ⟨rfl, e90, Nat.le_of_ble_eq_true rfl, Nat.le_of_ble_eq_true rfl⟩)
      dsimp only [Pt.U, Pt.locs, Pt.cells, Pt.slots] at X98 l98 y98 z98 st98 hQ98
      subst l98 y98 z98
      obtain ⟨rfl, Nq98, Kq98, Eq98, Cq98, tt98, kb98, q198, q298, q398, Vq98, Aq98⟩ := hQ98
      have N98 := Fr.app N90 Nq98
      have sf99 := D79.safe A70.lt sf_y
      have lt100 := Nat.lt_of_lt_of_le A70.lt K75.1
      have sf101 := D84.safe lt100 sf99
      have lt102 := Nat.lt_of_lt_of_le lt100 K83.1
      have sf103 := D91.safe lt102 sf101
      have lt104 := Nat.lt_of_lt_of_le lt102 K90.1
      have D105 := CHr.keep Kq98 (sfS sf103 sf0) C92.1
      have C106 := C92.trans D105
      have KK10 : Keep h0 T98.heap ([] : List Addr) := KK9.trans Kq98 (allS (Or.inr s0_y) all0)
      have Zs10 : n0 ≤ T98.heap.size := Nat.le_trans Zs9 Kq98.1
      have e98 : T98.heap = T98.heap := rfl
      have Hy : own_Lat Z T98.heap y ([cc, cd] : List Int32) := ⟨Eq98, Cq98, hpy, by simp, tt98, kb98, Vq98, Aq98⟩
      obtain ⟨Ey, Cy, py, ly, ty, ky, Vy, Ay⟩ := Hy
      have cc107 : Steps p.tables e below S0' (T98.setTop (mkF m 151 #[.val (.int p1), .val (.int p2), .val (.int p3), .val (.int p4), .val (.int p5), .val (.int li), .val (.int hi), .val (.int t1), .val (.int t2), .val (.int ca), .val (.int cb), .val (.int cc), .val (.int cd), .val (.ref x), .val (.ref y), .unset, .unset, .unset, .unset, .unset, .unset] [])) := Steps.trans (Steps.trans cc94 st98) (by
        refine XS.goto X98.here hx rfl (pc0 := 141) rfl (own_d hby at_141) (by decide) rfl ?_
        refine XS.astore X98.here hx rfl (own_d hby at_149) rfl rfl rfl ?_
        exact Steps.refl _)
      obtain ⟨T108, h108, X108, e108, E108, A108, D108, -, st108⟩ := newO X98 hx hZ hown w_31 w_32 w_33 e98 (g := (mkF m 151 #[.val (.int p1), .val (.int p2), .val (.int p3), .val (.int p4), .val (.int p5), .val (.int li), .val (.int hi), .val (.int t1), .val (.int t2), .val (.int ca), .val (.int cb), .val (.int cc), .val (.int cd), .val (.ref x), .val (.ref y), .unset, .unset, .unset, .unset, .unset, .unset] [])) rfl (own_d hby at_151) (by decide) (by decide)
      obtain ⟨g, g_g⟩ : ∃ z, z = T98.heap.size := ⟨_, rfl⟩
      rw [← g_g] at A108 D108 st108
      have K108 := (Keep.refl T98.heap ([] : List Addr)).ext E108
      have b_g : T98.heap.size ≤ g := (Nat.le_of_eq g_g.symm)
      have gn_g : n0 ≤ g := Nat.le_trans Zs10 b_g
      have s0_g : h0.size ≤ g := Nat.le_trans KK10.1 b_g
      have fa109 : Exa Z T98.heap x "java/lang/String" := ((((fa76.keep K75).keep K83).keep K90).keep Kq98)
      have ne_x_g : x ≠ g := Nat.ne_of_lt (Nat.lt_of_lt_of_le fa109.lt b_g)
      have fa110 : Arv Z T98.heap ba_x k39 .char (2 : Int32) ([(.int (nar .char ca)), (.int (nar .char cb))]) (.int (0 : Int32)) := ((((fa77.keep K75 nin0).keep K83 (ninS ne_ba_x_ba_y nin0)).keep K90 (ninS ne_ba_x_ba_y nin0)).keep Kq98 (ninS ne_ba_x_y nin0))
      have ne_ba_x_g : ba_x ≠ g := Nat.ne_of_lt (Nat.lt_of_lt_of_le fa110.lt b_g)
      have fa111 : Arv Z T98.heap tx kx .byte (Int32.ofNat ([ca, cb] : List Int32).length) (own_by ([ca, cb] : List Int32)) (.int (0 : Int32)) := ((((fa78.keep K75 nin0).keep K83 (ninS ne_tx_ba_y nin0)).keep K90 (ninS ne_tx_ba_y nin0)).keep Kq98 (ninS ne_tx_y nin0))
      have ne_tx_g : tx ≠ g := Nat.ne_of_lt (Nat.lt_of_lt_of_le fa111.lt b_g)
      have ne_y_g : y ≠ g := Nat.ne_of_lt (Nat.lt_of_lt_of_le Ey.lt b_g)
      have fa112 : Arv Z T98.heap ba_y k75 .char (2 : Int32) ([(.int (nar .char cc)), (.int (nar .char cd))]) (.int (0 : Int32)) := (V90.keep Kq98 (ninS (Ne.symm ne_y_ba_y) nin0))
      have ne_ba_y_g : ba_y ≠ g := Nat.ne_of_lt (Nat.lt_of_lt_of_le fa112.lt b_g)
      have ne_ty_g : ty ≠ g := Nat.ne_of_lt (Nat.lt_of_lt_of_le Ay.lt b_g)
      have D113 := CHr.ext E108 C106.1
      have C114 := C106.trans D113
      have sf_g : Safe Z EL s.vm h108 g := Safe.ext E108 C106.1 (Safe.new b_g)
      have KK11 : Keep h0 h108 ([] : List Addr) := KK10.trans K108 all0
      have Zs11 : n0 ≤ h108.size := Nat.le_trans Zs10 K108.1
      have F_low_g : Fld Z h108 g "com/example/firm_roles/firmroles/RoleRange" "low" "Lcom/example/firm_roles/firmroles/Name;" .null := D108 (Or.inr w_99) (ty := (.object "com/example/firm_roles/firmroles/Name")) (by decide)
      have F_lowIncluded_g : Fld Z h108 g "com/example/firm_roles/firmroles/RoleRange" "lowIncluded" "Z" (.int (0 : Int32)) := D108 (Or.inr w_101) (ty := .boolean) (by decide)
      have F_high_g : Fld Z h108 g "com/example/firm_roles/firmroles/RoleRange" "high" "Lcom/example/firm_roles/firmroles/Name;" .null := D108 (Or.inr w_103) (ty := (.object "com/example/firm_roles/firmroles/Name")) (by decide)
      have F_highIncluded_g : Fld Z h108 g "com/example/firm_roles/firmroles/RoleRange" "highIncluded" "Z" (.int (0 : Int32)) := D108 (Or.inr w_105) (ty := .boolean) (by decide)
      have cc115 : Steps p.tables e below S0' (T108.setTop (mkF m 155 #[.val (.int p1), .val (.int p2), .val (.int p3), .val (.int p4), .val (.int p5), .val (.int li), .val (.int hi), .val (.int t1), .val (.int t2), .val (.int ca), .val (.int cb), .val (.int cc), .val (.int cd), .val (.ref x), .val (.ref y), .unset, .unset, .unset, .unset, .unset, .unset] [(.ref g), (.ref g)])) := Steps.trans (cc107.trans (st108 _ (Steps.refl _))) (by
        refine XS.dup X108.here hx rfl (own_d hby at_154) rfl rfl ?_
        exact Steps.refl _)
      obtain ⟨T116, h116, X116, e116, E116, A116, D116, -, st116⟩ := newO X108 hx hZ hown w_34 w_35 w_36 e108 (g := (mkF m 155 #[.val (.int p1), .val (.int p2), .val (.int p3), .val (.int p4), .val (.int p5), .val (.int li), .val (.int hi), .val (.int t1), .val (.int t2), .val (.int ca), .val (.int cb), .val (.int cc), .val (.int cd), .val (.ref x), .val (.ref y), .unset, .unset, .unset, .unset, .unset, .unset] [(.ref g), (.ref g)])) rfl (own_d hby at_155) (by decide) (by decide)
      obtain ⟨na, g_na⟩ : ∃ z, z = h108.size := ⟨_, rfl⟩
      rw [← g_na] at A116 D116 st116
      have K116 := (Keep.refl h108 ([] : List Addr)).ext E116
      have b_na : h108.size ≤ na := (Nat.le_of_eq g_na.symm)
      have gn_na : n0 ≤ na := Nat.le_trans Zs11 b_na
      have s0_na : h0.size ≤ na := Nat.le_trans KK11.1 b_na
      have fa117 : Exa Z h108 x "java/lang/String" := (fa109.keep K108)
      have ne_x_na : x ≠ na := Nat.ne_of_lt (Nat.lt_of_lt_of_le fa117.lt b_na)
      have fa118 : Arv Z h108 ba_x k39 .char (2 : Int32) ([(.int (nar .char ca)), (.int (nar .char cb))]) (.int (0 : Int32)) := (fa110.keep K108 nin0)
      have ne_ba_x_na : ba_x ≠ na := Nat.ne_of_lt (Nat.lt_of_lt_of_le fa118.lt b_na)
      have fa119 : Arv Z h108 tx kx .byte (Int32.ofNat ([ca, cb] : List Int32).length) (own_by ([ca, cb] : List Int32)) (.int (0 : Int32)) := (fa111.keep K108 nin0)
      have ne_tx_na : tx ≠ na := Nat.ne_of_lt (Nat.lt_of_lt_of_le fa119.lt b_na)
      have fa120 : Exa Z h108 y "java/lang/String" := (Ey.keep K108)
      have ne_y_na : y ≠ na := Nat.ne_of_lt (Nat.lt_of_lt_of_le fa120.lt b_na)
      have fa121 : Arv Z h108 ba_y k75 .char (2 : Int32) ([(.int (nar .char cc)), (.int (nar .char cd))]) (.int (0 : Int32)) := (fa112.keep K108 nin0)
      have ne_ba_y_na : ba_y ≠ na := Nat.ne_of_lt (Nat.lt_of_lt_of_le fa121.lt b_na)
      have fa122 : Arv Z h108 ty ky .byte (Int32.ofNat ([cc, cd] : List Int32).length) (own_by ([cc, cd] : List Int32)) (.int (0 : Int32)) := (Ay.keep K108 nin0)
      have ne_ty_na : ty ≠ na := Nat.ne_of_lt (Nat.lt_of_lt_of_le fa122.lt b_na)
      have ne_g_na : g ≠ na := Nat.ne_of_lt (Nat.lt_of_lt_of_le A108.lt b_na)
      have D123 := CHr.ext E116 C114.1
      have C124 := C114.trans D123
      have sf_na : Safe Z EL s.vm h116 na := Safe.ext E116 C114.1 (Safe.new b_na)
      have KK12 : Keep h0 h116 ([] : List Addr) := KK11.trans K116 all0
      have Zs12 : n0 ≤ h116.size := Nat.le_trans Zs11 K116.1
      have F_value_na : Fld Z h116 na "com/example/firm_roles/firmroles/Name" "value" "Ljava/lang/String;" .null := D116 (Or.inr w_93) (ty := (.object "java/lang/String")) (by decide)
      have cc126 : Steps p.tables e below S0' (T116.setTop (mkF m 161 #[.val (.int p1), .val (.int p2), .val (.int p3), .val (.int p4), .val (.int p5), .val (.int li), .val (.int hi), .val (.int t1), .val (.int t2), .val (.int ca), .val (.int cb), .val (.int cc), .val (.int cd), .val (.ref x), .val (.ref y), .unset, .unset, .unset, .unset, .unset, .unset] [(.ref x), (.ref na), (.ref na), (.ref g), (.ref g)])) := Steps.trans (cc115.trans (st116 _ (Steps.refl _))) (by
        refine XS.dup X116.here hx rfl (own_d hby at_158) rfl rfl ?_
        refine XS.aload X116.here hx rfl (own_d hby at_159) rfl rfl ?_
        exact Steps.refl _)
      have fa125 : Old Z n0 h116 := (((fa97.keep Kq98 (allS gn_y all0)).keep K108 all0).keep K116 all0)
      have fa127 : Exa Z h116 x "java/lang/String" := (fa117.keep K116)
      have fa128 : Fld Z h116 x "java/lang/String" "coder" "B" (.int (0 : Int32)) := (((((((Cx.keep K70 nin0).keep K75 nin0).keep K83 (ninS ne_x_ba_y nin0)).keep K90 (ninS ne_x_ba_y nin0)).keep Kq98 (ninS ne_x_y nin0)).keep K108 nin0).keep K116 nin0)
      have fa129 : Fld Z h116 x "java/lang/String" "value" "[B" (.ref tx) := (((((((Vx.keep K70 nin0).keep K75 nin0).keep K83 (ninS ne_x_ba_y nin0)).keep K90 (ninS ne_x_ba_y nin0)).keep Kq98 (ninS ne_x_y nin0)).keep K108 nin0).keep K116 nin0)
      have fa130 : Arv Z h116 tx kx .byte (Int32.ofNat ([ca, cb] : List Int32).length) (own_by ([ca, cb] : List Int32)) (.int (0 : Int32)) := (fa119.keep K116 nin0)
      obtain ⟨_, _, ⟨T131, L131, k131, n131⟩, -, X131, hs131, gr131, ⟨Lc131, hQ131, l131, y131, z131, CH131⟩, st131⟩ := X116.specialBackS hx (y := (⟨"com/example/firm_roles/firmroles/Name", "<init>", "(Ljava/lang/String;)V"⟩ : MethodName)) rfl hown (mvT hZ w_37) (mvT hZ w_38) (mvT hZ w_39) (by decide) (backOfSH (W := 3) (own_nin l Z a0 hw na x ([ca, cb] : List Int32) z f h116 n0 Zs12 fa125 O2 P5 O4 hf A116 F_value_na gn_na (⟨fa127, fa128, px, lx, tx, kx, fa129, fa130⟩ : own_Lat Z h116 x ([ca, cb] : List Int32)) (Or.inr ⟨ca, cb, rfl, kca, kcb⟩)) hZ w_39 w_36 (by decide) (by decide) hEL C124.1) (g := (mkF m 161 #[.val (.int p1), .val (.int p2), .val (.int p3), .val (.int p4), .val (.int p5), .val (.int li), .val (.int hi), .val (.int t1), .val (.int t2), .val (.int ca), .val (.int cb), .val (.int cc), .val (.int cd), .val (.ref x), .val (.ref y), .unset, .unset, .unset, .unset, .unset, .unset] [(.ref x), (.ref na), (.ref na), (.ref g), (.ref g)])) rfl (by rw [hml]; rfl) (Steps.refl _) (a := na) (argsL := [(.ref x)]) (rest := [(.ref na), (.ref g), (.ref g)]) (lenOf own_pd10 rfl) rfl (by show 2 * 0 + _ ≤ _; exact Nat.le_of_eq rfl) (own_d hby at_161) (fun _ _ => ⟨rfl, e116, Nat.le_of_ble_eq_true rfl, Nat.le_of_ble_eq_true rfl⟩)
      dsimp only [Pt.U, Pt.locs, Pt.cells, Pt.slots] at X131 l131 y131 z131 st131 hQ131 hs131 gr131 CH131
      subst l131 y131 z131
      obtain ⟨rfl, Nq131, Kq131, Fq131⟩ := hQ131
      obtain ⟨Xr131, hS131, hZ131, hown131⟩ := rebS hS0 (by rw [e116]; exact (Nat.le_trans (Nat.le_trans (Nat.le_trans (Nat.le_trans (Nat.le_trans (Nat.le_trans (Nat.le_trans (Nat.le_trans (Nat.le_trans (Nat.le_trans (Nat.le_trans (Nat.le_trans hk0 K35.1) K39.1) K44.1) K51.1) Kq59.1) K70.1) K75.1) K83.1) K90.1) Kq98.1) K108.1) K116.1)) X131 hs131 gr131 hZ hown
      have hk131 : T131.heap.size ≤ T131.heap.size := Nat.le_refl _
      have C131 := C124.trans CH131
      have N131 := Fr.app N98 Nq131
      have KK13 : Keep h0 T131.heap ([] : List Addr) := KK12.trans Kq131 (allS (Or.inr s0_na) all0)
      have Zs13 : n0 ≤ T131.heap.size := Nat.le_trans Zs12 Kq131.1
      have e131 : T131.heap = T131.heap := rfl
      have cc132 : Steps p.tables e below S0' (T131.setTop (mkF m 166 #[.val (.int p1), .val (.int p2), .val (.int p3), .val (.int p4), .val (.int p5), .val (.int li), .val (.int hi), .val (.int t1), .val (.int t2), .val (.int ca), .val (.int cb), .val (.int cc), .val (.int cd), .val (.ref x), .val (.ref y), .unset, .unset, .unset, .unset, .unset, .unset] [(.int li), (.ref na), (.ref g), (.ref g)])) := Steps.trans (Steps.trans cc126 st131) (by
        refine XS.iload Xr131.here hx rfl (own_d hby at_164) rfl ?_
        exact Steps.refl _)
      obtain ⟨T133, h133, X133, e133, E133, A133, D133, -, st133⟩ := newO Xr131 hx hZ131 hown131 w_34 w_35 w_36 e131 (g := (mkF m 166 #[.val (.int p1), .val (.int p2), .val (.int p3), .val (.int p4), .val (.int p5), .val (.int li), .val (.int hi), .val (.int t1), .val (.int t2), .val (.int ca), .val (.int cb), .val (.int cc), .val (.int cd), .val (.ref x), .val (.ref y), .unset, .unset, .unset, .unset, .unset, .unset] [(.int li), (.ref na), (.ref g), (.ref g)])) rfl (own_d hby at_166) (by decide) (by decide)
      obtain ⟨nb, g_nb⟩ : ∃ z, z = T131.heap.size := ⟨_, rfl⟩
      rw [← g_nb] at A133 D133 st133
      have K133 := (Keep.refl T131.heap ([] : List Addr)).ext E133
      have b_nb : T131.heap.size ≤ nb := (Nat.le_of_eq g_nb.symm)
      have gn_nb : n0 ≤ nb := Nat.le_trans Zs13 b_nb
      have s0_nb : h0.size ≤ nb := Nat.le_trans KK13.1 b_nb
      have fa134 : Exa Z T131.heap x "java/lang/String" := (fa127.keep Kq131)
      have ne_x_nb : x ≠ nb := Nat.ne_of_lt (Nat.lt_of_lt_of_le fa134.lt b_nb)
      have fa135 : Arv Z T131.heap ba_x k39 .char (2 : Int32) ([(.int (nar .char ca)), (.int (nar .char cb))]) (.int (0 : Int32)) := ((fa118.keep K116 nin0).keep Kq131 (ninS ne_ba_x_na nin0))
      have ne_ba_x_nb : ba_x ≠ nb := Nat.ne_of_lt (Nat.lt_of_lt_of_le fa135.lt b_nb)
      have fa136 : Arv Z T131.heap tx kx .byte (Int32.ofNat ([ca, cb] : List Int32).length) (own_by ([ca, cb] : List Int32)) (.int (0 : Int32)) := (fa130.keep Kq131 (ninS ne_tx_na nin0))
      have ne_tx_nb : tx ≠ nb := Nat.ne_of_lt (Nat.lt_of_lt_of_le fa136.lt b_nb)
      have fa137 : Exa Z T131.heap y "java/lang/String" := ((fa120.keep K116).keep Kq131)
      have ne_y_nb : y ≠ nb := Nat.ne_of_lt (Nat.lt_of_lt_of_le fa137.lt b_nb)
      have fa138 : Arv Z T131.heap ba_y k75 .char (2 : Int32) ([(.int (nar .char cc)), (.int (nar .char cd))]) (.int (0 : Int32)) := ((fa121.keep K116 nin0).keep Kq131 (ninS ne_ba_y_na nin0))
      have ne_ba_y_nb : ba_y ≠ nb := Nat.ne_of_lt (Nat.lt_of_lt_of_le fa138.lt b_nb)
      have fa139 : Arv Z T131.heap ty ky .byte (Int32.ofNat ([cc, cd] : List Int32).length) (own_by ([cc, cd] : List Int32)) (.int (0 : Int32)) := ((fa122.keep K116 nin0).keep Kq131 (ninS ne_ty_na nin0))
      have ne_ty_nb : ty ≠ nb := Nat.ne_of_lt (Nat.lt_of_lt_of_le fa139.lt b_nb)
      have fa140 : Exa Z T131.heap g "com/example/firm_roles/firmroles/RoleRange" := ((A108.keep K116).keep Kq131)
      have ne_g_nb : g ≠ nb := Nat.ne_of_lt (Nat.lt_of_lt_of_le fa140.lt b_nb)
      have fa141 : Exa Z T131.heap na "com/example/firm_roles/firmroles/Name" := (A116.keep Kq131)
      have ne_na_nb : na ≠ nb := Nat.ne_of_lt (Nat.lt_of_lt_of_le fa141.lt b_nb)
      have D142 := CHr.ext E133 C131.1
      have C143 := C131.trans D142
      have sf_nb : Safe Z EL T131.vm h133 nb := Safe.ext E133 C131.1 (Safe.new b_nb)
      have KK14 : Keep h0 h133 ([] : List Addr) := KK13.trans K133 all0
      have Zs14 : n0 ≤ h133.size := Nat.le_trans Zs13 K133.1
      have F_value_nb : Fld Z h133 nb "com/example/firm_roles/firmroles/Name" "value" "Ljava/lang/String;" .null := D133 (Or.inr w_93) (ty := (.object "java/lang/String")) (by decide)
      have cc145 : Steps p.tables e below S0' (T133.setTop (mkF m 172 #[.val (.int p1), .val (.int p2), .val (.int p3), .val (.int p4), .val (.int p5), .val (.int li), .val (.int hi), .val (.int t1), .val (.int t2), .val (.int ca), .val (.int cb), .val (.int cc), .val (.int cd), .val (.ref x), .val (.ref y), .unset, .unset, .unset, .unset, .unset, .unset] [(.ref y), (.ref nb), (.ref nb), (.int li), (.ref na), (.ref g), (.ref g)])) := Steps.trans (cc132.trans (st133 _ (Steps.refl _))) (by
        refine XS.dup X133.here hx rfl (own_d hby at_169) rfl rfl ?_
        refine XS.aload X133.here hx rfl (own_d hby at_170) rfl rfl ?_
        exact Steps.refl _)
      have fa144 : Old Z n0 h133 := ((fa125.keep Kq131 (allS gn_na all0)).keep K133 all0)
      have fa146 : Exa Z h133 y "java/lang/String" := (fa137.keep K133)
      have fa147 : Fld Z h133 y "java/lang/String" "coder" "B" (.int (0 : Int32)) := ((((Cy.keep K108 nin0).keep K116 nin0).keep Kq131 (ninS ne_y_na nin0)).keep K133 nin0)
      have fa148 : Fld Z h133 y "java/lang/String" "value" "[B" (.ref ty) := ((((Vy.keep K108 nin0).keep K116 nin0).keep Kq131 (ninS ne_y_na nin0)).keep K133 nin0)
      have fa149 : Arv Z h133 ty ky .byte (Int32.ofNat ([cc, cd] : List Int32).length) (own_by ([cc, cd] : List Int32)) (.int (0 : Int32)) := (fa139.keep K133 nin0)
      obtain ⟨_, _, ⟨T150, L150, k150, n150⟩, -, X150, hs150, gr150, ⟨Lc150, hQ150, l150, y150, z150, CH150⟩, st150⟩ := X133.specialBackS hx (y := (⟨"com/example/firm_roles/firmroles/Name", "<init>", "(Ljava/lang/String;)V"⟩ : MethodName)) rfl hown131 (mvT hZ131 w_37) (mvT hZ131 w_38) (mvT hZ131 w_39) (by decide) (backOfSH (W := 5) (own_nin l Z a0 hw nb y ([cc, cd] : List Int32) z f h133 n0 Zs14 fa144 O2 P5 O4 hf A133 F_value_nb gn_nb (⟨fa146, fa147, py, ly, ty, ky, fa148, fa149⟩ : own_Lat Z h133 y ([cc, cd] : List Int32)) (Or.inr ⟨cc, cd, rfl, kcc, kcd⟩)) hZ131 w_39 w_36 (by decide) (by decide) hEL C143.1) (g := (mkF m 172 #[.val (.int p1), .val (.int p2), .val (.int p3), .val (.int p4), .val (.int p5), .val (.int li), .val (.int hi), .val (.int t1), .val (.int t2), .val (.int ca), .val (.int cb), .val (.int cc), .val (.int cd), .val (.ref x), .val (.ref y), .unset, .unset, .unset, .unset, .unset, .unset] [(.ref y), (.ref nb), (.ref nb), (.int li), (.ref na), (.ref g), (.ref g)])) rfl (by rw [hml]; rfl) (Steps.refl _) (a := nb) (argsL := [(.ref y)]) (rest := [(.ref nb), (.int li), (.ref na), (.ref g), (.ref g)]) (lenOf own_pd10 rfl) rfl (by show 2 * 0 + _ ≤ _; exact Nat.le_of_eq rfl) (own_d hby at_172) (fun _ _ => ⟨rfl, e133, Nat.le_of_ble_eq_true rfl, Nat.le_of_ble_eq_true rfl⟩)
      dsimp only [Pt.U, Pt.locs, Pt.cells, Pt.slots] at X150 l150 y150 z150 st150 hQ150 hs150 gr150 CH150
      subst l150 y150 z150
      obtain ⟨rfl, Nq150, Kq150, Fq150⟩ := hQ150
      obtain ⟨Xr150, hS150, hZ150, hown150⟩ := rebS hS131 (by rw [e133]; exact (Nat.le_trans hk131 K133.1)) X150 hs150 gr150 hZ131 hown131
      have hk150 : T150.heap.size ≤ T150.heap.size := Nat.le_refl _
      have C150 := C143.trans CH150
      have N150 := Fr.app N131 Nq150
      have KK15 : Keep h0 T150.heap ([] : List Addr) := KK14.trans Kq150 (allS (Or.inr s0_nb) all0)
      have Zs15 : n0 ≤ T150.heap.size := Nat.le_trans Zs14 Kq150.1
      have e150 : T150.heap = T150.heap := rfl
      have cc152 : Steps p.tables e below S0' (T150.setTop (mkF m 177 #[.val (.int p1), .val (.int p2), .val (.int p3), .val (.int p4), .val (.int p5), .val (.int li), .val (.int hi), .val (.int t1), .val (.int t2), .val (.int ca), .val (.int cb), .val (.int cc), .val (.int cd), .val (.ref x), .val (.ref y), .unset, .unset, .unset, .unset, .unset, .unset] [(.int hi), (.ref nb), (.int li), (.ref na), (.ref g), (.ref g)])) := Steps.trans (Steps.trans cc145 st150) (by
        refine XS.iload Xr150.here hx rfl (own_d hby at_175) rfl ?_
        exact Steps.refl _)
      have fa151 : Exa Z T150.heap g "com/example/firm_roles/firmroles/RoleRange" := ((fa140.keep K133).keep Kq150)
      have fa153 : Fld Z T150.heap g "com/example/firm_roles/firmroles/RoleRange" "low" "Lcom/example/firm_roles/firmroles/Name;" .null := ((((F_low_g.keep K116 nin0).keep Kq131 (ninS ne_g_na nin0)).keep K133 nin0).keep Kq150 (ninS ne_g_nb nin0))
      have fa154 : Fld Z T150.heap g "com/example/firm_roles/firmroles/RoleRange" "lowIncluded" "Z" (.int (0 : Int32)) := ((((F_lowIncluded_g.keep K116 nin0).keep Kq131 (ninS ne_g_na nin0)).keep K133 nin0).keep Kq150 (ninS ne_g_nb nin0))
      have fa155 : Fld Z T150.heap g "com/example/firm_roles/firmroles/RoleRange" "high" "Lcom/example/firm_roles/firmroles/Name;" .null := ((((F_high_g.keep K116 nin0).keep Kq131 (ninS ne_g_na nin0)).keep K133 nin0).keep Kq150 (ninS ne_g_nb nin0))
      have fa156 : Fld Z T150.heap g "com/example/firm_roles/firmroles/RoleRange" "highIncluded" "Z" (.int (0 : Int32)) := ((((F_highIncluded_g.keep K116 nin0).keep Kq131 (ninS ne_g_na nin0)).keep K133 nin0).keep Kq150 (ninS ne_g_nb nin0))
      obtain ⟨_, _, ⟨T157, L157, k157, n157⟩, -, X157, ⟨Lc157, hQ157, l157, y157, z157⟩, st157⟩ := Xr150.specialBack hx (y := (⟨"com/example/firm_roles/firmroles/RoleRange", "<init>", "(Lcom/example/firm_roles/firmroles/Name;ZLcom/example/firm_roles/firmroles/Name;Z)V"⟩ : MethodName)) rfl hown150 (mvT hZ150 w_94) (mvT hZ150 w_95) (mvT hZ150 w_96) (by decide) (backOf (W := 1) (own_rin l Z a0 hw g na nb li hi T150.heap n0 Zs15 fa151 fa153 fa154 fa155 fa156 gn_g zli zhi) hZ150 w_96 w_33 (by decide) (by decide)) (g := (mkF m 177 #[.val (.int p1), .val (.int p2), .val (.int p3), .val (.int p4), .val (.int p5), .val (.int li), .val (.int hi), .val (.int t1), .val (.int t2), .val (.int ca), .val (.int cb), .val (.int cc), .val (.int cd), .val (.ref x), .val (.ref y), .unset, .unset, .unset, .unset, .unset, .unset] [(.int hi), (.ref nb), (.int li), (.ref na), (.ref g), (.ref g)])) rfl (by rw [hml]; rfl) (Steps.refl _) (a := g) (argsL := [(.ref na), (.int li), (.ref nb), (.int hi)]) (rest := [(.ref g)]) (lenOf own_pd25 rfl) rfl (by show 2 * 0 + _ ≤ _; exact Nat.le_of_eq rfl) (own_d hby at_177) (fun _ _ => ⟨rfl, e150, Nat.le_of_ble_eq_true rfl, Nat.le_of_ble_eq_true rfl⟩)
      dsimp only [Pt.U, Pt.locs, Pt.cells, Pt.slots] at X157 l157 y157 z157 st157 hQ157
      subst l157 y157 z157
      obtain ⟨rfl, Nq157, Kq157, G1157, G2157, G3157, G4157⟩ := hQ157
      have N157 := Fr.app N150 Nq157
      have sf158 := D123.safe A108.lt sf_g
      have lt159 := Nat.lt_of_lt_of_le A108.lt K116.1
      have sf160 := CH131.safe lt159 sf158
      have lt161 := Nat.lt_of_lt_of_le lt159 Kq131.1
      have sf162 := D142.safe lt161 sf160
      have lt163 := Nat.lt_of_lt_of_le lt161 K133.1
      have sf164 := CH150.safe lt163 sf162
      have lt165 := Nat.lt_of_lt_of_le lt163 Kq150.1
      have D166 := CHr.keep Kq157 (sfS sf164 sf0) C150.1
      have C167 := C150.trans D166
      have KK16 : Keep h0 T157.heap ([] : List Addr) := KK15.trans Kq157 (allS (Or.inr s0_g) all0)
      have Zs16 : n0 ≤ T157.heap.size := Nat.le_trans Zs15 Kq157.1
      have e157 : T157.heap = T157.heap := rfl
      have cc169 : Steps p.tables e below S0' (T157.setTop (mkF m 184 #[.val (.int p1), .val (.int p2), .val (.int p3), .val (.int p4), .val (.int p5), .val (.int li), .val (.int hi), .val (.int t1), .val (.int t2), .val (.int ca), .val (.int cb), .val (.int cc), .val (.int cd), .val (.ref x), .val (.ref y), .val (.ref g), .unset, .unset, .unset, .unset, .unset] [(.ref g)])) := Steps.trans (Steps.trans cc152 st157) (by
        refine XS.astore X157.here hx rfl (own_d hby at_180) rfl rfl rfl ?_
        refine XS.aload X157.here hx rfl (own_d hby at_182) rfl rfl ?_
        exact Steps.refl _)
      have fa168 : Old Z n0 T157.heap := ((fa144.keep Kq150 (allS gn_nb all0)).keep Kq157 (allS gn_g all0))
      have fa170 : Exa Z T157.heap na "com/example/firm_roles/firmroles/Name" := (((fa141.keep K133).keep Kq150).keep Kq157)
      have fa171 : Fld Z T157.heap na "com/example/firm_roles/firmroles/Name" "value" "Ljava/lang/String;" (.ref x) := (((Fq131.keep K133 nin0).keep Kq150 (ninS ne_na_nb nin0)).keep Kq157 (ninS (Ne.symm ne_g_na) nin0))
      have fa172 : Exa Z T157.heap nb "com/example/firm_roles/firmroles/Name" := ((A133.keep Kq150).keep Kq157)
      have fa173 : Fld Z T157.heap nb "com/example/firm_roles/firmroles/Name" "value" "Ljava/lang/String;" (.ref y) := (Fq150.keep Kq157 (ninS (Ne.symm ne_g_nb) nin0))
      have fa174 : Exa Z T157.heap x "java/lang/String" := (((fa134.keep K133).keep Kq150).keep Kq157)
      have fa175 : Fld Z T157.heap x "java/lang/String" "coder" "B" (.int (0 : Int32)) := ((((fa128.keep Kq131 (ninS ne_x_na nin0)).keep K133 nin0).keep Kq150 (ninS ne_x_nb nin0)).keep Kq157 (ninS ne_x_g nin0))
      have fa176 : Fld Z T157.heap x "java/lang/String" "value" "[B" (.ref tx) := ((((fa129.keep Kq131 (ninS ne_x_na nin0)).keep K133 nin0).keep Kq150 (ninS ne_x_nb nin0)).keep Kq157 (ninS ne_x_g nin0))
      have fa177 : Arv Z T157.heap tx kx .byte (Int32.ofNat ([ca, cb] : List Int32).length) (own_by ([ca, cb] : List Int32)) (.int (0 : Int32)) := (((fa136.keep K133 nin0).keep Kq150 (ninS ne_tx_nb nin0)).keep Kq157 (ninS ne_tx_g nin0))
      have fa178 : Exa Z T157.heap y "java/lang/String" := ((fa146.keep Kq150).keep Kq157)
      have fa179 : Fld Z T157.heap y "java/lang/String" "coder" "B" (.int (0 : Int32)) := ((fa147.keep Kq150 (ninS ne_y_nb nin0)).keep Kq157 (ninS ne_y_g nin0))
      have fa180 : Fld Z T157.heap y "java/lang/String" "value" "[B" (.ref ty) := ((fa148.keep Kq150 (ninS ne_y_nb nin0)).keep Kq157 (ninS ne_y_g nin0))
      have fa181 : Arv Z T157.heap ty ky .byte (Int32.ofNat ([cc, cd] : List Int32).length) (own_by ([cc, cd] : List Int32)) (.int (0 : Int32)) := ((fa149.keep Kq150 (ninS ne_ty_nb nin0)).keep Kq157 (ninS ne_ty_g nin0))
      have fa182 : Exa Z T157.heap g "com/example/firm_roles/firmroles/RoleRange" := (fa151.keep Kq157)
      obtain ⟨cq183, kq183, qa183, qb183, qc183⟩ := isOf hZ150 e157 fa182
      obtain ⟨_, _, ⟨T183, L183, k183, n183⟩, -, X183, hs183, gr183, ⟨Lc183, hQ183, l183, y183, z183, CH183⟩, st183⟩ := X157.virtualBackS hx (y := (⟨"com/example/firm_roles/firmroles/RoleRange", "toString", "()Ljava/lang/String;"⟩ : MethodName)) (z := (⟨"com/example/firm_roles/firmroles/RoleRange", "toString", "()Ljava/lang/String;"⟩ : MethodName)) hown150 (mvT hZ150 w_106) (mvT hZ150 w_107) (notFace_of_selects (args := #[]) (mvT hZ150 w_109)) (mvT hZ150 w_109) (mvT hZ150 w_108) (by decide) (backOfSH (W := 0) (own_rts l Z a0 hw g na nb x y li hi ([ca, cb] : List Int32) ([cc, cd] : List Int32) z T157.heap n0 Zs16 fa168 O2 P5 G1157 G2157 G3157 G4157 fa170 fa171 fa172 fa173 (⟨fa174, fa175, px, lx, tx, kx, fa176, fa177⟩ : own_Lat Z T157.heap x ([ca, cb] : List Int32)) (⟨fa178, fa179, py, ly, ty, ky, fa180, fa181⟩ : own_Lat Z T157.heap y ([cc, cd] : List Int32)) (by simp) (by simp)) hZ150 w_110 w_33 (by decide) (by decide) hEL C167.1) qa183 qc183 (g := (mkF m 184 #[.val (.int p1), .val (.int p2), .val (.int p3), .val (.int p4), .val (.int p5), .val (.int li), .val (.int hi), .val (.int t1), .val (.int t2), .val (.int ca), .val (.int cb), .val (.int cc), .val (.int cd), .val (.ref x), .val (.ref y), .val (.ref g), .unset, .unset, .unset, .unset, .unset] [(.ref g)])) rfl (by rw [hml]; rfl) (Steps.refl _) (argsL := []) (rest := []) (lenOf own_pd23 rfl) rfl (by show 2 * 0 + _ ≤ _; exact Nat.le_of_eq rfl) (own_d hby at_184) (fun _ _ => ⟨rfl, e157, Nat.le_of_ble_eq_true rfl, Nat.le_of_ble_eq_true rfl⟩)
      dsimp only [Pt.U, Pt.locs, Pt.cells, Pt.slots] at X183 l183 y183 z183 st183 hQ183 hs183 gr183 CH183
      subst l183 y183 z183
      obtain ⟨s1, rfl, Nq183, Kq183, Hs183⟩ := hQ183
      obtain ⟨Xr183, hS183, hZ183, hown183⟩ := rebS hS150 (by rw [e157]; exact (Nat.le_trans hk150 Kq157.1)) X183 hs183 gr183 hZ150 hown150
      have hk183 : T183.heap.size ≤ T183.heap.size := Nat.le_refl _
      have C183 := C167.trans CH183
      have N183 := Fr.app N157 Nq183
      have KK17 : Keep h0 T183.heap ([] : List Addr) := KK16.trans Kq183 all0
      have Zs17 : n0 ≤ T183.heap.size := Nat.le_trans Zs16 Kq183.1
      have e183 : T183.heap = T183.heap := rfl
      obtain ⟨lc, elc⟩ : ∃ w : Int32, w = (if li = 0 then 40 else 91) := ⟨_, rfl⟩
      obtain ⟨hc, ehc⟩ : ∃ w : Int32, w = (if hi = 0 then 41 else 93) := ⟨_, rfl⟩
      have Hf : own_Lat Z T183.heap s1 ([lc, ca, cb, 44, 32, cc, cd, hc] : List Int32) := by rw [elc, ehc]; exact Hs183
      have Hg := Hf
      obtain ⟨Es1, Cs1, ps1, ls1, ts1, ks1, Vs1, As1⟩ := Hg
      have cc185 : Steps p.tables e below S0' (T183.setTop (mkF m 224 #[.val (.int p1), .val (.int p2), .val (.int p3), .val (.int p4), .val (.int p5), .val (.int li), .val (.int hi), .val (.int t1), .val (.int t2), .val (.int ca), .val (.int cb), .val (.int cc), .val (.int cd), .val (.ref x), .val (.ref y), .val (.ref g), .val (.ref s1), .val (.int 2), .val (.int 2), .val (.int (((2 : Int32) + (2 : Int32)) + (4 : Int32))), .unset] [(.ref s1)])) := Steps.trans (Steps.trans cc169 st183) (by
        refine XS.astore Xr183.here hx rfl (own_d hby at_187) rfl rfl rfl ?_
        refine XS.iload Xr183.here hx rfl (own_d hby at_189) rfl ?_
        refine XS.ifNo Xr183.here hx rfl (own_d hby at_191) rfl (i0_eq_f qt1) ?_
        refine iconstV Xr183.here hx rfl 2 (own_d hby at_194) (by decide) ?_
        refine XS.goto Xr183.here hx rfl (pc0 := 195) rfl (own_d hby at_195) (by decide) rfl ?_
        refine XS.istore Xr183.here hx rfl (own_d hby at_199) rfl rfl ?_
        refine XS.iload Xr183.here hx rfl (own_d hby at_201) rfl ?_
        refine XS.ifNo Xr183.here hx rfl (own_d hby at_203) rfl (i0_eq_f qt2) ?_
        refine iconstV Xr183.here hx rfl 2 (own_d hby at_206) (by decide) ?_
        refine XS.goto Xr183.here hx rfl (pc0 := 207) rfl (own_d hby at_207) (by decide) rfl ?_
        refine XS.istore Xr183.here hx rfl (own_d hby at_211) rfl rfl ?_
        refine XS.iload Xr183.here hx rfl (own_d hby at_213) rfl ?_
        refine XS.iload Xr183.here hx rfl (own_d hby at_215) rfl ?_
        refine XS.iadd Xr183.here hx rfl (own_d hby at_217) rfl ?_
        refine iconstV Xr183.here hx rfl 4 (own_d hby at_218) (by decide) ?_
        refine XS.iadd Xr183.here hx rfl (own_d hby at_219) rfl ?_
        refine XS.istore Xr183.here hx rfl (own_d hby at_220) rfl rfl ?_
        refine XS.aload Xr183.here hx rfl (own_d hby at_222) rfl rfl ?_
        exact Steps.refl _)
      have fa184 : Old Z n0 T183.heap := (fa168.keep Kq183 all0)
      obtain ⟨cq186, kq186, qa186, qb186, qc186⟩ := isOf hZ183 e183 Es1
      obtain ⟨_, _, ⟨T186, L186, k186, n186⟩, -, X186, ⟨Lc186, hQ186, l186, y186, z186⟩, st186⟩ := Xr183.virtualBack hx (y := (⟨"java/lang/String", "length", "()I"⟩ : MethodName)) (z := (⟨"java/lang/String", "length", "()I"⟩ : MethodName)) hown183 (mvT hZ183 w_220) (mvT hZ183 w_59) (notFace_of_selects (args := #[]) (mvT hZ183 w_61)) (mvT hZ183 w_61) (mvT hZ183 w_60) (by decide) (StrChars.Road.lenW (W := 0) hZ183 hw_wordsLen (kI := 4) w_15 Es1 Vs1 Cs1 As1 (StrChars.Road.codOf (cs := ([lc, ca, cb, 44, 32, cc, cd, hc] : List Int32)) rfl (fun c hc => (ps1 c hc).2)) (own_up _ ps1) (O2.ext fa184.2) P5 ls1 (by decide) (by decide)) qa186 qc186 (g := (mkF m 224 #[.val (.int p1), .val (.int p2), .val (.int p3), .val (.int p4), .val (.int p5), .val (.int li), .val (.int hi), .val (.int t1), .val (.int t2), .val (.int ca), .val (.int cb), .val (.int cc), .val (.int cd), .val (.ref x), .val (.ref y), .val (.ref g), .val (.ref s1), .val (.int 2), .val (.int 2), .val (.int (((2 : Int32) + (2 : Int32)) + (4 : Int32))), .unset] [(.ref s1)])) rfl (by rw [hml]; rfl) (Steps.refl _) (argsL := []) (rest := []) (lenOf own_pd6 rfl) rfl (by show 2 * 0 + _ ≤ _; exact Nat.le_of_eq rfl) (own_d hby at_224) (fun _ _ => ⟨rfl, e183, Nat.le_of_ble_eq_true rfl, Nat.le_of_ble_eq_true rfl⟩)
      dsimp only [Pt.U, Pt.locs, Pt.cells, Pt.slots] at X186 l186 y186 z186 st186 hQ186
      subst l186 y186 z186
      obtain ⟨rfl, rfl, eq186⟩ := hQ186
      have N186 := Fr.app N183 (Fr.nil n0)
      have e186 : T186.heap = T183.heap := eq186
      have cc187 : Steps p.tables e below S0' (T186.setTop (mkF m 227 #[.val (.int p1), .val (.int p2), .val (.int p3), .val (.int p4), .val (.int p5), .val (.int li), .val (.int hi), .val (.int t1), .val (.int t2), .val (.int ca), .val (.int cb), .val (.int cc), .val (.int cd), .val (.ref x), .val (.ref y), .val (.ref g), .val (.ref s1), .val (.int 2), .val (.int 2), .val (.int (((2 : Int32) + (2 : Int32)) + (4 : Int32))), .unset] [(.int 8)])) := (Steps.trans cc185 st186)
      have cc188 : Steps p.tables e below S0' (T186.setTop (mkF m 237 #[.val (.int p1), .val (.int p2), .val (.int p3), .val (.int p4), .val (.int p5), .val (.int li), .val (.int hi), .val (.int t1), .val (.int t2), .val (.int ca), .val (.int cb), .val (.int cc), .val (.int cd), .val (.ref x), .val (.ref y), .val (.ref g), .val (.ref s1), .val (.int 2), .val (.int 2), .val (.int (((2 : Int32) + (2 : Int32)) + (4 : Int32))), .unset] [(.int 0), (.ref s1)])) := Steps.trans cc187 (by
        refine XS.iload X186.here hx rfl (own_d hby at_227) rfl ?_
        refine XS.icmpYes X186.here hx rfl (pc0 := 229) rfl (own_d hby at_229) rfl (ii_eq_t (by decide)) (by decide) rfl ?_
        refine XS.aload X186.here hx rfl (own_d hby at_234) rfl rfl ?_
        refine iconstV X186.here hx rfl 0 (own_d hby at_236) (by decide) ?_
        exact Steps.refl _)
      have cz189 : Steps p.tables e below S0' (T186.setTop (mkF m 237 #[.val (.int p1), .val (.int p2), .val (.int p3), .val (.int p4), .val (.int p5), .val (.int li), .val (.int hi), .val (.int t1), .val (.int t2), .val (.int ca), .val (.int cb), .val (.int cc), .val (.int cd), .val (.ref x), .val (.ref y), .val (.ref g), .val (.ref s1), .val (.int 2), .val (.int 2), .val (.int (((2 : Int32) + (2 : Int32)) + (4 : Int32))), .unset] [(.int (Int32.ofNat 0)), (.ref s1)])) := cc188
      obtain ⟨cq190, kq190, qa190, qb190, qc190⟩ := isOf hZ183 e186 Es1
      obtain ⟨_, _, ⟨T190, L190, k190, n190⟩, -, X190, ⟨Lc190, hQ190, l190, y190, z190⟩, st190⟩ := X186.virtualBack hx (y := (⟨"java/lang/String", "charAt", "(I)C"⟩ : MethodName)) (z := (⟨"java/lang/String", "charAt", "(I)C"⟩ : MethodName)) hown183 (mvT hZ183 w_221) (mvT hZ183 w_69) (notFace_of_selects (args := #[]) (mvT hZ183 w_71)) (mvT hZ183 w_71) (mvT hZ183 w_70) (by decide) (backOf (W := 0) (own_chl l Z a0 hw s1 ([lc, ca, cb, 44, 32, cc, cd, hc] : List Int32) 0 z f T183.heap n0 Zs17 fa184 O2 P5 O4 hf Hf (by simp)) hZ183 w_72 w_7 (by decide) (by decide)) qa190 qc190 (g := (mkF m 237 #[.val (.int p1), .val (.int p2), .val (.int p3), .val (.int p4), .val (.int p5), .val (.int li), .val (.int hi), .val (.int t1), .val (.int t2), .val (.int ca), .val (.int cb), .val (.int cc), .val (.int cd), .val (.ref x), .val (.ref y), .val (.ref g), .val (.ref s1), .val (.int 2), .val (.int 2), .val (.int (((2 : Int32) + (2 : Int32)) + (4 : Int32))), .unset] [(.int (Int32.ofNat 0)), (.ref s1)])) rfl (by rw [hml]; rfl) (Steps.refl _) (argsL := [(.int (Int32.ofNat 0))]) (rest := []) (lenOf own_pd7 rfl) rfl (by show 2 * 0 + _ ≤ _; exact Nat.le_of_eq rfl) (own_d hby at_237) (fun _ _ => ⟨rfl, e186, Nat.le_of_ble_eq_true rfl, Nat.le_of_ble_eq_true rfl⟩)
      dsimp only [Pt.U, Pt.locs, Pt.cells, Pt.slots] at X190 l190 y190 z190 st190 hQ190
      subst l190 y190 z190
      obtain ⟨rfl, Nq190, eq190⟩ := hQ190
      have N190 := Fr.app N186 Nq190
      have e190 : T190.heap = T183.heap := eq190
      have cc191 : Steps p.tables e below S0' (T190.setTop (mkF m 242 #[.val (.int p1), .val (.int p2), .val (.int p3), .val (.int p4), .val (.int p5), .val (.int li), .val (.int hi), .val (.int t1), .val (.int t2), .val (.int ca), .val (.int cb), .val (.int cc), .val (.int cd), .val (.ref x), .val (.ref y), .val (.ref g), .val (.ref s1), .val (.int 2), .val (.int 2), .val (.int (((2 : Int32) + (2 : Int32)) + (4 : Int32))), .unset] [(.int li), (.int lc)])) := Steps.trans (Steps.trans cz189 st190) (by
        refine XS.iload X190.here hx rfl (own_d hby at_240) rfl ?_
        exact Steps.refl _)
      obtain ⟨w192, hw192, c_w192⟩ : ∃ w : Int32, w = (if li = 0 then 40 else 91) ∧ Steps p.tables e below S0' (T190.setTop (mkF m 252 #[.val (.int p1), .val (.int p2), .val (.int p3), .val (.int p4), .val (.int p5), .val (.int li), .val (.int hi), .val (.int t1), .val (.int t2), .val (.int ca), .val (.int cb), .val (.int cc), .val (.int cd), .val (.ref x), .val (.ref y), .val (.ref g), .val (.ref s1), .val (.int 2), .val (.int 2), .val (.int (((2 : Int32) + (2 : Int32)) + (4 : Int32))), .unset] [(.int w), (.int lc)])) := by
        by_cases hq : li = 0
        · refine ⟨40, (if_pos hq).symm, cc191.trans ?_⟩
          refine XS.ifYes X190.here hx rfl (pc0 := 242) rfl (own_d hby at_242) rfl (i0_eq_t hq) (by decide) rfl ?_
          refine bipushV X190.here hx rfl 40 (own_d hby at_250) (by decide) ?_
          exact Steps.refl _
        · refine ⟨91, (if_neg hq).symm, cc191.trans ?_⟩
          refine XS.ifNo X190.here hx rfl (own_d hby at_242) rfl (i0_eq_f hq) ?_
          refine bipushV X190.here hx rfl 91 (own_d hby at_245) (by decide) ?_
          refine XS.goto X190.here hx rfl (pc0 := 247) rfl (own_d hby at_247) (by decide) rfl ?_
          exact Steps.refl _
      have cc193 : Steps p.tables e below S0' (T190.setTop (mkF m 260 #[.val (.int p1), .val (.int p2), .val (.int p3), .val (.int p4), .val (.int p5), .val (.int li), .val (.int hi), .val (.int t1), .val (.int t2), .val (.int ca), .val (.int cb), .val (.int cc), .val (.int cd), .val (.ref x), .val (.ref y), .val (.ref g), .val (.ref s1), .val (.int 2), .val (.int 2), .val (.int (((2 : Int32) + (2 : Int32)) + (4 : Int32))), .unset] [(.int 1), (.ref s1)])) := Steps.trans c_w192 (by
        refine XS.icmpYes X190.here hx rfl (pc0 := 252) rfl (own_d hby at_252) rfl (ii_eq_t (elc.trans hw192.symm)) (by decide) rfl ?_
        refine XS.aload X190.here hx rfl (own_d hby at_257) rfl rfl ?_
        refine iconstV X190.here hx rfl 1 (own_d hby at_259) (by decide) ?_
        exact Steps.refl _)
      have cz194 : Steps p.tables e below S0' (T190.setTop (mkF m 260 #[.val (.int p1), .val (.int p2), .val (.int p3), .val (.int p4), .val (.int p5), .val (.int li), .val (.int hi), .val (.int t1), .val (.int t2), .val (.int ca), .val (.int cb), .val (.int cc), .val (.int cd), .val (.ref x), .val (.ref y), .val (.ref g), .val (.ref s1), .val (.int 2), .val (.int 2), .val (.int (((2 : Int32) + (2 : Int32)) + (4 : Int32))), .unset] [(.int (Int32.ofNat 1)), (.ref s1)])) := cc193
      obtain ⟨cq195, kq195, qa195, qb195, qc195⟩ := isOf hZ183 e190 Es1
      obtain ⟨_, _, ⟨T195, L195, k195, n195⟩, -, X195, ⟨Lc195, hQ195, l195, y195, z195⟩, st195⟩ := X190.virtualBack hx (y := (⟨"java/lang/String", "charAt", "(I)C"⟩ : MethodName)) (z := (⟨"java/lang/String", "charAt", "(I)C"⟩ : MethodName)) hown183 (mvT hZ183 w_221) (mvT hZ183 w_69) (notFace_of_selects (args := #[]) (mvT hZ183 w_71)) (mvT hZ183 w_71) (mvT hZ183 w_70) (by decide) (backOf (W := 0) (own_chl l Z a0 hw s1 ([lc, ca, cb, 44, 32, cc, cd, hc] : List Int32) 1 z f T183.heap n0 Zs17 fa184 O2 P5 O4 hf Hf (by simp)) hZ183 w_72 w_7 (by decide) (by decide)) qa195 qc195 (g := (mkF m 260 #[.val (.int p1), .val (.int p2), .val (.int p3), .val (.int p4), .val (.int p5), .val (.int li), .val (.int hi), .val (.int t1), .val (.int t2), .val (.int ca), .val (.int cb), .val (.int cc), .val (.int cd), .val (.ref x), .val (.ref y), .val (.ref g), .val (.ref s1), .val (.int 2), .val (.int 2), .val (.int (((2 : Int32) + (2 : Int32)) + (4 : Int32))), .unset] [(.int (Int32.ofNat 1)), (.ref s1)])) rfl (by rw [hml]; rfl) (Steps.refl _) (argsL := [(.int (Int32.ofNat 1))]) (rest := []) (lenOf own_pd7 rfl) rfl (by show 2 * 0 + _ ≤ _; exact Nat.le_of_eq rfl) (own_d hby at_260) (fun _ _ => ⟨rfl, e190, Nat.le_of_ble_eq_true rfl, Nat.le_of_ble_eq_true rfl⟩)
      dsimp only [Pt.U, Pt.locs, Pt.cells, Pt.slots] at X195 l195 y195 z195 st195 hQ195
      subst l195 y195 z195
      obtain ⟨rfl, Nq195, eq195⟩ := hQ195
      have N195 := Fr.app N190 Nq195
      have e195 : T195.heap = T183.heap := eq195
      have cc196 : Steps p.tables e below S0' (T195.setTop (mkF m 278 #[.val (.int p1), .val (.int p2), .val (.int p3), .val (.int p4), .val (.int p5), .val (.int li), .val (.int hi), .val (.int t1), .val (.int t2), .val (.int ca), .val (.int cb), .val (.int cc), .val (.int cd), .val (.ref x), .val (.ref y), .val (.ref g), .val (.ref s1), .val (.int 2), .val (.int 2), .val (.int (((2 : Int32) + (2 : Int32)) + (4 : Int32))), .unset] [(.int 2), (.ref s1)])) := Steps.trans (Steps.trans cz194 st195) (by
        refine XS.iload X195.here hx rfl (own_d hby at_263) rfl ?_
        refine XS.icmpYes X195.here hx rfl (pc0 := 265) rfl (own_d hby at_265) rfl (ii_eq_t rfl) (by decide) rfl ?_
        refine XS.iload X195.here hx rfl (own_d hby at_270) rfl ?_
        refine XS.ifNo X195.here hx rfl (own_d hby at_272) rfl (i0_eq_f qt1) ?_
        refine XS.aload X195.here hx rfl (own_d hby at_275) rfl rfl ?_
        refine iconstV X195.here hx rfl 2 (own_d hby at_277) (by decide) ?_
        exact Steps.refl _)
      have cz197 : Steps p.tables e below S0' (T195.setTop (mkF m 278 #[.val (.int p1), .val (.int p2), .val (.int p3), .val (.int p4), .val (.int p5), .val (.int li), .val (.int hi), .val (.int t1), .val (.int t2), .val (.int ca), .val (.int cb), .val (.int cc), .val (.int cd), .val (.ref x), .val (.ref y), .val (.ref g), .val (.ref s1), .val (.int 2), .val (.int 2), .val (.int (((2 : Int32) + (2 : Int32)) + (4 : Int32))), .unset] [(.int (Int32.ofNat 2)), (.ref s1)])) := cc196
      obtain ⟨cq198, kq198, qa198, qb198, qc198⟩ := isOf hZ183 e195 Es1
      obtain ⟨_, _, ⟨T198, L198, k198, n198⟩, -, X198, ⟨Lc198, hQ198, l198, y198, z198⟩, st198⟩ := X195.virtualBack hx (y := (⟨"java/lang/String", "charAt", "(I)C"⟩ : MethodName)) (z := (⟨"java/lang/String", "charAt", "(I)C"⟩ : MethodName)) hown183 (mvT hZ183 w_221) (mvT hZ183 w_69) (notFace_of_selects (args := #[]) (mvT hZ183 w_71)) (mvT hZ183 w_71) (mvT hZ183 w_70) (by decide) (backOf (W := 0) (own_chl l Z a0 hw s1 ([lc, ca, cb, 44, 32, cc, cd, hc] : List Int32) 2 z f T183.heap n0 Zs17 fa184 O2 P5 O4 hf Hf (by simp)) hZ183 w_72 w_7 (by decide) (by decide)) qa198 qc198 (g := (mkF m 278 #[.val (.int p1), .val (.int p2), .val (.int p3), .val (.int p4), .val (.int p5), .val (.int li), .val (.int hi), .val (.int t1), .val (.int t2), .val (.int ca), .val (.int cb), .val (.int cc), .val (.int cd), .val (.ref x), .val (.ref y), .val (.ref g), .val (.ref s1), .val (.int 2), .val (.int 2), .val (.int (((2 : Int32) + (2 : Int32)) + (4 : Int32))), .unset] [(.int (Int32.ofNat 2)), (.ref s1)])) rfl (by rw [hml]; rfl) (Steps.refl _) (argsL := [(.int (Int32.ofNat 2))]) (rest := []) (lenOf own_pd7 rfl) rfl (by show 2 * 0 + _ ≤ _; exact Nat.le_of_eq rfl) (own_d hby at_278) (fun _ _ => ⟨rfl, e195, Nat.le_of_ble_eq_true rfl, Nat.le_of_ble_eq_true rfl⟩)
      dsimp only [Pt.U, Pt.locs, Pt.cells, Pt.slots] at X198 l198 y198 z198 st198 hQ198
      subst l198 y198 z198
      obtain ⟨rfl, Nq198, eq198⟩ := hQ198
      have N198 := Fr.app N195 Nq198
      have e198 : T198.heap = T183.heap := eq198
      have cc199 : Steps p.tables e below S0' (T198.setTop (mkF m 298 #[.val (.int p1), .val (.int p2), .val (.int p3), .val (.int p4), .val (.int p5), .val (.int li), .val (.int hi), .val (.int t1), .val (.int t2), .val (.int ca), .val (.int cb), .val (.int cc), .val (.int cd), .val (.ref x), .val (.ref y), .val (.ref g), .val (.ref s1), .val (.int 2), .val (.int 2), .val (.int (((2 : Int32) + (2 : Int32)) + (4 : Int32))), .val (.int ((1 : Int32) + (2 : Int32)))] [(.int ((1 : Int32) + (2 : Int32))), (.ref s1)])) := Steps.trans (Steps.trans cz197 st198) (by
        refine XS.iload X198.here hx rfl (own_d hby at_281) rfl ?_
        refine XS.icmpYes X198.here hx rfl (pc0 := 283) rfl (own_d hby at_283) rfl (ii_eq_t rfl) (by decide) rfl ?_
        refine iconstV X198.here hx rfl 1 (own_d hby at_288) (by decide) ?_
        refine XS.iload X198.here hx rfl (own_d hby at_289) rfl ?_
        refine XS.iadd X198.here hx rfl (own_d hby at_291) rfl ?_
        refine XS.istore X198.here hx rfl (own_d hby at_292) rfl rfl ?_
        refine XS.aload X198.here hx rfl (own_d hby at_294) rfl rfl ?_
        refine XS.iload X198.here hx rfl (own_d hby at_296) rfl ?_
        exact Steps.refl _)
      have cz200 : Steps p.tables e below S0' (T198.setTop (mkF m 298 #[.val (.int p1), .val (.int p2), .val (.int p3), .val (.int p4), .val (.int p5), .val (.int li), .val (.int hi), .val (.int t1), .val (.int t2), .val (.int ca), .val (.int cb), .val (.int cc), .val (.int cd), .val (.ref x), .val (.ref y), .val (.ref g), .val (.ref s1), .val (.int 2), .val (.int 2), .val (.int (((2 : Int32) + (2 : Int32)) + (4 : Int32))), .val (.int ((1 : Int32) + (2 : Int32)))] [(.int (Int32.ofNat 3)), (.ref s1)])) := cc199
      obtain ⟨cq201, kq201, qa201, qb201, qc201⟩ := isOf hZ183 e198 Es1
      obtain ⟨_, _, ⟨T201, L201, k201, n201⟩, -, X201, ⟨Lc201, hQ201, l201, y201, z201⟩, st201⟩ := X198.virtualBack hx (y := (⟨"java/lang/String", "charAt", "(I)C"⟩ : MethodName)) (z := (⟨"java/lang/String", "charAt", "(I)C"⟩ : MethodName)) hown183 (mvT hZ183 w_221) (mvT hZ183 w_69) (notFace_of_selects (args := #[]) (mvT hZ183 w_71)) (mvT hZ183 w_71) (mvT hZ183 w_70) (by decide) (backOf (W := 0) (own_chl l Z a0 hw s1 ([lc, ca, cb, 44, 32, cc, cd, hc] : List Int32) 3 z f T183.heap n0 Zs17 fa184 O2 P5 O4 hf Hf (by simp)) hZ183 w_72 w_7 (by decide) (by decide)) qa201 qc201 (g := (mkF m 298 #[.val (.int p1), .val (.int p2), .val (.int p3), .val (.int p4), .val (.int p5), .val (.int li), .val (.int hi), .val (.int t1), .val (.int t2), .val (.int ca), .val (.int cb), .val (.int cc), .val (.int cd), .val (.ref x), .val (.ref y), .val (.ref g), .val (.ref s1), .val (.int 2), .val (.int 2), .val (.int (((2 : Int32) + (2 : Int32)) + (4 : Int32))), .val (.int ((1 : Int32) + (2 : Int32)))] [(.int (Int32.ofNat 3)), (.ref s1)])) rfl (by rw [hml]; rfl) (Steps.refl _) (argsL := [(.int (Int32.ofNat 3))]) (rest := []) (lenOf own_pd7 rfl) rfl (by show 2 * 0 + _ ≤ _; exact Nat.le_of_eq rfl) (own_d hby at_298) (fun _ _ => ⟨rfl, e198, Nat.le_of_ble_eq_true rfl, Nat.le_of_ble_eq_true rfl⟩)
      dsimp only [Pt.U, Pt.locs, Pt.cells, Pt.slots] at X201 l201 y201 z201 st201 hQ201
      subst l201 y201 z201
      obtain ⟨rfl, Nq201, eq201⟩ := hQ201
      have N201 := Fr.app N198 Nq201
      have e201 : T201.heap = T183.heap := eq201
      have cc202 : Steps p.tables e below S0' (T201.setTop (mkF m 312 #[.val (.int p1), .val (.int p2), .val (.int p3), .val (.int p4), .val (.int p5), .val (.int li), .val (.int hi), .val (.int t1), .val (.int t2), .val (.int ca), .val (.int cb), .val (.int cc), .val (.int cd), .val (.ref x), .val (.ref y), .val (.ref g), .val (.ref s1), .val (.int 2), .val (.int 2), .val (.int (((2 : Int32) + (2 : Int32)) + (4 : Int32))), .val (.int ((1 : Int32) + (2 : Int32)))] [(.int (((1 : Int32) + (2 : Int32)) + (1 : Int32))), (.ref s1)])) := Steps.trans (Steps.trans cz200 st201) (by
        refine bipushV X201.here hx rfl 44 (own_d hby at_301) (by decide) ?_
        refine XS.icmpNo X201.here hx rfl (own_d hby at_303) rfl (ii_ne_f rfl) ?_
        refine XS.aload X201.here hx rfl (own_d hby at_306) rfl rfl ?_
        refine XS.iload X201.here hx rfl (own_d hby at_308) rfl ?_
        refine iconstV X201.here hx rfl 1 (own_d hby at_310) (by decide) ?_
        refine XS.iadd X201.here hx rfl (own_d hby at_311) rfl ?_
        exact Steps.refl _)
      have cz203 : Steps p.tables e below S0' (T201.setTop (mkF m 312 #[.val (.int p1), .val (.int p2), .val (.int p3), .val (.int p4), .val (.int p5), .val (.int li), .val (.int hi), .val (.int t1), .val (.int t2), .val (.int ca), .val (.int cb), .val (.int cc), .val (.int cd), .val (.ref x), .val (.ref y), .val (.ref g), .val (.ref s1), .val (.int 2), .val (.int 2), .val (.int (((2 : Int32) + (2 : Int32)) + (4 : Int32))), .val (.int ((1 : Int32) + (2 : Int32)))] [(.int (Int32.ofNat 4)), (.ref s1)])) := cc202
      obtain ⟨cq204, kq204, qa204, qb204, qc204⟩ := isOf hZ183 e201 Es1
      obtain ⟨_, _, ⟨T204, L204, k204, n204⟩, -, X204, ⟨Lc204, hQ204, l204, y204, z204⟩, st204⟩ := X201.virtualBack hx (y := (⟨"java/lang/String", "charAt", "(I)C"⟩ : MethodName)) (z := (⟨"java/lang/String", "charAt", "(I)C"⟩ : MethodName)) hown183 (mvT hZ183 w_221) (mvT hZ183 w_69) (notFace_of_selects (args := #[]) (mvT hZ183 w_71)) (mvT hZ183 w_71) (mvT hZ183 w_70) (by decide) (backOf (W := 0) (own_chl l Z a0 hw s1 ([lc, ca, cb, 44, 32, cc, cd, hc] : List Int32) 4 z f T183.heap n0 Zs17 fa184 O2 P5 O4 hf Hf (by simp)) hZ183 w_72 w_7 (by decide) (by decide)) qa204 qc204 (g := (mkF m 312 #[.val (.int p1), .val (.int p2), .val (.int p3), .val (.int p4), .val (.int p5), .val (.int li), .val (.int hi), .val (.int t1), .val (.int t2), .val (.int ca), .val (.int cb), .val (.int cc), .val (.int cd), .val (.ref x), .val (.ref y), .val (.ref g), .val (.ref s1), .val (.int 2), .val (.int 2), .val (.int (((2 : Int32) + (2 : Int32)) + (4 : Int32))), .val (.int ((1 : Int32) + (2 : Int32)))] [(.int (Int32.ofNat 4)), (.ref s1)])) rfl (by rw [hml]; rfl) (Steps.refl _) (argsL := [(.int (Int32.ofNat 4))]) (rest := []) (lenOf own_pd7 rfl) rfl (by show 2 * 0 + _ ≤ _; exact Nat.le_of_eq rfl) (own_d hby at_312) (fun _ _ => ⟨rfl, e201, Nat.le_of_ble_eq_true rfl, Nat.le_of_ble_eq_true rfl⟩)
      dsimp only [Pt.U, Pt.locs, Pt.cells, Pt.slots] at X204 l204 y204 z204 st204 hQ204
      subst l204 y204 z204
      obtain ⟨rfl, Nq204, eq204⟩ := hQ204
      have N204 := Fr.app N201 Nq204
      have e204 : T204.heap = T183.heap := eq204
      have cc205 : Steps p.tables e below S0' (T204.setTop (mkF m 328 #[.val (.int p1), .val (.int p2), .val (.int p3), .val (.int p4), .val (.int p5), .val (.int li), .val (.int hi), .val (.int t1), .val (.int t2), .val (.int ca), .val (.int cb), .val (.int cc), .val (.int cd), .val (.ref x), .val (.ref y), .val (.ref g), .val (.ref s1), .val (.int 2), .val (.int 2), .val (.int (((2 : Int32) + (2 : Int32)) + (4 : Int32))), .val (.int ((1 : Int32) + (2 : Int32)))] [(.int (((1 : Int32) + (2 : Int32)) + (2 : Int32))), (.ref s1)])) := Steps.trans (Steps.trans cz203 st204) (by
        refine bipushV X204.here hx rfl 32 (own_d hby at_315) (by decide) ?_
        refine XS.icmpYes X204.here hx rfl (pc0 := 317) rfl (own_d hby at_317) rfl (ii_eq_t rfl) (by decide) rfl ?_
        refine XS.aload X204.here hx rfl (own_d hby at_322) rfl rfl ?_
        refine XS.iload X204.here hx rfl (own_d hby at_324) rfl ?_
        refine iconstV X204.here hx rfl 2 (own_d hby at_326) (by decide) ?_
        refine XS.iadd X204.here hx rfl (own_d hby at_327) rfl ?_
        exact Steps.refl _)
      have cz206 : Steps p.tables e below S0' (T204.setTop (mkF m 328 #[.val (.int p1), .val (.int p2), .val (.int p3), .val (.int p4), .val (.int p5), .val (.int li), .val (.int hi), .val (.int t1), .val (.int t2), .val (.int ca), .val (.int cb), .val (.int cc), .val (.int cd), .val (.ref x), .val (.ref y), .val (.ref g), .val (.ref s1), .val (.int 2), .val (.int 2), .val (.int (((2 : Int32) + (2 : Int32)) + (4 : Int32))), .val (.int ((1 : Int32) + (2 : Int32)))] [(.int (Int32.ofNat 5)), (.ref s1)])) := cc205
      obtain ⟨cq207, kq207, qa207, qb207, qc207⟩ := isOf hZ183 e204 Es1
      obtain ⟨_, _, ⟨T207, L207, k207, n207⟩, -, X207, ⟨Lc207, hQ207, l207, y207, z207⟩, st207⟩ := X204.virtualBack hx (y := (⟨"java/lang/String", "charAt", "(I)C"⟩ : MethodName)) (z := (⟨"java/lang/String", "charAt", "(I)C"⟩ : MethodName)) hown183 (mvT hZ183 w_221) (mvT hZ183 w_69) (notFace_of_selects (args := #[]) (mvT hZ183 w_71)) (mvT hZ183 w_71) (mvT hZ183 w_70) (by decide) (backOf (W := 0) (own_chl l Z a0 hw s1 ([lc, ca, cb, 44, 32, cc, cd, hc] : List Int32) 5 z f T183.heap n0 Zs17 fa184 O2 P5 O4 hf Hf (by simp)) hZ183 w_72 w_7 (by decide) (by decide)) qa207 qc207 (g := (mkF m 328 #[.val (.int p1), .val (.int p2), .val (.int p3), .val (.int p4), .val (.int p5), .val (.int li), .val (.int hi), .val (.int t1), .val (.int t2), .val (.int ca), .val (.int cb), .val (.int cc), .val (.int cd), .val (.ref x), .val (.ref y), .val (.ref g), .val (.ref s1), .val (.int 2), .val (.int 2), .val (.int (((2 : Int32) + (2 : Int32)) + (4 : Int32))), .val (.int ((1 : Int32) + (2 : Int32)))] [(.int (Int32.ofNat 5)), (.ref s1)])) rfl (by rw [hml]; rfl) (Steps.refl _) (argsL := [(.int (Int32.ofNat 5))]) (rest := []) (lenOf own_pd7 rfl) rfl (by show 2 * 0 + _ ≤ _; exact Nat.le_of_eq rfl) (own_d hby at_328) (fun _ _ => ⟨rfl, e204, Nat.le_of_ble_eq_true rfl, Nat.le_of_ble_eq_true rfl⟩)
      dsimp only [Pt.U, Pt.locs, Pt.cells, Pt.slots] at X207 l207 y207 z207 st207 hQ207
      subst l207 y207 z207
      obtain ⟨rfl, Nq207, eq207⟩ := hQ207
      have N207 := Fr.app N204 Nq207
      have e207 : T207.heap = T183.heap := eq207
      have cc208 : Steps p.tables e below S0' (T207.setTop (mkF m 349 #[.val (.int p1), .val (.int p2), .val (.int p3), .val (.int p4), .val (.int p5), .val (.int li), .val (.int hi), .val (.int t1), .val (.int t2), .val (.int ca), .val (.int cb), .val (.int cc), .val (.int cd), .val (.ref x), .val (.ref y), .val (.ref g), .val (.ref s1), .val (.int 2), .val (.int 2), .val (.int (((2 : Int32) + (2 : Int32)) + (4 : Int32))), .val (.int ((1 : Int32) + (2 : Int32)))] [(.int (((1 : Int32) + (2 : Int32)) + (3 : Int32))), (.ref s1)])) := Steps.trans (Steps.trans cz206 st207) (by
        refine XS.iload X207.here hx rfl (own_d hby at_331) rfl ?_
        refine XS.icmpYes X207.here hx rfl (pc0 := 333) rfl (own_d hby at_333) rfl (ii_eq_t rfl) (by decide) rfl ?_
        refine XS.iload X207.here hx rfl (own_d hby at_338) rfl ?_
        refine XS.ifNo X207.here hx rfl (own_d hby at_340) rfl (i0_eq_f qt2) ?_
        refine XS.aload X207.here hx rfl (own_d hby at_343) rfl rfl ?_
        refine XS.iload X207.here hx rfl (own_d hby at_345) rfl ?_
        refine iconstV X207.here hx rfl 3 (own_d hby at_347) (by decide) ?_
        refine XS.iadd X207.here hx rfl (own_d hby at_348) rfl ?_
        exact Steps.refl _)
      have cz209 : Steps p.tables e below S0' (T207.setTop (mkF m 349 #[.val (.int p1), .val (.int p2), .val (.int p3), .val (.int p4), .val (.int p5), .val (.int li), .val (.int hi), .val (.int t1), .val (.int t2), .val (.int ca), .val (.int cb), .val (.int cc), .val (.int cd), .val (.ref x), .val (.ref y), .val (.ref g), .val (.ref s1), .val (.int 2), .val (.int 2), .val (.int (((2 : Int32) + (2 : Int32)) + (4 : Int32))), .val (.int ((1 : Int32) + (2 : Int32)))] [(.int (Int32.ofNat 6)), (.ref s1)])) := cc208
      obtain ⟨cq210, kq210, qa210, qb210, qc210⟩ := isOf hZ183 e207 Es1
      obtain ⟨_, _, ⟨T210, L210, k210, n210⟩, -, X210, ⟨Lc210, hQ210, l210, y210, z210⟩, st210⟩ := X207.virtualBack hx (y := (⟨"java/lang/String", "charAt", "(I)C"⟩ : MethodName)) (z := (⟨"java/lang/String", "charAt", "(I)C"⟩ : MethodName)) hown183 (mvT hZ183 w_221) (mvT hZ183 w_69) (notFace_of_selects (args := #[]) (mvT hZ183 w_71)) (mvT hZ183 w_71) (mvT hZ183 w_70) (by decide) (backOf (W := 0) (own_chl l Z a0 hw s1 ([lc, ca, cb, 44, 32, cc, cd, hc] : List Int32) 6 z f T183.heap n0 Zs17 fa184 O2 P5 O4 hf Hf (by simp)) hZ183 w_72 w_7 (by decide) (by decide)) qa210 qc210 (g := (mkF m 349 #[.val (.int p1), .val (.int p2), .val (.int p3), .val (.int p4), .val (.int p5), .val (.int li), .val (.int hi), .val (.int t1), .val (.int t2), .val (.int ca), .val (.int cb), .val (.int cc), .val (.int cd), .val (.ref x), .val (.ref y), .val (.ref g), .val (.ref s1), .val (.int 2), .val (.int 2), .val (.int (((2 : Int32) + (2 : Int32)) + (4 : Int32))), .val (.int ((1 : Int32) + (2 : Int32)))] [(.int (Int32.ofNat 6)), (.ref s1)])) rfl (by rw [hml]; rfl) (Steps.refl _) (argsL := [(.int (Int32.ofNat 6))]) (rest := []) (lenOf own_pd7 rfl) rfl (by show 2 * 0 + _ ≤ _; exact Nat.le_of_eq rfl) (own_d hby at_349) (fun _ _ => ⟨rfl, e207, Nat.le_of_ble_eq_true rfl, Nat.le_of_ble_eq_true rfl⟩)
      dsimp only [Pt.U, Pt.locs, Pt.cells, Pt.slots] at X210 l210 y210 z210 st210 hQ210
      subst l210 y210 z210
      obtain ⟨rfl, Nq210, eq210⟩ := hQ210
      have N210 := Fr.app N207 Nq210
      have e210 : T210.heap = T183.heap := eq210
      have cc211 : Steps p.tables e below S0' (T210.setTop (mkF m 365 #[.val (.int p1), .val (.int p2), .val (.int p3), .val (.int p4), .val (.int p5), .val (.int li), .val (.int hi), .val (.int t1), .val (.int t2), .val (.int ca), .val (.int cb), .val (.int cc), .val (.int cd), .val (.ref x), .val (.ref y), .val (.ref g), .val (.ref s1), .val (.int 2), .val (.int 2), .val (.int (((2 : Int32) + (2 : Int32)) + (4 : Int32))), .val (.int ((1 : Int32) + (2 : Int32)))] [(.int ((((2 : Int32) + (2 : Int32)) + (4 : Int32)) - (1 : Int32))), (.ref s1)])) := Steps.trans (Steps.trans cz209 st210) (by
        refine XS.iload X210.here hx rfl (own_d hby at_352) rfl ?_
        refine XS.icmpYes X210.here hx rfl (pc0 := 354) rfl (own_d hby at_354) rfl (ii_eq_t rfl) (by decide) rfl ?_
        refine XS.aload X210.here hx rfl (own_d hby at_359) rfl rfl ?_
        refine XS.iload X210.here hx rfl (own_d hby at_361) rfl ?_
        refine iconstV X210.here hx rfl 1 (own_d hby at_363) (by decide) ?_
        refine XS.isub X210.here hx rfl (own_d hby at_364) rfl ?_
        exact Steps.refl _)
      have cz212 : Steps p.tables e below S0' (T210.setTop (mkF m 365 #[.val (.int p1), .val (.int p2), .val (.int p3), .val (.int p4), .val (.int p5), .val (.int li), .val (.int hi), .val (.int t1), .val (.int t2), .val (.int ca), .val (.int cb), .val (.int cc), .val (.int cd), .val (.ref x), .val (.ref y), .val (.ref g), .val (.ref s1), .val (.int 2), .val (.int 2), .val (.int (((2 : Int32) + (2 : Int32)) + (4 : Int32))), .val (.int ((1 : Int32) + (2 : Int32)))] [(.int (Int32.ofNat 7)), (.ref s1)])) := cc211
      obtain ⟨cq213, kq213, qa213, qb213, qc213⟩ := isOf hZ183 e210 Es1
      obtain ⟨_, _, ⟨T213, L213, k213, n213⟩, -, X213, ⟨Lc213, hQ213, l213, y213, z213⟩, st213⟩ := X210.virtualBack hx (y := (⟨"java/lang/String", "charAt", "(I)C"⟩ : MethodName)) (z := (⟨"java/lang/String", "charAt", "(I)C"⟩ : MethodName)) hown183 (mvT hZ183 w_221) (mvT hZ183 w_69) (notFace_of_selects (args := #[]) (mvT hZ183 w_71)) (mvT hZ183 w_71) (mvT hZ183 w_70) (by decide) (backOf (W := 0) (own_chl l Z a0 hw s1 ([lc, ca, cb, 44, 32, cc, cd, hc] : List Int32) 7 z f T183.heap n0 Zs17 fa184 O2 P5 O4 hf Hf (by simp)) hZ183 w_72 w_7 (by decide) (by decide)) qa213 qc213 (g := (mkF m 365 #[.val (.int p1), .val (.int p2), .val (.int p3), .val (.int p4), .val (.int p5), .val (.int li), .val (.int hi), .val (.int t1), .val (.int t2), .val (.int ca), .val (.int cb), .val (.int cc), .val (.int cd), .val (.ref x), .val (.ref y), .val (.ref g), .val (.ref s1), .val (.int 2), .val (.int 2), .val (.int (((2 : Int32) + (2 : Int32)) + (4 : Int32))), .val (.int ((1 : Int32) + (2 : Int32)))] [(.int (Int32.ofNat 7)), (.ref s1)])) rfl (by rw [hml]; rfl) (Steps.refl _) (argsL := [(.int (Int32.ofNat 7))]) (rest := []) (lenOf own_pd7 rfl) rfl (by show 2 * 0 + _ ≤ _; exact Nat.le_of_eq rfl) (own_d hby at_365) (fun _ _ => ⟨rfl, e210, Nat.le_of_ble_eq_true rfl, Nat.le_of_ble_eq_true rfl⟩)
      dsimp only [Pt.U, Pt.locs, Pt.cells, Pt.slots] at X213 l213 y213 z213 st213 hQ213
      subst l213 y213 z213
      obtain ⟨rfl, Nq213, eq213⟩ := hQ213
      have N213 := Fr.app N210 Nq213
      have e213 : T213.heap = T183.heap := eq213
      have cc214 : Steps p.tables e below S0' (T213.setTop (mkF m 370 #[.val (.int p1), .val (.int p2), .val (.int p3), .val (.int p4), .val (.int p5), .val (.int li), .val (.int hi), .val (.int t1), .val (.int t2), .val (.int ca), .val (.int cb), .val (.int cc), .val (.int cd), .val (.ref x), .val (.ref y), .val (.ref g), .val (.ref s1), .val (.int 2), .val (.int 2), .val (.int (((2 : Int32) + (2 : Int32)) + (4 : Int32))), .val (.int ((1 : Int32) + (2 : Int32)))] [(.int hi), (.int hc)])) := Steps.trans (Steps.trans cz212 st213) (by
        refine XS.iload X213.here hx rfl (own_d hby at_368) rfl ?_
        exact Steps.refl _)
      obtain ⟨w215, hw215, c_w215⟩ : ∃ w : Int32, w = (if hi = 0 then 41 else 93) ∧ Steps p.tables e below S0' (T213.setTop (mkF m 380 #[.val (.int p1), .val (.int p2), .val (.int p3), .val (.int p4), .val (.int p5), .val (.int li), .val (.int hi), .val (.int t1), .val (.int t2), .val (.int ca), .val (.int cb), .val (.int cc), .val (.int cd), .val (.ref x), .val (.ref y), .val (.ref g), .val (.ref s1), .val (.int 2), .val (.int 2), .val (.int (((2 : Int32) + (2 : Int32)) + (4 : Int32))), .val (.int ((1 : Int32) + (2 : Int32)))] [(.int w), (.int hc)])) := by
        by_cases hq : hi = 0
        · refine ⟨41, (if_pos hq).symm, cc214.trans ?_⟩
          refine XS.ifYes X213.here hx rfl (pc0 := 370) rfl (own_d hby at_370) rfl (i0_eq_t hq) (by decide) rfl ?_
          refine bipushV X213.here hx rfl 41 (own_d hby at_378) (by decide) ?_
          exact Steps.refl _
        · refine ⟨93, (if_neg hq).symm, cc214.trans ?_⟩
          refine XS.ifNo X213.here hx rfl (own_d hby at_370) rfl (i0_eq_f hq) ?_
          refine bipushV X213.here hx rfl 93 (own_d hby at_373) (by decide) ?_
          refine XS.goto X213.here hx rfl (pc0 := 375) rfl (own_d hby at_375) (by decide) rfl ?_
          exact Steps.refl _
      have cc216 : Steps p.tables e below S0' (T213.setTop (mkF m 388 #[.val (.int p1), .val (.int p2), .val (.int p3), .val (.int p4), .val (.int p5), .val (.int li), .val (.int hi), .val (.int t1), .val (.int t2), .val (.int ca), .val (.int cb), .val (.int cc), .val (.int cd), .val (.ref x), .val (.ref y), .val (.ref g), .val (.ref s1), .val (.int 2), .val (.int 2), .val (.int (((2 : Int32) + (2 : Int32)) + (4 : Int32))), .val (.int ((1 : Int32) + (2 : Int32)))] [(.int 1)])) := Steps.trans c_w215 (by
        refine XS.icmpNo X213.here hx rfl (own_d hby at_380) rfl (ii_ne_f (ehc.trans hw215.symm)) ?_
        refine iconstV X213.here hx rfl 1 (own_d hby at_383) (by decide) ?_
        refine XS.goto X213.here hx rfl (pc0 := 384) rfl (own_d hby at_384) (by decide) rfl ?_
        exact Steps.refl _)
      have cE := cc216
      rw [hS0'] at cE
      obtain ⟨fs, hr_, hrun, hended, hE⟩ := X213.leaveW hS183 (by rw [e213]; exact hk183) (v := some (.int 1)) (fun h => by rw [Bd.returns] at h; cases h)
      have CE := C183.trans (CHv.at X213 hZ183 hEL C183.1)
      refine ⟨_, _, cE.trans (X213.ireturnOut hx Bd.returns (rfl) (by simp) (own_d hby at_388) hr_), hrun, hended, _, _, rfl, ?_, ?_, hE.1, hE.2.1, hE.2.2.1, hE.2.2.2.mono (by first | decide | omega) (by first | decide | omega)⟩
      · show Q_own_law Z p1 p2 p3 p4 p5 z f h0 n0 _ T213.heap _
        rw [e213]
        exact ⟨rfl, N213⟩
      · rw [hh]
        show CHr Z EL s.vm h0 T213.vm T213.heap
        rw [e213]
        exact CE
theorem own_eqS {args : Array Value} {s : State} {C n d : String} {k : Int32} (h : (Jvm.Cond.eq (Term.static C n d) (Term.int k)).before args s = true) : (Term.static C n d).eval args s none [] s = some (.int k) := by
  have hv := Cond.before_iff.mp h
  obtain ⟨a, b, ha, hb, -, hk⟩ := cmp_v (Or.inl hv)
  obtain rfl : b = .int k := Option.some.inj (hb.symm.trans (Term.int_eval k))
  obtain ⟨z, rfl⟩ := hk
  have e : z = k := gotT (Cond.eq_ints ha (Term.int_eval k)) hv
  rw [ha, e]
set_option maxRecDepth 65536 in
set_option maxHeartbeats 40000000 in
theorem comes_1 {Post : Tables → Env → Array Value → State → Outcome → State → Prop} (hpost : ∀ tb e args s v u, (limb_1_1.after args s (.returned v) u = true ∧ limb_1_2.after args s (.returned v) u = true ∧ True) → ReturnedEndW s (.returned v) u (Jvm.fieldLocs frame_1_writes args s ++ Jvm.arrayLocs frame_1_arrays args s ++ Jvm.staticLocs frame_1_statics s) 48 6400 → Post tb e args s (.returned v) u) :
    ArmFor flags0 classFile x code maxLocals ret World_1 tables_1 room_1 Calls_1 rest_1 Pre_1 Post := by
  intro l hfl _ _ p e ha hc hk s m args below hf hA hF happ hP
  obtain ⟨hcalls, hrest, hpre⟩ := hP
  obtain ⟨-, -, -, hnamed, -, -, -, hat⟩ := (Spec.applies_iff hf).mp happ
  obtain ⟨hg, hn⟩ := and_e (Cond.before_iff.mp (show (Jvm.Cond.and given_1 narrow_1).before args s = true from hpre))
  obtain ⟨hcnt, g0⟩ := and_e hg
  obtain ⟨hi0, g1⟩ := and_e g0
  obtain ⟨hi1, g2⟩ := and_e g1
  obtain ⟨hi2, g3⟩ := and_e g2
  obtain ⟨hi3, g4⟩ := and_e g3
  obtain ⟨w0, w1, w2, w3, w4, rfl⟩ : ∃ w0 w1 w2 w3 w4 : Value, args = #[w0, w1, w2, w3, w4] := by
    have hs : args.size = 5 := by simpa [Cond.value, given_1] using hcnt
    obtain ⟨L⟩ := args
    match L, hs with
    | [w0, w1, w2, w3, w4], _ => exact ⟨w0, w1, w2, w3, w4, rfl⟩
  have hw := fun d (hd : d ∈ tables_1) => atoms_spec (ws := Jvm.Cond.code x code maxLocals ret :: tables_1) hat d (List.mem_cons_of_mem _ hd)
  obtain ⟨hsets, hown0⟩ := atoms_of _ (rest_1_c_eq ▸ (show rest_1_c.before _ s = true from hrest))
  obtain ⟨i0, e0⟩ := is_v hi0
  obtain rfl : w0 = (.int i0) := Option.some.inj e0
  obtain ⟨i1, e1⟩ := is_v hi1
  obtain rfl : w1 = (.int i1) := Option.some.inj e1
  obtain ⟨i2, e2⟩ := is_v hi2
  obtain rfl : w2 = (.int i2) := Option.some.inj e2
  obtain ⟨i3, e3⟩ := is_v hi3
  obtain rfl : w3 = (.int i3) := Option.some.inj e3
  obtain ⟨i4, e4⟩ := is_v g4
  obtain rfl : w4 = (.int i4) := Option.some.inj e4
  have n5 := not_v (Cond.before_iff.mp (hsets _ (List.mem_of_getElem? (i := 2) rfl)))
  obtain ⟨z, ez⟩ := is_v (Cond.before_iff.mp (hsets _ (List.mem_of_getElem? (i := 1) rfl)))
  have S12 : Sta s s.heap "java/lang/String" "COMPACT_STRINGS" "Z" (.int z) := Sta.start ez (Or.inl (hsets _ (List.mem_of_getElem? (i := 0) rfl)))
  have c17 : ¬ (z = (0 : Int32)) := gotF (Cond.eq_ints ez (Term.int_eval (0))) n5
  obtain ⟨G3, e14, rG3⟩ := isR_v (Cond.before_iff.mp (hsets _ (List.mem_of_getElem? (i := 8) rfl)))
  have O4 : Sta s s.heap "jdk/internal/util/Preconditions" "SIOOBE_FORMATTER" "Ljava/util/function/BiFunction;" G3 := Sta.start e14 (Or.inl (hsets _ (List.mem_of_getElem? (i := 7) rfl)))
  have hCH0 : CHv s EL s.vm s.heap := CHv.start (own_EW hw) (fun p hp => hcalls.1 p hp) (hsets _ (List.mem_of_getElem? (i := 2) rfl)) (hw _ (List.mem_of_getElem? (i := 19) rfl)) (hw _ (List.mem_of_getElem? (i := 15) rfl))
  obtain ⟨n, o, h1, h2, h3, _, L, rfl, ⟨rfl, N⟩, -, hq⟩ := own_law l s _ hw tables_1 i0 i1 i2 i3 i4 z G3 s.heap s.heap.size (Nat.le_refl _) (Old.start s) S12 c17 O4 rG3 p e ha hc hk s m _ below hf ((Spec.applies_iff_loose hf).mp happ).1 ⟨rfl, State.Warmed39.refl s, rfl, hCH0⟩ trivial
  refine ⟨n, _, h1, h2, h3, hpost _ _ _ _ _ _ ⟨Cond.after_iff.mpr rfl, Cond.after_iff.mpr (eq_i res_at (Term.int_eval (1)) rfl), trivial⟩ ⟨hq.1, hq.2.1, hq.2.2.1, (hq.2.2.2.sift fun y hy => Or.inr (N y hy)).mono (by decide) (by decide)⟩⟩
theorem main_1_1 : Claimed_1_1 := comes_1 fun _ _ _ _ _ _ h hF => ⟨h.1, hF⟩
theorem main_1_2 : Claimed_1_2 := comes_1 fun _ _ _ _ _ _ h hF => ⟨h.2.1, hF⟩
end Jvm.Pilot.@@N@@
namespace Jvm.Pilot.@@N@@
open Jvm Jvm.ClassFile Sem Op Lib Jvm.Free Jvm.Stand Jvm.Pilot.@@N@@.Jvm.D
/-! MADE BY PROGRAM (witnessworld.py) out of the Statement's table words and the real class files: 29 classes; the members and pool entries that the words name. The judged class is class 1, her method 1. -/
namespace start1
open Jvm.ClassFile
def u (s : String) : CpInfo := .utf8 (stringToUtf16 s)
/-- a pool by its gaps: so many unusable entries, then the entry; so many at the end -/
def gap : Nat → List CpInfo → List CpInfo
  | 0, r => r
  | n + 1, r => .unusable :: gap n r
def poolList (es : List (Nat × CpInfo)) (last : Nat) : List CpInfo := es.foldr (fun e r => gap e.1 (e.2 :: r)) (gap last [])
def pool (es : List (Nat × CpInfo)) (last : Nat) : Array CpInfo := ⟨poolList es last⟩
def fileOf (pool : Array CpInfo) (this : Nat) (attrs : Array Attribute := #[]) (ms : Array MethodInfo := #[]) (fl : Nat := 33) (sup : Nat := 0) (ifs : Array Nat := #[]) (fds : Array FieldInfo := #[]) : ClassFile where
  minorVersion := 0
  majorVersion := 65
  constantPool := pool
  accessFlags := fl
  thisClass := this
  superClass := sup
  interfaces := ifs
  fields := fds
  methods := ms
  attributes := attrs
def plain (name : String) (sup : Option ClassId) : Class where
  name := name
  kind := .ordinary
  loader := none
  accessFlags := 33
  super := sup
  interfaces := #[]
  cf := none
  fields := #[]
  methods := #[]
  instanceTypes := #[]
  staticTypes := #[]
  resolved := #[]
  callSites := []
  init := .initialized
  statics := none
  mirror := none

def pool0 : Array CpInfo := pool [(5, u "<init>"), (0, u "()V"), (1, .class_ 10), (1, u "java/lang/Object")] 113

def k0c0 : Code := { maxStack := 0, maxLocals := 1, code := object_method_1_code, exceptionTable := #[], attributes := #[] }
def k0m0 : Method := { name := "<init>", desc := "()V", sig := { parameters := [], returnType := none }, accessFlags := 1, code := some k0c0 }
/-- java/lang/Object -/
def k0 : Class := { plain "java/lang/Object" none with
  accessFlags := 33
  interfaces := #[]
  cf := some (fileOf pool0 8 #[] #[{ accessFlags := 1, nameIndex := 5, descriptorIndex := 6, attributes := #[] }] 33 0 #[] #[])
  fields := #[]
  methods := #[k0m0]
  instanceTypes := #[]
  staticTypes := #[]
  resolved := Array.replicate 124 none
  statics := none }

def pool1 : Array CpInfo := pool [(2, .class_ 4), (1, u "java/lang/Object"), (0, u "<init>"), (0, u "()V"), (0, .methodref 8 9), (0, .class_ 10), (0, .nameAndType 11 12), (0, u "com/example/firm_roles/firmroles/RoleRangeToStringPinLaw"), (0, u "nameChar"), (0, u "(I)C"), (0, .class_ 14), (0, u "java/lang/String"), (0, .methodref 13 16), (0, .nameAndType 5 17), (0, u "([C)V"), (0, .methodref 13 19), (0, .nameAndType 20 21), (0, u "valueOf"), (0, u "(C)Ljava/lang/String;"), (0, .class_ 23), (0, u "com/example/firm_roles/firmroles/RoleRange"), (0, .class_ 25), (0, u "com/example/firm_roles/firmroles/Name"), (0, .methodref 24 27), (0, .nameAndType 5 28), (0, u "(Ljava/lang/String;)V"), (0, .methodref 22 30), (0, .nameAndType 5 31), (0, u "(Lcom/example/firm_roles/firmroles/Name;ZLcom/example/firm_roles/firmroles/Name;Z)V"), (0, .methodref 22 33), (0, .nameAndType 34 35), (0, u "toString"), (0, u "()Ljava/lang/String;"), (0, .methodref 13 37), (0, .nameAndType 38 39), (0, u "length"), (0, u "()I"), (0, .methodref 13 41), (0, .nameAndType 42 12), (0, u "charAt"), (0, .integer 2147483647), (2, u "law"), (0, u "(IIIII)Z")] 3

def k1m0 : Method := { name := "<init>", desc := "()V", sig := { parameters := [], returnType := none }, accessFlags := 1, code := none }
def k1c1 : Code := { maxStack := 7, maxLocals := 21, code := code, exceptionTable := #[], attributes := #[] }
def k1m1 : Method := { name := "law", desc := "(IIIII)Z", sig := { parameters := [.int, .int, .int, .int, .int], returnType := some .boolean }, accessFlags := 9, code := some k1c1 }
def k1c2 : Code := { maxStack := 3, maxLocals := 2, code := method_3_code, exceptionTable := #[], attributes := #[] }
def k1m2 : Method := { name := "nameChar", desc := "(I)C", sig := { parameters := [.int], returnType := some .char }, accessFlags := 10, code := some k1c2 }
/-- com/example/firm_roles/firmroles/RoleRangeToStringPinLaw -/
def k1 : Class := { plain "com/example/firm_roles/firmroles/RoleRangeToStringPinLaw" (some 0) with
  accessFlags := 49
  interfaces := #[]
  cf := some (fileOf pool1 8 #[] #[{ accessFlags := 1, nameIndex := 5, descriptorIndex := 6, attributes := #[] }, { accessFlags := 9, nameIndex := 46, descriptorIndex := 47, attributes := #[] }, { accessFlags := 10, nameIndex := 11, descriptorIndex := 12, attributes := #[] }] 49 2 #[] #[])
  fields := #[]
  methods := #[k1m0, k1m1, k1m2]
  instanceTypes := #[]
  staticTypes := #[]
  resolved := Array.replicate 51 none
  statics := none }

def pool2 : Array CpInfo := pool [(1, .class_ 2), (0, u "java/io/Serializable"), (0, .class_ 4), (0, u "java/lang/Object")] 2

/-- java/io/Serializable -/
def k2 : Class := { plain "java/io/Serializable" (some 0) with
  accessFlags := 1537
  interfaces := #[]
  cf := some (fileOf pool2 1 #[] #[] 1537 3 #[] #[])
  fields := #[]
  methods := #[]
  instanceTypes := #[]
  staticTypes := #[]
  resolved := Array.replicate 7 none
  statics := none }

def pool3 : Array CpInfo := pool [(1, .class_ 2), (0, u "java/lang/Comparable"), (0, .class_ 4), (0, u "java/lang/Object")] 7

/-- java/lang/Comparable -/
def k3 : Class := { plain "java/lang/Comparable" (some 0) with
  accessFlags := 1537
  interfaces := #[]
  cf := some (fileOf pool3 1 #[] #[] 1537 3 #[] #[])
  fields := #[]
  methods := #[]
  instanceTypes := #[]
  staticTypes := #[]
  resolved := Array.replicate 12 none
  statics := none }

def pool4 : Array CpInfo := pool [(2, .class_ 4), (1, u "java/lang/CharSequence"), (42, .class_ 48), (0, u "java/lang/CharSequence$1CodePointIterator"), (10, .class_ 60), (0, u "java/lang/CharSequence$1CharIterator"), (5, .class_ 67), (0, u "java/lang/Object")] 63

/-- java/lang/CharSequence -/
def k4 : Class := { plain "java/lang/CharSequence" (some 0) with
  accessFlags := 1537
  interfaces := #[]
  cf := some (fileOf pool4 2 #[.nestMembers #[47, 59]] #[] 1537 66 #[] #[])
  fields := #[]
  methods := #[]
  instanceTypes := #[]
  staticTypes := #[]
  resolved := Array.replicate 131 none
  statics := none }

def pool5 : Array CpInfo := pool [(1, .class_ 2), (0, u "java/lang/constant/Constable"), (0, .class_ 4), (0, u "java/lang/Object")] 6

/-- java/lang/constant/Constable -/
def k5 : Class := { plain "java/lang/constant/Constable" (some 0) with
  accessFlags := 1537
  interfaces := #[]
  cf := some (fileOf pool5 1 #[] #[] 1537 3 #[] #[])
  fields := #[]
  methods := #[]
  instanceTypes := #[]
  staticTypes := #[]
  resolved := Array.replicate 11 none
  statics := none }

def pool6 : Array CpInfo := pool [(1, .class_ 2), (0, u "java/lang/constant/ConstantDesc"), (0, .class_ 4), (0, u "java/lang/Object")] 32

/-- java/lang/constant/ConstantDesc -/
def k6 : Class := { plain "java/lang/constant/ConstantDesc" (some 0) with
  accessFlags := 1537
  interfaces := #[]
  cf := some (fileOf pool6 1 #[] #[] 1537 3 #[] #[])
  fields := #[]
  methods := #[]
  instanceTypes := #[]
  staticTypes := #[]
  resolved := Array.replicate 37 none
  statics := none }

def pool7 : Array CpInfo := pool [(1, .methodref 2 3), (0, .class_ 4), (0, .nameAndType 5 6), (0, u "java/lang/Object"), (0, u "<init>"), (0, u "()V"), (2, .fieldref 10 11), (0, .class_ 12), (0, .nameAndType 13 14), (0, u "java/lang/String"), (0, u "value"), (0, u "[B"), (0, .fieldref 10 16), (0, .nameAndType 17 18), (0, u "coder"), (0, u "B"), (2, u "hash"), (0, u "I"), (2, u "hashIsZero"), (0, u "Z"), (0, .methodref 10 28), (0, .nameAndType 5 29), (0, u "([CIILjava/lang/Void;)V"), (8, .fieldref 10 39), (0, .nameAndType 40 26), (0, u "COMPACT_STRINGS"), (1, .class_ 44), (1, u "java/lang/StringUTF16"), (0, u "compress"), (1, .methodref 42 48), (0, .nameAndType 49 50), (0, u "coderFromArrayLen"), (0, u "([BI)B"), (2, u "toBytes"), (0, .methodref 55 56), (0, .class_ 57), (0, .nameAndType 58 59), (0, u "java/util/Arrays"), (0, u "copyOfRange"), (0, u "([BII)[B"), (47, .class_ 109), (1, u "java/lang/StringLatin1"), (32, u "()Z"), (34, .methodref 42 178), (0, .nameAndType 45 179), (0, u "([CII)[B"), (13, .class_ 195), (1, u "java/lang/System"), (13, .methodref 10 210), (0, .nameAndType 5 211), (0, u "([BB)V"), (0, .methodref 193 213), (0, .nameAndType 214 215), (0, u "arraycopy"), (0, u "(Ljava/lang/Object;ILjava/lang/Object;II)V"), (118, u "()I"), (0, .methodref 10 336), (0, .nameAndType 17 337), (0, u "()B"), (2, u "()[B"), (22, u "([BI)C"), (5, u "(C)Z"), (21, u "(II)V"), (35, u "(I)C"), (61, .methodref 10 490), (0, .nameAndType 5 491), (0, u "(Ljava/lang/AbstractStringBuilder;Ljava/lang/Void;)V"), (0, .methodref 10 493), (0, .nameAndType 494 142), (0, u "isLatin1"), (0, .methodref 107 496), (0, .nameAndType 497 363), (0, u "charAt"), (3, u "checkIndex"), (4, .nameAndType 507 334), (0, u "length"), (24, u "getBytes"), (16, .methodref 550 506), (0, .class_ 551), (0, u "java/lang/AbstractStringBuilder"), (0, .methodref 550 553), (0, .nameAndType 554 340), (0, u "getValue"), (20, .class_ 576), (0, u "java/lang/CharSequence"), (22, u "CASE_INSENSITIVE_ORDER"), (0, u "Ljava/util/Comparator;"), (91, u "isEmpty"), (89, u "valueOf"), (0, u "(C)Ljava/lang/String;"), (37, u "([BIB)V"), (188, u "([C)V"), (4, .methodref 107 1016), (0, .nameAndType 1017 369), (0, u "canEncode"), (0, .methodref 107 1019), (0, .nameAndType 53 1020), (0, u "(C)[B"), (26, .methodref 550 493), (5, .fieldref 1054 1055), (0, .class_ 1056), (0, .nameAndType 1057 1058), (0, u "jdk/internal/util/Preconditions"), (0, u "SIOOBE_FORMATTER"), (0, u "Ljava/util/function/BiFunction;"), (0, .methodref 1054 1060), (0, .nameAndType 501 1061), (0, u "(IILjava/util/function/BiFunction;)I"), (39, u "serialPersistentFields"), (0, u "[Ljava/io/ObjectStreamField;"), (0, .class_ 1104), (0, u "java/lang/String$CaseInsensitiveComparator"), (1, .class_ 1107), (0, u "java/io/Serializable"), (0, .class_ 1109), (0, u "java/lang/Comparable"), (0, .class_ 1111), (0, u "java/lang/constant/Constable"), (0, .class_ 1113), (0, u "java/lang/constant/ConstantDesc"), (2, u "serialVersionUID"), (0, u "J"), (3, u "REPL"), (0, u "C"), (2, u "LATIN1"), (1, u "UTF16"), (105, u "(Ljava/lang/StringBuilder;)V")] 217

def k7m0 : Method := { name := "<init>", desc := "()V", sig := { parameters := [], returnType := none }, accessFlags := 1, code := none }
def k7c1 : Code := { maxStack := 5, maxLocals := 2, code := jdk_42_method_3_code, exceptionTable := #[], attributes := #[] }
def k7m1 : Method := { name := "<init>", desc := "([C)V", sig := { parameters := [(.array .char)], returnType := none }, accessFlags := 1, code := some k7c1 }
def k7c2 : Code := { maxStack := 3, maxLocals := 2, code := jdk_42_method_53_code, exceptionTable := #[], attributes := #[] }
def k7m2 : Method := { name := "<init>", desc := "(Ljava/lang/StringBuilder;)V", sig := { parameters := [(.object "java/lang/StringBuilder")], returnType := none }, accessFlags := 1, code := some k7c2 }
def k7c3 : Code := { maxStack := 2, maxLocals := 1, code := jdk_42_method_54_code, exceptionTable := #[], attributes := #[] }
def k7m3 : Method := { name := "length", desc := "()I", sig := { parameters := [], returnType := some .int }, accessFlags := 1, code := some k7c3 }
def k7c4 : Code := { maxStack := 1, maxLocals := 1, code := jdk_42_method_55_code, exceptionTable := #[], attributes := #[] }
def k7m4 : Method := { name := "isEmpty", desc := "()Z", sig := { parameters := [], returnType := some .boolean }, accessFlags := 1, code := some k7c4 }
def k7c5 : Code := { maxStack := 2, maxLocals := 2, code := jdk_42_method_56_code, exceptionTable := #[], attributes := #[] }
def k7m5 : Method := { name := "charAt", desc := "(I)C", sig := { parameters := [.int], returnType := some .char }, accessFlags := 1, code := some k7c5 }
def k7c6 : Code := { maxStack := 4, maxLocals := 1, code := jdk_42_method_139_code, exceptionTable := #[], attributes := #[] }
def k7m6 : Method := { name := "valueOf", desc := "(C)Ljava/lang/String;", sig := { parameters := [.char], returnType := some (.object "java/lang/String") }, accessFlags := 9, code := some k7c6 }
def k7c7 : Code := { maxStack := 5, maxLocals := 4, code := jdk_42_method_147_code, exceptionTable := #[], attributes := #[] }
def k7m7 : Method := { name := "getBytes", desc := "([BIB)V", sig := { parameters := [(.array .byte), .int, .byte], returnType := none }, accessFlags := 0, code := some k7c7 }
def k7c8 : Code := { maxStack := 4, maxLocals := 6, code := jdk_42_method_149_code, exceptionTable := #[], attributes := #[] }
def k7m8 : Method := { name := "<init>", desc := "([CIILjava/lang/Void;)V", sig := { parameters := [(.array .char), .int, .int, (.object "java/lang/Void")], returnType := none }, accessFlags := 2, code := some k7c8 }
def k7c9 : Code := { maxStack := 5, maxLocals := 5, code := jdk_42_method_150_code, exceptionTable := #[], attributes := #[] }
def k7m9 : Method := { name := "<init>", desc := "(Ljava/lang/AbstractStringBuilder;Ljava/lang/Void;)V", sig := { parameters := [(.object "java/lang/AbstractStringBuilder"), (.object "java/lang/Void")], returnType := none }, accessFlags := 0, code := some k7c9 }
def k7c10 : Code := { maxStack := 2, maxLocals := 3, code := jdk_42_method_151_code, exceptionTable := #[], attributes := #[] }
def k7m10 : Method := { name := "<init>", desc := "([BB)V", sig := { parameters := [(.array .byte), .byte], returnType := none }, accessFlags := 0, code := some k7c10 }
def k7c11 : Code := { maxStack := 1, maxLocals := 1, code := jdk_42_method_152_code, exceptionTable := #[], attributes := #[] }
def k7m11 : Method := { name := "coder", desc := "()B", sig := { parameters := [], returnType := some .byte }, accessFlags := 0, code := some k7c11 }
def k7c12 : Code := { maxStack := 1, maxLocals := 1, code := jdk_42_method_154_code, exceptionTable := #[], attributes := #[] }
def k7m12 : Method := { name := "isLatin1", desc := "()Z", sig := { parameters := [], returnType := some .boolean }, accessFlags := 0, code := some k7c12 }
def k7c13 : Code := { maxStack := 3, maxLocals := 2, code := jdk_42_method_155_code, exceptionTable := #[], attributes := #[] }
def k7m13 : Method := { name := "checkIndex", desc := "(II)V", sig := { parameters := [.int, .int], returnType := none }, accessFlags := 8, code := some k7c13 }
/-- java/lang/String -/
def k7 : Class := { plain "java/lang/String" (some 0) with
  accessFlags := 49
  interfaces := #[2, 3, 4, 5, 6]
  cf := some (fileOf pool7 10 #[.nestMembers #[1103]] #[{ accessFlags := 1, nameIndex := 5, descriptorIndex := 6, attributes := #[] }, { accessFlags := 1, nameIndex := 5, descriptorIndex := 1010, attributes := #[] }, { accessFlags := 1, nameIndex := 5, descriptorIndex := 1233, attributes := #[] }, { accessFlags := 1, nameIndex := 507, descriptorIndex := 334, attributes := #[] }, { accessFlags := 1, nameIndex := 692, descriptorIndex := 142, attributes := #[] }, { accessFlags := 1, nameIndex := 497, descriptorIndex := 427, attributes := #[] }, { accessFlags := 9, nameIndex := 782, descriptorIndex := 783, attributes := #[] }, { accessFlags := 0, nameIndex := 532, descriptorIndex := 821, attributes := #[] }, { accessFlags := 2, nameIndex := 5, descriptorIndex := 29, attributes := #[] }, { accessFlags := 0, nameIndex := 5, descriptorIndex := 491, attributes := #[] }, { accessFlags := 0, nameIndex := 5, descriptorIndex := 211, attributes := #[] }, { accessFlags := 0, nameIndex := 17, descriptorIndex := 337, attributes := #[] }, { accessFlags := 0, nameIndex := 494, descriptorIndex := 142, attributes := #[] }, { accessFlags := 8, nameIndex := 501, descriptorIndex := 391, attributes := #[] }] 49 2 #[1106, 1108, 575, 1110, 1112] #[{ accessFlags := 18, nameIndex := 13, descriptorIndex := 14, attributes := #[] }, { accessFlags := 18, nameIndex := 17, descriptorIndex := 18, attributes := #[] }, { accessFlags := 2, nameIndex := 21, descriptorIndex := 22, attributes := #[] }, { accessFlags := 2, nameIndex := 25, descriptorIndex := 26, attributes := #[] }, { accessFlags := 26, nameIndex := 1116, descriptorIndex := 1117, attributes := #[] }, { accessFlags := 24, nameIndex := 40, descriptorIndex := 26, attributes := #[] }, { accessFlags := 26, nameIndex := 1101, descriptorIndex := 1102, attributes := #[] }, { accessFlags := 26, nameIndex := 1121, descriptorIndex := 1122, attributes := #[] }, { accessFlags := 25, nameIndex := 599, descriptorIndex := 600, attributes := #[] }, { accessFlags := 24, nameIndex := 1125, descriptorIndex := 18, attributes := #[] }, { accessFlags := 24, nameIndex := 1127, descriptorIndex := 18, attributes := #[] }])
  fields := #[{ name := "value", type := (.array .byte), accessFlags := 18, slot := 0, constantValue := 0 }, { name := "coder", type := .byte, accessFlags := 18, slot := 1, constantValue := 0 }, { name := "hash", type := .int, accessFlags := 2, slot := 2, constantValue := 0 }, { name := "hashIsZero", type := .boolean, accessFlags := 2, slot := 3, constantValue := 0 }, { name := "serialVersionUID", type := .long, accessFlags := 26, slot := 0, constantValue := 0 }, { name := "COMPACT_STRINGS", type := .boolean, accessFlags := 24, slot := 1, constantValue := 0 }, { name := "serialPersistentFields", type := (.array (.object "java/io/ObjectStreamField")), accessFlags := 26, slot := 2, constantValue := 0 }, { name := "REPL", type := .char, accessFlags := 26, slot := 3, constantValue := 0 }, { name := "CASE_INSENSITIVE_ORDER", type := (.object "java/util/Comparator"), accessFlags := 25, slot := 4, constantValue := 0 }, { name := "LATIN1", type := .byte, accessFlags := 24, slot := 5, constantValue := 0 }, { name := "UTF16", type := .byte, accessFlags := 24, slot := 6, constantValue := 0 }]
  methods := #[k7m0, k7m1, k7m2, k7m3, k7m4, k7m5, k7m6, k7m7, k7m8, k7m9, k7m10, k7m11, k7m12, k7m13]
  instanceTypes := #[(.array .byte), .byte, .int, .boolean]
  staticTypes := #[.long, .boolean, (.array (.object "java/io/ObjectStreamField")), .char, (.object "java/util/Comparator"), .byte, .byte]
  resolved := Array.replicate 1451 none
  statics := some 0 }

def pool8 : Array CpInfo := pool [(1, .class_ 2), (0, u "java/lang/String"), (1, .class_ 6), (1, u "java/lang/Object"), (0, u "<init>"), (0, u "()V"), (0, .methodref 1 10), (0, .nameAndType 11 12), (0, u "checkIndex"), (0, u "(II)V"), (1, .class_ 16), (1, u "java/lang/StringLatin1"), (36, u "([BI)C"), (36, u "canEncode"), (14, u "(C)Z"), (15, u "$assertionsDisabled"), (0, u "Z"), (98, .class_ 223), (1, u "java/lang/StringLatin1$LinesSpliterator"), (28, u "charAt"), (127, u "toBytes"), (1, u "(C)[B"), (7, .class_ 391), (0, u "java/lang/StringLatin1$CharsSpliterator")] 3

def k8m0 : Method := { name := "<init>", desc := "()V", sig := { parameters := [], returnType := none }, accessFlags := 0, code := none }
def k8c1 : Code := { maxStack := 2, maxLocals := 2, code := jdk_43_method_2_code, exceptionTable := #[], attributes := #[] }
def k8m1 : Method := { name := "charAt", desc := "([BI)C", sig := { parameters := [(.array .byte), .int], returnType := some .char }, accessFlags := 9, code := some k8c1 }
def k8c2 : Code := { maxStack := 2, maxLocals := 1, code := jdk_43_method_3_code, exceptionTable := #[], attributes := #[] }
def k8m2 : Method := { name := "canEncode", desc := "(C)Z", sig := { parameters := [.char], returnType := some .boolean }, accessFlags := 9, code := some k8c2 }
def k8c3 : Code := { maxStack := 4, maxLocals := 1, code := jdk_43_method_46_code, exceptionTable := #[], attributes := #[] }
def k8m3 : Method := { name := "toBytes", desc := "(C)[B", sig := { parameters := [.char], returnType := some (.array .byte) }, accessFlags := 9, code := some k8c3 }
/-- java/lang/StringLatin1 -/
def k8 : Class := { plain "java/lang/StringLatin1" (some 0) with
  accessFlags := 48
  interfaces := #[]
  cf := some (fileOf pool8 14 #[.nestMembers #[390, 221]] #[{ accessFlags := 0, nameIndex := 7, descriptorIndex := 8, attributes := #[] }, { accessFlags := 9, nameIndex := 252, descriptorIndex := 53, attributes := #[] }, { accessFlags := 9, nameIndex := 90, descriptorIndex := 105, attributes := #[] }, { accessFlags := 9, nameIndex := 380, descriptorIndex := 382, attributes := #[] }] 48 4 #[] #[{ accessFlags := 4120, nameIndex := 121, descriptorIndex := 122, attributes := #[] }])
  fields := #[{ name := "$assertionsDisabled", type := .boolean, accessFlags := 4120, slot := 0, constantValue := 0 }]
  methods := #[k8m0, k8m1, k8m2, k8m3]
  instanceTypes := #[]
  staticTypes := #[.boolean]
  resolved := Array.replicate 395 none
  statics := none }

def pool9 : Array CpInfo := pool [(1, .methodref 2 3), (0, .class_ 4), (0, .nameAndType 5 6), (0, u "java/lang/Object"), (0, u "<init>"), (0, u "()V"), (0, .class_ 8), (0, u "java/lang/Record")] 13

def k9c0 : Code := { maxStack := 1, maxLocals := 1, code := jdk_30_method_1_code, exceptionTable := #[], attributes := #[] }
def k9m0 : Method := { name := "<init>", desc := "()V", sig := { parameters := [], returnType := none }, accessFlags := 4, code := some k9c0 }
/-- java/lang/Record -/
def k9 : Class := { plain "java/lang/Record" (some 0) with
  accessFlags := 1057
  interfaces := #[]
  cf := some (fileOf pool9 7 #[] #[{ accessFlags := 4, nameIndex := 5, descriptorIndex := 6, attributes := #[] }] 1057 2 #[] #[])
  fields := #[]
  methods := #[k9m0]
  instanceTypes := #[]
  staticTypes := #[]
  resolved := Array.replicate 22 none
  statics := none }

def pool10 : Array CpInfo := pool [(1, .methodref 2 3), (0, .class_ 4), (0, .nameAndType 5 6), (0, u "java/lang/Record"), (0, u "<init>"), (0, u "()V"), (0, .fieldref 8 9), (0, .class_ 10), (0, .nameAndType 11 12), (0, u "com/example/firm_roles/firmroles/RoleRange"), (0, u "low"), (0, u "Lcom/example/firm_roles/firmroles/Name;"), (0, .fieldref 8 14), (0, .nameAndType 15 16), (0, u "lowIncluded"), (0, u "Z"), (0, .fieldref 8 18), (0, .nameAndType 19 12), (0, u "high"), (0, .fieldref 8 21), (0, .nameAndType 22 16), (0, u "highIncluded"), (39, u "(Lcom/example/firm_roles/firmroles/Name;ZLcom/example/firm_roles/firmroles/Name;Z)V"), (0, .methodref 64 65), (0, .class_ 66), (0, .nameAndType 67 68), (0, u "com/example/firm_roles/firmroles/Name"), (0, u "value"), (0, u "()Ljava/lang/String;"), (10, .class_ 80), (0, u "java/lang/StringBuilder"), (0, .methodref 79 3), (0, .string 83), (0, u "["), (0, .string 85), (0, u "("), (0, .methodref 79 87), (0, .nameAndType 88 89), (0, u "append"), (0, u "(Ljava/lang/String;)Ljava/lang/StringBuilder;"), (0, .string 91), (0, u ", "), (0, .string 93), (0, u "]"), (0, .string 95), (0, u ")"), (0, .methodref 79 97), (0, .nameAndType 98 68), (0, u "toString")] 51

def k10c0 : Code := { maxStack := 2, maxLocals := 5, code := prog_27_method_1_code, exceptionTable := #[], attributes := #[] }
def k10m0 : Method := { name := "<init>", desc := "(Lcom/example/firm_roles/firmroles/Name;ZLcom/example/firm_roles/firmroles/Name;Z)V", sig := { parameters := [(.object "com/example/firm_roles/firmroles/Name"), .boolean, (.object "com/example/firm_roles/firmroles/Name"), .boolean], returnType := none }, accessFlags := 0, code := some k10c0 }
def k10c1 : Code := { maxStack := 2, maxLocals := 1, code := prog_27_method_4_code, exceptionTable := #[], attributes := #[] }
def k10m1 : Method := { name := "toString", desc := "()Ljava/lang/String;", sig := { parameters := [], returnType := some (.object "java/lang/String") }, accessFlags := 1, code := some k10c1 }
/-- com/example/firm_roles/firmroles/RoleRange -/
def k10 : Class := { plain "com/example/firm_roles/firmroles/RoleRange" (some 9) with
  accessFlags := 48
  interfaces := #[]
  cf := some (fileOf pool10 8 #[] #[{ accessFlags := 0, nameIndex := 5, descriptorIndex := 62, attributes := #[] }, { accessFlags := 1, nameIndex := 98, descriptorIndex := 68, attributes := #[] }] 48 2 #[] #[{ accessFlags := 18, nameIndex := 11, descriptorIndex := 12, attributes := #[] }, { accessFlags := 18, nameIndex := 15, descriptorIndex := 16, attributes := #[] }, { accessFlags := 18, nameIndex := 19, descriptorIndex := 12, attributes := #[] }, { accessFlags := 18, nameIndex := 22, descriptorIndex := 16, attributes := #[] }])
  fields := #[{ name := "low", type := (.object "com/example/firm_roles/firmroles/Name"), accessFlags := 18, slot := 0, constantValue := 0 }, { name := "lowIncluded", type := .boolean, accessFlags := 18, slot := 1, constantValue := 0 }, { name := "high", type := (.object "com/example/firm_roles/firmroles/Name"), accessFlags := 18, slot := 2, constantValue := 0 }, { name := "highIncluded", type := .boolean, accessFlags := 18, slot := 3, constantValue := 0 }]
  methods := #[k10m0, k10m1]
  instanceTypes := #[(.object "com/example/firm_roles/firmroles/Name"), .boolean, (.object "com/example/firm_roles/firmroles/Name"), .boolean]
  staticTypes := #[]
  resolved := Array.replicate 150 none
  statics := none }

def pool11 : Array CpInfo := pool [(1, .methodref 2 3), (0, .class_ 4), (0, .nameAndType 5 6), (0, u "java/lang/Record"), (0, u "<init>"), (0, u "()V"), (0, .string 8), (0, u "value"), (0, .methodref 10 11), (0, .class_ 12), (0, .nameAndType 13 14), (0, u "java/util/Objects"), (0, u "requireNonNull"), (0, u "(Ljava/lang/Object;Ljava/lang/String;)Ljava/lang/Object;"), (0, .methodref 16 17), (0, .class_ 18), (0, .nameAndType 19 20), (0, u "java/lang/String"), (0, u "isEmpty"), (0, u "()Z"), (6, u "(Ljava/lang/String;)V"), (0, .methodref 16 29), (0, .nameAndType 30 31), (0, u "length"), (0, u "()I"), (0, .class_ 33), (0, u "com/example/firm_roles/firmroles/Name"), (15, u "()Ljava/lang/String;"), (0, .methodref 16 51), (0, .nameAndType 52 53), (0, u "charAt"), (0, u "(I)C"), (0, .methodref 32 55), (0, .nameAndType 56 57), (0, u "isAllowed"), (0, u "(C)Z"), (18, .fieldref 32 77), (0, .nameAndType 8 78), (0, u "Ljava/lang/String;"), (11, u "MAX_LENGTH"), (0, u "I")] 25

def k11c0 : Code := { maxStack := 8, maxLocals := 3, code := prog_19_method_1_code, exceptionTable := #[], attributes := #[] }
def k11m0 : Method := { name := "<init>", desc := "(Ljava/lang/String;)V", sig := { parameters := [(.object "java/lang/String")], returnType := none }, accessFlags := 1, code := some k11c0 }
def k11c1 : Code := { maxStack := 2, maxLocals := 1, code := prog_19_method_2_code, exceptionTable := #[], attributes := #[] }
def k11m1 : Method := { name := "isAllowed", desc := "(C)Z", sig := { parameters := [.char], returnType := some .boolean }, accessFlags := 10, code := some k11c1 }
def k11c2 : Code := { maxStack := 1, maxLocals := 1, code := prog_19_method_6_code, exceptionTable := #[], attributes := #[] }
def k11m2 : Method := { name := "value", desc := "()Ljava/lang/String;", sig := { parameters := [], returnType := some (.object "java/lang/String") }, accessFlags := 1, code := some k11c2 }
/-- com/example/firm_roles/firmroles/Name -/
def k11 : Class := { plain "com/example/firm_roles/firmroles/Name" (some 9) with
  accessFlags := 49
  interfaces := #[]
  cf := some (fileOf pool11 32 #[] #[{ accessFlags := 1, nameIndex := 5, descriptorIndex := 27, attributes := #[] }, { accessFlags := 10, nameIndex := 56, descriptorIndex := 57, attributes := #[] }, { accessFlags := 1, nameIndex := 8, descriptorIndex := 49, attributes := #[] }] 49 2 #[] #[{ accessFlags := 18, nameIndex := 8, descriptorIndex := 78, attributes := #[] }, { accessFlags := 25, nameIndex := 90, descriptorIndex := 91, attributes := #[] }])
  fields := #[{ name := "value", type := (.object "java/lang/String"), accessFlags := 18, slot := 0, constantValue := 0 }, { name := "MAX_LENGTH", type := .int, accessFlags := 25, slot := 0, constantValue := 0 }]
  methods := #[k11m0, k11m1, k11m2]
  instanceTypes := #[(.object "java/lang/String")]
  staticTypes := #[.int]
  resolved := Array.replicate 117 none
  statics := none }

def pool12 : Array CpInfo := pool [(2, .class_ 4), (1, u "java/lang/Object"), (0, u "<init>"), (0, u "()V"), (35, .class_ 44), (1, u "java/util/Objects"), (0, u "requireNonNull"), (48, u "(Ljava/lang/Object;Ljava/lang/String;)Ljava/lang/Object;")] 89

def k12m0 : Method := { name := "<init>", desc := "()V", sig := { parameters := [], returnType := none }, accessFlags := 2, code := none }
def k12c1 : Code := { maxStack := 3, maxLocals := 2, code := jdk_31_method_11_code, exceptionTable := #[], attributes := #[] }
def k12m1 : Method := { name := "requireNonNull", desc := "(Ljava/lang/Object;Ljava/lang/String;)Ljava/lang/Object;", sig := { parameters := [(.object "java/lang/Object"), (.object "java/lang/String")], returnType := some (.object "java/lang/Object") }, accessFlags := 9, code := some k12c1 }
/-- java/util/Objects -/
def k12 : Class := { plain "java/util/Objects" (some 0) with
  accessFlags := 49
  interfaces := #[]
  cf := some (fileOf pool12 42 #[] #[{ accessFlags := 2, nameIndex := 5, descriptorIndex := 6, attributes := #[] }, { accessFlags := 9, nameIndex := 45, descriptorIndex := 94, attributes := #[] }] 49 2 #[] #[])
  fields := #[]
  methods := #[k12m0, k12m1]
  instanceTypes := #[]
  staticTypes := #[]
  resolved := Array.replicate 184 none
  statics := none }

def pool13 : Array CpInfo := pool [(2, .class_ 4), (1, u "java/lang/Object"), (0, u "<init>"), (0, u "()V"), (17, .class_ 26), (1, u "jdk/internal/util/Preconditions"), (6, u "checkIndex"), (21, .class_ 56), (0, u "jdk/internal/util/Preconditions$4"), (57, .class_ 115), (0, u "jdk/internal/util/Preconditions$1"), (7, u "SIOOBE_FORMATTER"), (0, u "Ljava/util/function/BiFunction;"), (0, .class_ 126), (0, u "jdk/internal/util/Preconditions$2"), (3, u "AIOOBE_FORMATTER"), (0, .class_ 132), (0, u "jdk/internal/util/Preconditions$3"), (3, u "IOOBE_FORMATTER"), (41, u "(IILjava/util/function/BiFunction;)I")] 15

def k13m0 : Method := { name := "<init>", desc := "()V", sig := { parameters := [], returnType := none }, accessFlags := 1, code := none }
def k13c1 : Code := { maxStack := 3, maxLocals := 3, code := jdk_41_method_11_code, exceptionTable := #[], attributes := #[] }
def k13m1 : Method := { name := "checkIndex", desc := "(IILjava/util/function/BiFunction;)I", sig := { parameters := [.int, .int, (.object "java/util/function/BiFunction")], returnType := some .int }, accessFlags := 9, code := some k13c1 }
/-- jdk/internal/util/Preconditions -/
def k13 : Class := { plain "jdk/internal/util/Preconditions" (some 0) with
  accessFlags := 33
  interfaces := #[]
  cf := some (fileOf pool13 24 #[.nestMembers #[55, 131, 125, 114]] #[{ accessFlags := 1, nameIndex := 5, descriptorIndex := 6, attributes := #[] }, { accessFlags := 9, nameIndex := 33, descriptorIndex := 178, attributes := #[] }] 33 2 #[] #[{ accessFlags := 25, nameIndex := 123, descriptorIndex := 124, attributes := #[] }, { accessFlags := 25, nameIndex := 130, descriptorIndex := 124, attributes := #[] }, { accessFlags := 25, nameIndex := 136, descriptorIndex := 124, attributes := #[] }])
  fields := #[{ name := "SIOOBE_FORMATTER", type := (.object "java/util/function/BiFunction"), accessFlags := 25, slot := 0, constantValue := 0 }, { name := "AIOOBE_FORMATTER", type := (.object "java/util/function/BiFunction"), accessFlags := 25, slot := 1, constantValue := 0 }, { name := "IOOBE_FORMATTER", type := (.object "java/util/function/BiFunction"), accessFlags := 25, slot := 2, constantValue := 0 }]
  methods := #[k13m0, k13m1]
  instanceTypes := #[]
  staticTypes := #[(.object "java/util/function/BiFunction"), (.object "java/util/function/BiFunction"), (.object "java/util/function/BiFunction")]
  resolved := Array.replicate 194 none
  statics := some 1 }

def pool14 : Array CpInfo := pool [(1, .class_ 2), (0, u "java/lang/Appendable"), (0, .class_ 4), (0, u "java/lang/Object")] 9

/-- java/lang/Appendable -/
def k14 : Class := { plain "java/lang/Appendable" (some 0) with
  accessFlags := 1537
  interfaces := #[]
  cf := some (fileOf pool14 1 #[] #[] 1537 3 #[] #[])
  fields := #[]
  methods := #[]
  instanceTypes := #[]
  staticTypes := #[]
  resolved := Array.replicate 14 none
  statics := none }

def pool15 : Array CpInfo := pool [(1, .class_ 2), (0, u "java/lang/String"), (0, .methodref 4 5), (0, .class_ 6), (0, .nameAndType 7 8), (0, u "java/lang/Object"), (0, u "<init>"), (0, u "()V"), (1, .class_ 12), (1, u "java/lang/AbstractStringBuilder"), (0, u "EMPTYVALUE"), (0, u "[B"), (0, .fieldref 10 16), (0, .nameAndType 17 14), (0, u "value"), (0, .fieldref 1 19), (0, .nameAndType 20 21), (0, u "COMPACT_STRINGS"), (0, u "Z"), (0, .fieldref 10 23), (0, .nameAndType 24 25), (0, u "coder"), (0, u "B"), (6, .methodref 1 33), (0, .nameAndType 34 35), (0, u "length"), (0, u "()I"), (4, .methodref 1 41), (0, .nameAndType 24 42), (0, u "()B"), (2, u "append"), (0, u "(Ljava/lang/String;)Ljava/lang/AbstractStringBuilder;"), (1, .class_ 49), (0, u "java/lang/CharSequence"), (19, u "(Ljava/lang/String;)V"), (5, u "maybeLatin1"), (3, .fieldref 10 80), (0, .nameAndType 81 82), (0, u "count"), (0, u "I"), (2, u "isLatin1"), (0, u "()Z"), (13, .methodref 10 101), (0, .nameAndType 102 103), (0, u "ensureCapacityInternal"), (0, u "(I)V"), (104, .methodref 10 209), (0, .nameAndType 210 211), (0, u "putStringAt"), (0, u "(ILjava/lang/String;)V"), (5, u "inflateIfNeededFor"), (2, .nameAndType 221 222), (0, u "getBytes"), (0, u "([BIB)V"), (174, .methodref 10 398), (0, .nameAndType 217 69), (0, .methodref 1 220), (3, u "()[B"), (40, .class_ 445), (0, u "java/lang/Appendable"), (106, u "getValue")] 56

def k15m0 : Method := { name := "<init>", desc := "()V", sig := { parameters := [], returnType := none }, accessFlags := 0, code := none }
def k15c1 : Code := { maxStack := 2, maxLocals := 2, code := jdk_68_method_2_code, exceptionTable := #[], attributes := #[] }
def k15m1 : Method := { name := "<init>", desc := "(I)V", sig := { parameters := [.int], returnType := none }, accessFlags := 0, code := some k15c1 }
def k15c2 : Code := { maxStack := 1, maxLocals := 1, code := jdk_68_method_6_code, exceptionTable := #[], attributes := #[] }
def k15m2 : Method := { name := "length", desc := "()I", sig := { parameters := [], returnType := some .int }, accessFlags := 1, code := some k15c2 }
def k15c3 : Code := { maxStack := 4, maxLocals := 3, code := jdk_68_method_9_code, exceptionTable := #[], attributes := #[] }
def k15m3 : Method := { name := "ensureCapacityInternal", desc := "(I)V", sig := { parameters := [.int], returnType := none }, accessFlags := 2, code := some k15c3 }
def k15c4 : Code := { maxStack := 3, maxLocals := 3, code := jdk_68_method_22_code, exceptionTable := #[], attributes := #[] }
def k15m4 : Method := { name := "append", desc := "(Ljava/lang/String;)Ljava/lang/AbstractStringBuilder;", sig := { parameters := [(.object "java/lang/String")], returnType := some (.object "java/lang/AbstractStringBuilder") }, accessFlags := 1, code := some k15c4 }
def k15c5 : Code := { maxStack := 1, maxLocals := 1, code := jdk_68_method_64_code, exceptionTable := #[], attributes := #[] }
def k15m5 : Method := { name := "getValue", desc := "()[B", sig := { parameters := [], returnType := some (.array .byte) }, accessFlags := 16, code := some k15c5 }
def k15c6 : Code := { maxStack := 1, maxLocals := 1, code := jdk_68_method_68_code, exceptionTable := #[], attributes := #[] }
def k15m6 : Method := { name := "isLatin1", desc := "()Z", sig := { parameters := [], returnType := some .boolean }, accessFlags := 16, code := some k15c6 }
def k15c7 : Code := { maxStack := 2, maxLocals := 2, code := jdk_68_method_71_code, exceptionTable := #[], attributes := #[] }
def k15m7 : Method := { name := "inflateIfNeededFor", desc := "(Ljava/lang/String;)V", sig := { parameters := [(.object "java/lang/String")], returnType := none }, accessFlags := 2, code := some k15c7 }
def k15c8 : Code := { maxStack := 4, maxLocals := 3, code := jdk_68_method_73_code, exceptionTable := #[], attributes := #[] }
def k15m8 : Method := { name := "putStringAt", desc := "(ILjava/lang/String;)V", sig := { parameters := [.int, (.object "java/lang/String")], returnType := none }, accessFlags := 2, code := some k15c8 }
/-- java/lang/AbstractStringBuilder -/
def k15 : Class := { plain "java/lang/AbstractStringBuilder" (some 0) with
  accessFlags := 1056
  interfaces := #[14, 4]
  cf := some (fileOf pool15 10 #[] #[{ accessFlags := 0, nameIndex := 7, descriptorIndex := 8, attributes := #[] }, { accessFlags := 0, nameIndex := 7, descriptorIndex := 103, attributes := #[] }, { accessFlags := 1, nameIndex := 34, descriptorIndex := 35, attributes := #[] }, { accessFlags := 2, nameIndex := 102, descriptorIndex := 103, attributes := #[] }, { accessFlags := 1, nameIndex := 45, descriptorIndex := 46, attributes := #[] }, { accessFlags := 16, nameIndex := 552, descriptorIndex := 403, attributes := #[] }, { accessFlags := 16, nameIndex := 85, descriptorIndex := 86, attributes := #[] }, { accessFlags := 2, nameIndex := 217, descriptorIndex := 69, attributes := #[] }, { accessFlags := 2, nameIndex := 210, descriptorIndex := 211, attributes := #[] }] 1056 4 #[444, 48] #[{ accessFlags := 0, nameIndex := 17, descriptorIndex := 14, attributes := #[] }, { accessFlags := 0, nameIndex := 24, descriptorIndex := 25, attributes := #[] }, { accessFlags := 0, nameIndex := 75, descriptorIndex := 21, attributes := #[] }, { accessFlags := 0, nameIndex := 81, descriptorIndex := 82, attributes := #[] }, { accessFlags := 26, nameIndex := 13, descriptorIndex := 14, attributes := #[] }])
  fields := #[{ name := "value", type := (.array .byte), accessFlags := 0, slot := 0, constantValue := 0 }, { name := "coder", type := .byte, accessFlags := 0, slot := 1, constantValue := 0 }, { name := "maybeLatin1", type := .boolean, accessFlags := 0, slot := 2, constantValue := 0 }, { name := "count", type := .int, accessFlags := 0, slot := 3, constantValue := 0 }, { name := "EMPTYVALUE", type := (.array .byte), accessFlags := 26, slot := 0, constantValue := 0 }]
  methods := #[k15m0, k15m1, k15m2, k15m3, k15m4, k15m5, k15m6, k15m7, k15m8]
  instanceTypes := #[(.array .byte), .byte, .boolean, .int]
  staticTypes := #[(.array .byte)]
  resolved := Array.replicate 609 none
  statics := none }

def pool16 : Array CpInfo := pool [(1, .methodref 2 3), (0, .class_ 4), (0, .nameAndType 5 6), (0, u "java/lang/AbstractStringBuilder"), (0, u "<init>"), (0, u "(I)V"), (11, .class_ 20), (1, u "java/lang/String"), (3, .class_ 26), (1, u "java/lang/StringBuilder"), (0, u "append"), (0, u "(Ljava/lang/String;)Ljava/lang/StringBuilder;"), (0, .methodref 2 30), (0, .nameAndType 27 31), (0, u "(Ljava/lang/String;)Ljava/lang/AbstractStringBuilder;"), (105, .methodref 18 138), (0, .nameAndType 5 139), (0, u "(Ljava/lang/StringBuilder;)V"), (5, u "()V"), (10, u "()I"), (186, .methodref 2 344), (0, .nameAndType 345 156), (0, u "length"), (3, .class_ 350), (0, u "java/lang/Appendable"), (0, .class_ 352), (0, u "java/io/Serializable"), (0, .class_ 354), (0, u "java/lang/Comparable"), (0, .class_ 356), (0, u "java/lang/CharSequence"), (0, u "serialVersionUID"), (0, u "J"), (40, u "toString"), (0, u "()Ljava/lang/String;")] 21

def k16c0 : Code := { maxStack := 2, maxLocals := 1, code := jdk_67_method_1_code, exceptionTable := #[], attributes := #[] }
def k16m0 : Method := { name := "<init>", desc := "()V", sig := { parameters := [], returnType := none }, accessFlags := 1, code := some k16c0 }
def k16c1 : Code := { maxStack := 2, maxLocals := 2, code := jdk_67_method_7_code, exceptionTable := #[], attributes := #[] }
def k16m1 : Method := { name := "append", desc := "(Ljava/lang/String;)Ljava/lang/StringBuilder;", sig := { parameters := [(.object "java/lang/String")], returnType := some (.object "java/lang/StringBuilder") }, accessFlags := 1, code := some k16c1 }
def k16c2 : Code := { maxStack := 3, maxLocals := 1, code := jdk_67_method_42_code, exceptionTable := #[], attributes := #[] }
def k16m2 : Method := { name := "toString", desc := "()Ljava/lang/String;", sig := { parameters := [], returnType := some (.object "java/lang/String") }, accessFlags := 1, code := some k16c2 }
def k16c3 : Code := { maxStack := 1, maxLocals := 1, code := jdk_67_method_93_code, exceptionTable := #[], attributes := #[] }
def k16m3 : Method := { name := "length", desc := "()I", sig := { parameters := [], returnType := some .int }, accessFlags := 4161, code := some k16c3 }
/-- java/lang/StringBuilder -/
def k16 : Class := { plain "java/lang/StringBuilder" (some 15) with
  accessFlags := 49
  interfaces := #[14, 2, 3, 4]
  cf := some (fileOf pool16 24 #[] #[{ accessFlags := 1, nameIndex := 5, descriptorIndex := 145, attributes := #[] }, { accessFlags := 1, nameIndex := 27, descriptorIndex := 28, attributes := #[] }, { accessFlags := 1, nameIndex := 399, descriptorIndex := 400, attributes := #[] }, { accessFlags := 4161, nameIndex := 345, descriptorIndex := 156, attributes := #[] }] 49 2 #[349, 351, 353, 355] #[{ accessFlags := 24, nameIndex := 357, descriptorIndex := 358, attributes := #[] }])
  fields := #[{ name := "serialVersionUID", type := .long, accessFlags := 24, slot := 0, constantValue := 0 }]
  methods := #[k16m0, k16m1, k16m2, k16m3]
  instanceTypes := #[(.array .byte), .byte, .boolean, .int]
  staticTypes := #[.long]
  resolved := Array.replicate 422 none
  statics := none }

def pool17 : Array CpInfo := pool [(2, .class_ 4), (1, u "java/lang/Object"), (0, u "<init>"), (0, u "()V"), (1, .class_ 10), (1, u "java/lang/System"), (0, u "allowSecurityManager"), (0, u "I"), (16, u "cons"), (0, u "Ljava/io/Console;"), (77, .class_ 110), (1, u "java/lang/System$CallersHolder"), (43, u "initialErrStream"), (0, u "Ljava/io/PrintStream;"), (19, u "security"), (0, u "Ljava/lang/SecurityManager;"), (31, .class_ 209), (0, u "java/lang/System$1"), (7, u "props"), (0, u "Ljava/util/Properties;"), (2, u "lineSeparator"), (0, u "Ljava/lang/String;"), (96, .class_ 321), (1, u "java/lang/System$LoggerFinder"), (5, .class_ 328), (0, u "java/lang/System$Logger"), (67, u "err"), (2, u "out"), (91, u "notSupportedJnuEncoding"), (15, u "in"), (17, u "initialIn"), (0, u "Ljava/io/InputStream;"), (35, u "bootLayer"), (0, u "Ljava/lang/ModuleLayer;"), (99, .class_ 664), (0, u "java/lang/System$2"), (9, u "NEVER"), (2, u "MAYBE"), (49, u "arraycopy"), (0, u "(Ljava/lang/Object;ILjava/lang/Object;II)V"), (72, .class_ 802), (0, u "java/lang/System$Logger$Level")] 31

def k17m0 : Method := { name := "<init>", desc := "()V", sig := { parameters := [], returnType := none }, accessFlags := 2, code := none }
def k17m1 : Method := { name := "arraycopy", desc := "(Ljava/lang/Object;ILjava/lang/Object;II)V", sig := { parameters := [(.object "java/lang/Object"), .int, (.object "java/lang/Object"), .int, .int], returnType := none }, accessFlags := 265, code := none }
/-- java/lang/System -/
def k17 : Class := { plain "java/lang/System" (some 0) with
  accessFlags := 49
  interfaces := #[]
  cf := some (fileOf pool17 8 #[.nestMembers #[319, 327, 801, 108, 663, 208]] #[{ accessFlags := 2, nameIndex := 5, descriptorIndex := 6, attributes := #[] }, { accessFlags := 265, nameIndex := 727, descriptorIndex := 728, attributes := #[] }] 49 2 #[] #[{ accessFlags := 25, nameIndex := 507, descriptorIndex := 526, attributes := #[] }, { accessFlags := 25, nameIndex := 399, descriptorIndex := 155, attributes := #[] }, { accessFlags := 25, nameIndex := 396, descriptorIndex := 155, attributes := #[] }, { accessFlags := 10, nameIndex := 525, descriptorIndex := 526, attributes := #[] }, { accessFlags := 26, nameIndex := 674, descriptorIndex := 12, attributes := #[] }, { accessFlags := 26, nameIndex := 677, descriptorIndex := 12, attributes := #[] }, { accessFlags := 10, nameIndex := 11, descriptorIndex := 12, attributes := #[] }, { accessFlags := 74, nameIndex := 175, descriptorIndex := 176, attributes := #[] }, { accessFlags := 10, nameIndex := 491, descriptorIndex := 222, attributes := #[] }, { accessFlags := 74, nameIndex := 29, descriptorIndex := 30, attributes := #[] }, { accessFlags := 74, nameIndex := 154, descriptorIndex := 155, attributes := #[] }, { accessFlags := 10, nameIndex := 217, descriptorIndex := 218, attributes := #[] }, { accessFlags := 10, nameIndex := 221, descriptorIndex := 222, attributes := #[] }, { accessFlags := 8, nameIndex := 562, descriptorIndex := 563, attributes := #[] }])
  fields := #[{ name := "in", type := (.object "java/io/InputStream"), accessFlags := 25, slot := 0, constantValue := 0 }, { name := "out", type := (.object "java/io/PrintStream"), accessFlags := 25, slot := 1, constantValue := 0 }, { name := "err", type := (.object "java/io/PrintStream"), accessFlags := 25, slot := 2, constantValue := 0 }, { name := "initialIn", type := (.object "java/io/InputStream"), accessFlags := 10, slot := 3, constantValue := 0 }, { name := "NEVER", type := .int, accessFlags := 26, slot := 4, constantValue := 0 }, { name := "MAYBE", type := .int, accessFlags := 26, slot := 5, constantValue := 0 }, { name := "allowSecurityManager", type := .int, accessFlags := 10, slot := 6, constantValue := 0 }, { name := "security", type := (.object "java/lang/SecurityManager"), accessFlags := 74, slot := 7, constantValue := 0 }, { name := "notSupportedJnuEncoding", type := (.object "java/lang/String"), accessFlags := 10, slot := 8, constantValue := 0 }, { name := "cons", type := (.object "java/io/Console"), accessFlags := 74, slot := 9, constantValue := 0 }, { name := "initialErrStream", type := (.object "java/io/PrintStream"), accessFlags := 74, slot := 10, constantValue := 0 }, { name := "props", type := (.object "java/util/Properties"), accessFlags := 10, slot := 11, constantValue := 0 }, { name := "lineSeparator", type := (.object "java/lang/String"), accessFlags := 10, slot := 12, constantValue := 0 }, { name := "bootLayer", type := (.object "java/lang/ModuleLayer"), accessFlags := 8, slot := 13, constantValue := 0 }]
  methods := #[k17m0, k17m1]
  instanceTypes := #[]
  staticTypes := #[(.object "java/io/InputStream"), (.object "java/io/PrintStream"), (.object "java/io/PrintStream"), (.object "java/io/InputStream"), .int, .int, .int, (.object "java/lang/SecurityManager"), (.object "java/lang/String"), (.object "java/io/Console"), (.object "java/io/PrintStream"), (.object "java/util/Properties"), (.object "java/lang/String"), (.object "java/lang/ModuleLayer")]
  resolved := Array.replicate 834 none
  statics := none }

def pool18 : Array CpInfo := pool [(2, .class_ 4), (1, u "java/lang/Object"), (0, u "<init>"), (0, u "()V"), (7, .class_ 16), (1, u "java/util/Arrays"), (57, .class_ 76), (1, u "java/util/Arrays$NaturalOrder"), (36, .class_ 115), (1, u "java/util/Arrays$LegacyMergeSort"), (1, u "Z"), (21, u "copyOfRange"), (10, .methodref 151 152), (0, .class_ 153), (0, .nameAndType 154 155), (0, u "java/lang/System"), (0, u "arraycopy"), (0, u "(Ljava/lang/Object;ILjava/lang/Object;II)V"), (148, .methodref 305 306), (0, .class_ 307), (0, .nameAndType 308 309), (0, u "java/lang/Math"), (0, u "min"), (0, u "(II)I"), (29, .methodref 14 340), (0, .nameAndType 341 342), (0, u "copyOfRangeByte"), (0, u "([BII)[B"), (0, .methodref 14 344), (0, .nameAndType 345 346), (0, u "checkLength"), (0, u "(II)V"), (28, .class_ 376), (0, u "java/util/Arrays$ArrayList"), (68, u "$assertionsDisabled"), (269, u "MIN_ARRAY_SORT_GRAN"), (0, u "I"), (2, u "INSERTIONSORT_THRESHOLD"), (255, .class_ 976), (0, u "java/util/Arrays$ArrayItr")] 52

def k18m0 : Method := { name := "<init>", desc := "()V", sig := { parameters := [], returnType := none }, accessFlags := 2, code := none }
def k18c1 : Code := { maxStack := 4, maxLocals := 2, code := jdk_65_method_131_code, exceptionTable := #[], attributes := #[] }
def k18m1 : Method := { name := "checkLength", desc := "(II)V", sig := { parameters := [.int, .int], returnType := none }, accessFlags := 10, code := some k18c1 }
def k18c2 : Code := { maxStack := 3, maxLocals := 3, code := jdk_65_method_132_code, exceptionTable := #[], attributes := #[] }
def k18m2 : Method := { name := "copyOfRange", desc := "([BII)[B", sig := { parameters := [(.array .byte), .int, .int], returnType := some (.array .byte) }, accessFlags := 9, code := some k18c2 }
def k18c3 : Code := { maxStack := 6, maxLocals := 5, code := jdk_65_method_133_code, exceptionTable := #[], attributes := #[] }
def k18m3 : Method := { name := "copyOfRangeByte", desc := "([BII)[B", sig := { parameters := [(.array .byte), .int, .int], returnType := some (.array .byte) }, accessFlags := 10, code := some k18c3 }
/-- java/util/Arrays -/
def k18 : Class := { plain "java/util/Arrays" (some 0) with
  accessFlags := 49
  interfaces := #[]
  cf := some (fileOf pool18 14 #[.nestMembers #[975, 375, 113, 74]] #[{ accessFlags := 2, nameIndex := 5, descriptorIndex := 6, attributes := #[] }, { accessFlags := 10, nameIndex := 345, descriptorIndex := 346, attributes := #[] }, { accessFlags := 9, nameIndex := 139, descriptorIndex := 342, attributes := #[] }, { accessFlags := 10, nameIndex := 341, descriptorIndex := 342, attributes := #[] }] 49 2 #[] #[{ accessFlags := 26, nameIndex := 715, descriptorIndex := 716, attributes := #[] }, { accessFlags := 26, nameIndex := 719, descriptorIndex := 716, attributes := #[] }, { accessFlags := 4120, nameIndex := 445, descriptorIndex := 117, attributes := #[] }])
  fields := #[{ name := "MIN_ARRAY_SORT_GRAN", type := .int, accessFlags := 26, slot := 0, constantValue := 0 }, { name := "INSERTIONSORT_THRESHOLD", type := .int, accessFlags := 26, slot := 1, constantValue := 0 }, { name := "$assertionsDisabled", type := .boolean, accessFlags := 4120, slot := 2, constantValue := 0 }]
  methods := #[k18m0, k18m1, k18m2, k18m3]
  instanceTypes := #[]
  staticTypes := #[.int, .int, .boolean]
  resolved := Array.replicate 1029 none
  statics := none }

def pool19 : Array CpInfo := pool [(1, .class_ 2), (0, u "java/lang/Math"), (1, .class_ 6), (1, u "java/lang/Object"), (0, u "<init>"), (0, u "()V"), (89, .class_ 100), (1, u "java/lang/Math$RandomNumberGeneratorHolder"), (71, u "negativeZeroFloatBits"), (0, u "J"), (2, u "negativeZeroDoubleBits"), (24, u "min"), (43, u "$assertionsDisabled"), (0, u "Z"), (88, u "(II)I"), (2, u "twoToTheDoubleScaleDown"), (0, u "D"), (4, u "twoToTheDoubleScaleUp"), (9, u "E"), (3, u "PI"), (2, u "TAU"), (2, u "DEGREES_TO_RADIANS"), (0, u "RADIANS_TO_DEGREES")] 94

def k19m0 : Method := { name := "<init>", desc := "()V", sig := { parameters := [], returnType := none }, accessFlags := 2, code := none }
def k19c1 : Code := { maxStack := 2, maxLocals := 2, code := jdk_29_method_69_code, exceptionTable := #[], attributes := #[] }
def k19m1 : Method := { name := "min", desc := "(II)I", sig := { parameters := [.int, .int], returnType := some .int }, accessFlags := 9, code := some k19c1 }
/-- java/lang/Math -/
def k19 : Class := { plain "java/lang/Math" (some 0) with
  accessFlags := 49
  interfaces := #[]
  cf := some (fileOf pool19 1 #[.nestMembers #[98]] #[{ accessFlags := 2, nameIndex := 7, descriptorIndex := 8, attributes := #[] }, { accessFlags := 9, nameIndex := 201, descriptorIndex := 335, attributes := #[] }] 49 4 #[] #[{ accessFlags := 25, nameIndex := 354, descriptorIndex := 339, attributes := #[] }, { accessFlags := 25, nameIndex := 358, descriptorIndex := 339, attributes := #[] }, { accessFlags := 25, nameIndex := 361, descriptorIndex := 339, attributes := #[] }, { accessFlags := 26, nameIndex := 364, descriptorIndex := 339, attributes := #[] }, { accessFlags := 26, nameIndex := 365, descriptorIndex := 339, attributes := #[] }, { accessFlags := 26, nameIndex := 172, descriptorIndex := 173, attributes := #[] }, { accessFlags := 26, nameIndex := 176, descriptorIndex := 173, attributes := #[] }, { accessFlags := 8, nameIndex := 344, descriptorIndex := 339, attributes := #[] }, { accessFlags := 8, nameIndex := 338, descriptorIndex := 339, attributes := #[] }, { accessFlags := 4120, nameIndex := 245, descriptorIndex := 246, attributes := #[] }])
  fields := #[{ name := "E", type := .double, accessFlags := 25, slot := 0, constantValue := 0 }, { name := "PI", type := .double, accessFlags := 25, slot := 1, constantValue := 0 }, { name := "TAU", type := .double, accessFlags := 25, slot := 2, constantValue := 0 }, { name := "DEGREES_TO_RADIANS", type := .double, accessFlags := 26, slot := 3, constantValue := 0 }, { name := "RADIANS_TO_DEGREES", type := .double, accessFlags := 26, slot := 4, constantValue := 0 }, { name := "negativeZeroFloatBits", type := .long, accessFlags := 26, slot := 5, constantValue := 0 }, { name := "negativeZeroDoubleBits", type := .long, accessFlags := 26, slot := 6, constantValue := 0 }, { name := "twoToTheDoubleScaleUp", type := .double, accessFlags := 8, slot := 7, constantValue := 0 }, { name := "twoToTheDoubleScaleDown", type := .double, accessFlags := 8, slot := 8, constantValue := 0 }, { name := "$assertionsDisabled", type := .boolean, accessFlags := 4120, slot := 9, constantValue := 0 }]
  methods := #[k19m0, k19m1]
  instanceTypes := #[]
  staticTypes := #[.double, .double, .double, .double, .double, .long, .long, .double, .double, .boolean]
  resolved := Array.replicate 460 none
  statics := none }

def pool20 : Array CpInfo := pool [(6, .class_ 8), (1, u "java/lang/Object"), (0, u "<init>"), (0, u "()V"), (1, .class_ 14), (1, u "java/lang/StringUTF16"), (31, u "$assertionsDisabled"), (0, u "Z"), (13, u "HI_BYTE_SHIFT"), (0, u "I"), (2, u "LO_BYTE_SHIFT"), (49, .methodref 12 116), (0, .nameAndType 117 118), (0, u "compress"), (0, u "([CI[BII)I"), (3, u "([CII)[B"), (138, u "coderFromArrayLen"), (0, u "([BI)B"), (106, .class_ 371), (1, u "java/lang/StringUTF16$LinesSpliterator"), (58, u "MAX_LENGTH"), (196, .class_ 628), (0, u "java/lang/StringUTF16$CodePointsSpliterator"), (0, .class_ 630), (0, u "java/lang/StringUTF16$CharsSpliterator")] 4

def k20m0 : Method := { name := "<init>", desc := "()V", sig := { parameters := [], returnType := none }, accessFlags := 0, code := none }
def k20c1 : Code := { maxStack := 2, maxLocals := 2, code := jdk_52_method_15_code, exceptionTable := #[], attributes := #[] }
def k20m1 : Method := { name := "coderFromArrayLen", desc := "([BI)B", sig := { parameters := [(.array .byte), .int], returnType := some .byte }, accessFlags := 8, code := some k20c1 }
def k20c2 : Code := { maxStack := 5, maxLocals := 6, code := jdk_52_method_16_code, exceptionTable := #[], attributes := #[] }
def k20m2 : Method := { name := "compress", desc := "([CII)[B", sig := { parameters := [(.array .char), .int, .int], returnType := some (.array .byte) }, accessFlags := 9, code := some k20c2 }
def k20c3 : Code := { maxStack := 3, maxLocals := 7, code := jdk_52_method_21_code, exceptionTable := #[], attributes := #[] }
def k20m3 : Method := { name := "compress", desc := "([CI[BII)I", sig := { parameters := [(.array .char), .int, (.array .byte), .int, .int], returnType := some .int }, accessFlags := 9, code := some k20c3 }
/-- java/lang/StringUTF16 -/
def k20 : Class := { plain "java/lang/StringUTF16" (some 0) with
  accessFlags := 48
  interfaces := #[]
  cf := some (fileOf pool20 12 #[.nestMembers #[627, 629, 369]] #[{ accessFlags := 0, nameIndex := 9, descriptorIndex := 10, attributes := #[] }, { accessFlags := 8, nameIndex := 261, descriptorIndex := 262, attributes := #[] }, { accessFlags := 9, nameIndex := 117, descriptorIndex := 122, attributes := #[] }, { accessFlags := 9, nameIndex := 117, descriptorIndex := 118, attributes := #[] }] 48 6 #[] #[{ accessFlags := 26, nameIndex := 61, descriptorIndex := 62, attributes := #[] }, { accessFlags := 26, nameIndex := 65, descriptorIndex := 62, attributes := #[] }, { accessFlags := 24, nameIndex := 430, descriptorIndex := 62, attributes := #[] }, { accessFlags := 4120, nameIndex := 46, descriptorIndex := 47, attributes := #[] }])
  fields := #[{ name := "HI_BYTE_SHIFT", type := .int, accessFlags := 26, slot := 0, constantValue := 0 }, { name := "LO_BYTE_SHIFT", type := .int, accessFlags := 26, slot := 1, constantValue := 0 }, { name := "MAX_LENGTH", type := .int, accessFlags := 24, slot := 2, constantValue := 0 }, { name := "$assertionsDisabled", type := .boolean, accessFlags := 4120, slot := 3, constantValue := 0 }]
  methods := #[k20m0, k20m1, k20m2, k20m3]
  instanceTypes := #[]
  staticTypes := #[.int, .int, .int, .boolean]
  resolved := Array.replicate 635 none
  statics := none }

def pool21 : Array CpInfo := pool [(9, u "<init>"), (6, .class_ 18), (1, u "java/lang/Object"), (0, u "()V"), (1, .class_ 23), (1, u "jdk/internal/util/ArraysSupport"), (0, u "LOG2_ARRAY_LONG_INDEX_SCALE"), (0, u "I"), (2, u "U"), (0, u "Ljdk/internal/misc/Unsafe;"), (8, u "BIG_ENDIAN"), (0, u "Z"), (8, u "LOG2_BYTE_BIT_SIZE"), (4, u "LOG2_ARRAY_INT_INDEX_SCALE"), (54, u "JLA"), (0, u "Ljdk/internal/access/JavaLangAccess;"), (11, u "LOG2_ARRAY_BOOLEAN_INDEX_SCALE"), (9, u "LOG2_ARRAY_BYTE_INDEX_SCALE"), (5, u "LOG2_ARRAY_CHAR_INDEX_SCALE"), (5, u "LOG2_ARRAY_SHORT_INDEX_SCALE"), (18, u "LOG2_ARRAY_FLOAT_INDEX_SCALE"), (24, u "LOG2_ARRAY_DOUBLE_INDEX_SCALE"), (89, u "T_BOOLEAN"), (2, u "T_CHAR"), (1, u "T_FLOAT"), (1, u "T_DOUBLE"), (1, u "T_BYTE"), (1, u "T_SHORT"), (1, u "T_INT"), (1, u "T_LONG"), (1, u "SOFT_MAX_ARRAY_LENGTH")] 83

def k21m0 : Method := { name := "<init>", desc := "()V", sig := { parameters := [], returnType := none }, accessFlags := 2, code := none }
/-- jdk/internal/util/ArraysSupport -/
def k21 : Class := { plain "jdk/internal/util/ArraysSupport" (some 0) with
  accessFlags := 33
  interfaces := #[]
  cf := some (fileOf pool21 21 #[] #[{ accessFlags := 2, nameIndex := 9, descriptorIndex := 19, attributes := #[] }] 33 16 #[] #[{ accessFlags := 24, nameIndex := 28, descriptorIndex := 29, attributes := #[] }, { accessFlags := 26, nameIndex := 38, descriptorIndex := 39, attributes := #[] }, { accessFlags := 25, nameIndex := 121, descriptorIndex := 25, attributes := #[] }, { accessFlags := 25, nameIndex := 131, descriptorIndex := 25, attributes := #[] }, { accessFlags := 25, nameIndex := 137, descriptorIndex := 25, attributes := #[] }, { accessFlags := 25, nameIndex := 143, descriptorIndex := 25, attributes := #[] }, { accessFlags := 25, nameIndex := 53, descriptorIndex := 25, attributes := #[] }, { accessFlags := 25, nameIndex := 24, descriptorIndex := 25, attributes := #[] }, { accessFlags := 25, nameIndex := 162, descriptorIndex := 25, attributes := #[] }, { accessFlags := 25, nameIndex := 187, descriptorIndex := 25, attributes := #[] }, { accessFlags := 26, nameIndex := 48, descriptorIndex := 25, attributes := #[] }, { accessFlags := 25, nameIndex := 277, descriptorIndex := 25, attributes := #[] }, { accessFlags := 25, nameIndex := 280, descriptorIndex := 25, attributes := #[] }, { accessFlags := 25, nameIndex := 282, descriptorIndex := 25, attributes := #[] }, { accessFlags := 25, nameIndex := 284, descriptorIndex := 25, attributes := #[] }, { accessFlags := 25, nameIndex := 286, descriptorIndex := 25, attributes := #[] }, { accessFlags := 25, nameIndex := 288, descriptorIndex := 25, attributes := #[] }, { accessFlags := 25, nameIndex := 290, descriptorIndex := 25, attributes := #[] }, { accessFlags := 25, nameIndex := 292, descriptorIndex := 25, attributes := #[] }, { accessFlags := 26, nameIndex := 108, descriptorIndex := 109, attributes := #[] }, { accessFlags := 25, nameIndex := 294, descriptorIndex := 25, attributes := #[] }])
  fields := #[{ name := "U", type := (.object "jdk/internal/misc/Unsafe"), accessFlags := 24, slot := 0, constantValue := 0 }, { name := "BIG_ENDIAN", type := .boolean, accessFlags := 26, slot := 1, constantValue := 0 }, { name := "LOG2_ARRAY_BOOLEAN_INDEX_SCALE", type := .int, accessFlags := 25, slot := 2, constantValue := 0 }, { name := "LOG2_ARRAY_BYTE_INDEX_SCALE", type := .int, accessFlags := 25, slot := 3, constantValue := 0 }, { name := "LOG2_ARRAY_CHAR_INDEX_SCALE", type := .int, accessFlags := 25, slot := 4, constantValue := 0 }, { name := "LOG2_ARRAY_SHORT_INDEX_SCALE", type := .int, accessFlags := 25, slot := 5, constantValue := 0 }, { name := "LOG2_ARRAY_INT_INDEX_SCALE", type := .int, accessFlags := 25, slot := 6, constantValue := 0 }, { name := "LOG2_ARRAY_LONG_INDEX_SCALE", type := .int, accessFlags := 25, slot := 7, constantValue := 0 }, { name := "LOG2_ARRAY_FLOAT_INDEX_SCALE", type := .int, accessFlags := 25, slot := 8, constantValue := 0 }, { name := "LOG2_ARRAY_DOUBLE_INDEX_SCALE", type := .int, accessFlags := 25, slot := 9, constantValue := 0 }, { name := "LOG2_BYTE_BIT_SIZE", type := .int, accessFlags := 26, slot := 10, constantValue := 0 }, { name := "T_BOOLEAN", type := .int, accessFlags := 25, slot := 11, constantValue := 0 }, { name := "T_CHAR", type := .int, accessFlags := 25, slot := 12, constantValue := 0 }, { name := "T_FLOAT", type := .int, accessFlags := 25, slot := 13, constantValue := 0 }, { name := "T_DOUBLE", type := .int, accessFlags := 25, slot := 14, constantValue := 0 }, { name := "T_BYTE", type := .int, accessFlags := 25, slot := 15, constantValue := 0 }, { name := "T_SHORT", type := .int, accessFlags := 25, slot := 16, constantValue := 0 }, { name := "T_INT", type := .int, accessFlags := 25, slot := 17, constantValue := 0 }, { name := "T_LONG", type := .int, accessFlags := 25, slot := 18, constantValue := 0 }, { name := "JLA", type := (.object "jdk/internal/access/JavaLangAccess"), accessFlags := 26, slot := 19, constantValue := 0 }, { name := "SOFT_MAX_ARRAY_LENGTH", type := .int, accessFlags := 25, slot := 20, constantValue := 0 }]
  methods := #[k21m0]
  instanceTypes := #[]
  staticTypes := #[(.object "jdk/internal/misc/Unsafe"), .boolean, .int, .int, .int, .int, .int, .int, .int, .int, .int, .int, .int, .int, .int, .int, .int, .int, .int, (.object "jdk/internal/access/JavaLangAccess"), .int]
  resolved := Array.replicate 378 none
  statics := none }

def pool22 : Array CpInfo := pool [(1, u "java/lang/Cloneable"), (0, .class_ 1), (0, u "java/lang/Object"), (0, .class_ 3)] 3

/-- java/lang/Cloneable -/
def k22 : Class := { plain "java/lang/Cloneable" (some 0) with
  accessFlags := 1537
  interfaces := #[]
  cf := some (fileOf pool22 2 #[] #[] 1537 4 #[] #[])
  fields := #[]
  methods := #[]
  instanceTypes := #[]
  staticTypes := #[]
  resolved := Array.replicate 8 none
  statics := none }

/-- the primitive byte -/
def k23 : Class := { plain "byte" none with kind := .primitive 'B', accessFlags := 0x411 }
/-- [B -/
def k24 : Class := { plain "[B" (some 0) with kind := .array 23 .byte, interfaces := #[22, 2], accessFlags := 1041 }

/-- the primitive char -/
def k25 : Class := { plain "char" none with kind := .primitive 'C', accessFlags := 0x411 }
/-- [C -/
def k26 : Class := { plain "[C" (some 0) with kind := .array 25 .char, interfaces := #[22, 2], accessFlags := 1041 }

/-- the primitive int -/
def k27 : Class := { plain "int" none with kind := .primitive 'I', accessFlags := 0x411 }
/-- [I -/
def k28 : Class := { plain "[I" (some 0) with kind := .array 27 .int, interfaces := #[22, 2], accessFlags := 1041 }

def heap : Heap := #[{ cls := 7, slots := #[.long 0, .int 1, .null, .int 0, .null, .int 0, .int 0], vm := .statics 7 },
  { cls := 13, slots := #[.null, .null, .null], vm := .statics 13 }]
def classes : Array Class := #[k0, k1, k2, k3, k4, k5, k6, k7, k8, k9, k10, k11, k12, k13, k14, k15, k16, k17, k18, k19, k20, k21, k22, k23, k24, k25, k26, k27, k28]
def interned : List (Array UInt16 × Addr) := []
def slotsUsed : Nat := 10
def theMethod : MethodId := ⟨1, 1⟩
def args0 : Array Value := #[.int 5, .int 5, .int 5, .int 5, .int 5]
def aboutOver (below : List Frame) : State where
  vm := { classes := classes, interned := interned.toArray }
  heap := heap
  slotsUsed := slotsUsed
  threads := #[{ frames := .invoking theMethod args0 :: below }]
def below0 : List Frame := [.native { method := ⟨0, 0⟩, args := #[] }]
def about1 : State := aboutOver below0
def p0 : Program := .bare "" "" ""
def e0 : Env := launch0.env 0 0 0
theorem w_frames : about1.frames = Frame.invoking theMethod args0 :: below0 := rfl
set_option maxRecDepth 65536 in
theorem w_args : argsFit about1.vm theMethod args0 = true := by decide +kernel
set_option maxRecDepth 65536 in
theorem w_heap : heapFits about1 = true := by decide +kernel
set_option maxRecDepth 65536 in
theorem w_runnable : about1.curStatus? = some .runnable := by decide +kernel
set_option maxRecDepth 65536 in
theorem w_alone : about1.alone = true := by decide +kernel
set_option maxRecDepth 65536 in
theorem w_named : about1.methodNamed? x = some theMethod := by decide +kernel
set_option maxRecDepth 65536 in
theorem w_hears : about1.hears theMethod below0 = true := by decide +kernel
set_option maxRecDepth 65536 in
theorem w_ripe : about1.ripe theMethod args0 below0 = true := by decide +kernel
theorem w_running : about1.status = .running := rfl
set_option maxRecDepth 65536 in
theorem w_room : about1.hasRoom e0.platform room_1 = true :=
  launch0.hasRoom_least _ room_1 (by decide +kernel) (by decide +kernel) (by decide +kernel) (by decide +kernel) (by decide +kernel) (by decide +kernel)
theorem allAtoms_all (ts : List Jvm.Cond) (a : Array Jvm.Value) (st : Jvm.State) : (allAtoms ts).before a st = ts.all (fun c => c.before a st) := by
  induction ts with
  | nil => rfl
  | cons c t ih =>
    show (Jvm.Cond.and c (allAtoms t)).before a st = _
    rw [Jvm.Cond.before_and, ih, List.all_cons]
def words1 : List Jvm.Cond := Jvm.Cond.code x code maxLocals ret :: tables_1
/-- a 'code' word, met by the world's own term for the bytes: nothing is compared byte by byte -/
theorem code_word {y : MethodName} {bytes : ByteArray} {mx : Nat} {rt : Option FieldType} {a : Array Value} {s : State} {m : MethodId} {meth : Method} {c : Code} (h1 : s.methodNamed? y = some m) (h2 : s.vm.method? m = some meth) (h3 : meth.code = some c) (h4 : c.code = bytes)
    (h5 : (c.maxLocals == mx && c.exceptionTable.isEmpty && decide (c.maxStack ≤ mostOperands) && decide (meth.sig.returnType = rt) && !meth.locks && decide (parseMethodDescriptor y.desc = some meth.sig)) = true) : (Jvm.Cond.code y bytes mx rt).before a s = true := by
  simp only [Bool.and_eq_true, beq_iff_eq, Bool.not_eq_true', decide_eq_true_eq] at h5
  obtain ⟨⟨⟨⟨⟨g1, g2⟩, g3⟩, g4⟩, g5⟩, g6⟩ := h5
  simp [Cond.before, Cond.holds, Cond.value, h1, h2, h3, h4, g1, g2, g3, g4, g5, g6]
def isCode : Jvm.Cond → Bool
  | .code _ _ _ _ => true
  | _ => false
theorem all_split {L : List Jvm.Cond} {P : Jvm.Cond → Bool} (h1 : L.all (fun c => isCode c || P c) = true) (h2 : ∀ c ∈ L.filter isCode, P c = true) : L.all P = true := by
  refine List.all_eq_true.mpr fun c hc => ?_
  have h := List.all_eq_true.mp h1 c hc
  rcases Bool.eq_false_or_eq_true (isCode c) with hi | hi
  · exact h2 c (List.mem_filter.mpr ⟨hc, hi⟩)
  · simpa [hi] using h
set_option maxRecDepth 65536 in
theorem w_c0 : (Jvm.Cond.code x code maxLocals ret).before args0 about1 = true := code_word (m := ⟨1, 1⟩) (meth := k1m1) (c := k1c1) (by decide +kernel) rfl rfl rfl (by decide +kernel)
set_option maxRecDepth 65536 in
theorem w_c1 : (Jvm.Cond.code ({ cls := "com/example/firm_roles/firmroles/RoleRangeToStringPinLaw", name := "nameChar", desc := "(I)C" } : Jvm.MethodName) method_3_code (2 : Nat) (Option.some Jvm.ClassFile.FieldType.char)).before args0 about1 = true := code_word (m := ⟨1, 2⟩) (meth := k1m2) (c := k1c2) (by decide +kernel) rfl rfl rfl (by decide +kernel)
set_option maxRecDepth 65536 in
theorem w_c2 : (Jvm.Cond.code ({ cls := "java/lang/String", name := "valueOf", desc := "(C)Ljava/lang/String;" } : Jvm.MethodName) jdk_42_method_139_code (1 : Nat) (Option.some (Jvm.ClassFile.FieldType.object "java/lang/String"))).before args0 about1 = true := code_word (m := ⟨7, 6⟩) (meth := k7m6) (c := k7c6) (by decide +kernel) rfl rfl rfl (by decide +kernel)
set_option maxRecDepth 65536 in
theorem w_c3 : (Jvm.Cond.code ({ cls := "java/lang/StringLatin1", name := "canEncode", desc := "(C)Z" } : Jvm.MethodName) jdk_43_method_3_code (1 : Nat) (Option.some Jvm.ClassFile.FieldType.boolean)).before args0 about1 = true := code_word (m := ⟨8, 2⟩) (meth := k8m2) (c := k8c2) (by decide +kernel) rfl rfl rfl (by decide +kernel)
set_option maxRecDepth 65536 in
theorem w_c4 : (Jvm.Cond.code ({ cls := "java/lang/StringLatin1", name := "toBytes", desc := "(C)[B" } : Jvm.MethodName) jdk_43_method_46_code (1 : Nat) (Option.some (Jvm.ClassFile.FieldType.array Jvm.ClassFile.FieldType.byte))).before args0 about1 = true := code_word (m := ⟨8, 3⟩) (meth := k8m3) (c := k8c3) (by decide +kernel) rfl rfl rfl (by decide +kernel)
set_option maxRecDepth 65536 in
theorem w_c5 : (Jvm.Cond.code ({ cls := "java/lang/String", name := "<init>", desc := "([BB)V" } : Jvm.MethodName) jdk_42_method_151_code (3 : Nat) (Option.none : Option Jvm.ClassFile.FieldType)).before args0 about1 = true := code_word (m := ⟨7, 10⟩) (meth := k7m10) (c := k7c10) (by decide +kernel) rfl rfl rfl (by decide +kernel)
set_option maxRecDepth 65536 in
theorem w_c6 : (Jvm.Cond.code ({ cls := "java/lang/Object", name := "<init>", desc := "()V" } : Jvm.MethodName) object_method_1_code (1 : Nat) (Option.none : Option Jvm.ClassFile.FieldType)).before args0 about1 = true := code_word (m := ⟨0, 0⟩) (meth := k0m0) (c := k0c0) (by decide +kernel) rfl rfl rfl (by decide +kernel)
set_option maxRecDepth 65536 in
theorem w_c7 : (Jvm.Cond.code ({ cls := "com/example/firm_roles/firmroles/Name", name := "<init>", desc := "(Ljava/lang/String;)V" } : Jvm.MethodName) prog_19_method_1_code (3 : Nat) (Option.none : Option Jvm.ClassFile.FieldType)).before args0 about1 = true := code_word (m := ⟨11, 0⟩) (meth := k11m0) (c := k11c0) (by decide +kernel) rfl rfl rfl (by decide +kernel)
set_option maxRecDepth 65536 in
theorem w_c8 : (Jvm.Cond.code ({ cls := "java/lang/Record", name := "<init>", desc := "()V" } : Jvm.MethodName) jdk_30_method_1_code (1 : Nat) (Option.none : Option Jvm.ClassFile.FieldType)).before args0 about1 = true := code_word (m := ⟨9, 0⟩) (meth := k9m0) (c := k9c0) (by decide +kernel) rfl rfl rfl (by decide +kernel)
set_option maxRecDepth 65536 in
theorem w_c9 : (Jvm.Cond.code ({ cls := "java/util/Objects", name := "requireNonNull", desc := "(Ljava/lang/Object;Ljava/lang/String;)Ljava/lang/Object;" } : Jvm.MethodName) jdk_31_method_11_code (2 : Nat) (Option.some (Jvm.ClassFile.FieldType.object "java/lang/Object"))).before args0 about1 = true := code_word (m := ⟨12, 1⟩) (meth := k12m1) (c := k12c1) (by decide +kernel) rfl rfl rfl (by decide +kernel)
set_option maxRecDepth 65536 in
theorem w_c10 : (Jvm.Cond.code ({ cls := "java/lang/String", name := "isEmpty", desc := "()Z" } : Jvm.MethodName) jdk_42_method_55_code (1 : Nat) (Option.some Jvm.ClassFile.FieldType.boolean)).before args0 about1 = true := code_word (m := ⟨7, 4⟩) (meth := k7m4) (c := k7c4) (by decide +kernel) rfl rfl rfl (by decide +kernel)
set_option maxRecDepth 65536 in
theorem w_c11 : (Jvm.Cond.code ({ cls := "java/lang/String", name := "length", desc := "()I" } : Jvm.MethodName) jdk_42_method_54_code (1 : Nat) (Option.some Jvm.ClassFile.FieldType.int)).before args0 about1 = true := code_word (m := ⟨7, 3⟩) (meth := k7m3) (c := k7c3) (by decide +kernel) rfl rfl rfl (by decide +kernel)
set_option maxRecDepth 65536 in
theorem w_c12 : (Jvm.Cond.code ({ cls := "java/lang/String", name := "coder", desc := "()B" } : Jvm.MethodName) jdk_42_method_152_code (1 : Nat) (Option.some Jvm.ClassFile.FieldType.byte)).before args0 about1 = true := code_word (m := ⟨7, 11⟩) (meth := k7m11) (c := k7c11) (by decide +kernel) rfl rfl rfl (by decide +kernel)
set_option maxRecDepth 65536 in
theorem w_c13 : (Jvm.Cond.code ({ cls := "java/lang/String", name := "charAt", desc := "(I)C" } : Jvm.MethodName) jdk_42_method_56_code (2 : Nat) (Option.some Jvm.ClassFile.FieldType.char)).before args0 about1 = true := code_word (m := ⟨7, 5⟩) (meth := k7m5) (c := k7c5) (by decide +kernel) rfl rfl rfl (by decide +kernel)
set_option maxRecDepth 65536 in
theorem w_c14 : (Jvm.Cond.code ({ cls := "java/lang/String", name := "isLatin1", desc := "()Z" } : Jvm.MethodName) jdk_42_method_154_code (1 : Nat) (Option.some Jvm.ClassFile.FieldType.boolean)).before args0 about1 = true := code_word (m := ⟨7, 12⟩) (meth := k7m12) (c := k7c12) (by decide +kernel) rfl rfl rfl (by decide +kernel)
set_option maxRecDepth 65536 in
theorem w_c15 : (Jvm.Cond.code ({ cls := "java/lang/StringLatin1", name := "charAt", desc := "([BI)C" } : Jvm.MethodName) jdk_43_method_2_code (2 : Nat) (Option.some Jvm.ClassFile.FieldType.char)).before args0 about1 = true := code_word (m := ⟨8, 1⟩) (meth := k8m1) (c := k8c1) (by decide +kernel) rfl rfl rfl (by decide +kernel)
set_option maxRecDepth 65536 in
theorem w_c16 : (Jvm.Cond.code ({ cls := "java/lang/String", name := "checkIndex", desc := "(II)V" } : Jvm.MethodName) jdk_42_method_155_code (2 : Nat) (Option.none : Option Jvm.ClassFile.FieldType)).before args0 about1 = true := code_word (m := ⟨7, 13⟩) (meth := k7m13) (c := k7c13) (by decide +kernel) rfl rfl rfl (by decide +kernel)
set_option maxRecDepth 65536 in
theorem w_c17 : (Jvm.Cond.code ({ cls := "jdk/internal/util/Preconditions", name := "checkIndex", desc := "(IILjava/util/function/BiFunction;)I" } : Jvm.MethodName) jdk_41_method_11_code (3 : Nat) (Option.some Jvm.ClassFile.FieldType.int)).before args0 about1 = true := code_word (m := ⟨13, 1⟩) (meth := k13m1) (c := k13c1) (by decide +kernel) rfl rfl rfl (by decide +kernel)
set_option maxRecDepth 65536 in
theorem w_c18 : (Jvm.Cond.code ({ cls := "com/example/firm_roles/firmroles/Name", name := "isAllowed", desc := "(C)Z" } : Jvm.MethodName) prog_19_method_2_code (1 : Nat) (Option.some Jvm.ClassFile.FieldType.boolean)).before args0 about1 = true := code_word (m := ⟨11, 1⟩) (meth := k11m1) (c := k11c1) (by decide +kernel) rfl rfl rfl (by decide +kernel)
set_option maxRecDepth 65536 in
theorem w_c19 : (Jvm.Cond.code ({ cls := "com/example/firm_roles/firmroles/RoleRange", name := "<init>", desc := "(Lcom/example/firm_roles/firmroles/Name;ZLcom/example/firm_roles/firmroles/Name;Z)V" } : Jvm.MethodName) prog_27_method_1_code (5 : Nat) (Option.none : Option Jvm.ClassFile.FieldType)).before args0 about1 = true := code_word (m := ⟨10, 0⟩) (meth := k10m0) (c := k10c0) (by decide +kernel) rfl rfl rfl (by decide +kernel)
set_option maxRecDepth 65536 in
theorem w_c20 : (Jvm.Cond.code ({ cls := "com/example/firm_roles/firmroles/RoleRange", name := "toString", desc := "()Ljava/lang/String;" } : Jvm.MethodName) prog_27_method_4_code (1 : Nat) (Option.some (Jvm.ClassFile.FieldType.object "java/lang/String"))).before args0 about1 = true := code_word (m := ⟨10, 1⟩) (meth := k10m1) (c := k10c1) (by decide +kernel) rfl rfl rfl (by decide +kernel)
set_option maxRecDepth 65536 in
theorem w_c21 : (Jvm.Cond.code ({ cls := "java/lang/StringBuilder", name := "<init>", desc := "()V" } : Jvm.MethodName) jdk_67_method_1_code (1 : Nat) (Option.none : Option Jvm.ClassFile.FieldType)).before args0 about1 = true := code_word (m := ⟨16, 0⟩) (meth := k16m0) (c := k16c0) (by decide +kernel) rfl rfl rfl (by decide +kernel)
set_option maxRecDepth 65536 in
theorem w_c22 : (Jvm.Cond.code ({ cls := "java/lang/AbstractStringBuilder", name := "<init>", desc := "(I)V" } : Jvm.MethodName) jdk_68_method_2_code (2 : Nat) (Option.none : Option Jvm.ClassFile.FieldType)).before args0 about1 = true := code_word (m := ⟨15, 1⟩) (meth := k15m1) (c := k15c1) (by decide +kernel) rfl rfl rfl (by decide +kernel)
set_option maxRecDepth 65536 in
theorem w_c23 : (Jvm.Cond.code ({ cls := "java/lang/StringBuilder", name := "append", desc := "(Ljava/lang/String;)Ljava/lang/StringBuilder;" } : Jvm.MethodName) jdk_67_method_7_code (2 : Nat) (Option.some (Jvm.ClassFile.FieldType.object "java/lang/StringBuilder"))).before args0 about1 = true := code_word (m := ⟨16, 1⟩) (meth := k16m1) (c := k16c1) (by decide +kernel) rfl rfl rfl (by decide +kernel)
set_option maxRecDepth 65536 in
theorem w_c24 : (Jvm.Cond.code ({ cls := "java/lang/AbstractStringBuilder", name := "append", desc := "(Ljava/lang/String;)Ljava/lang/AbstractStringBuilder;" } : Jvm.MethodName) jdk_68_method_22_code (3 : Nat) (Option.some (Jvm.ClassFile.FieldType.object "java/lang/AbstractStringBuilder"))).before args0 about1 = true := code_word (m := ⟨15, 4⟩) (meth := k15m4) (c := k15c4) (by decide +kernel) rfl rfl rfl (by decide +kernel)
set_option maxRecDepth 65536 in
theorem w_c25 : (Jvm.Cond.code ({ cls := "java/lang/AbstractStringBuilder", name := "ensureCapacityInternal", desc := "(I)V" } : Jvm.MethodName) jdk_68_method_9_code (3 : Nat) (Option.none : Option Jvm.ClassFile.FieldType)).before args0 about1 = true := code_word (m := ⟨15, 3⟩) (meth := k15m3) (c := k15c3) (by decide +kernel) rfl rfl rfl (by decide +kernel)
set_option maxRecDepth 65536 in
theorem w_c26 : (Jvm.Cond.code ({ cls := "java/lang/AbstractStringBuilder", name := "putStringAt", desc := "(ILjava/lang/String;)V" } : Jvm.MethodName) jdk_68_method_73_code (3 : Nat) (Option.none : Option Jvm.ClassFile.FieldType)).before args0 about1 = true := code_word (m := ⟨15, 8⟩) (meth := k15m8) (c := k15c8) (by decide +kernel) rfl rfl rfl (by decide +kernel)
set_option maxRecDepth 65536 in
theorem w_c27 : (Jvm.Cond.code ({ cls := "java/lang/AbstractStringBuilder", name := "inflateIfNeededFor", desc := "(Ljava/lang/String;)V" } : Jvm.MethodName) jdk_68_method_71_code (2 : Nat) (Option.none : Option Jvm.ClassFile.FieldType)).before args0 about1 = true := code_word (m := ⟨15, 7⟩) (meth := k15m7) (c := k15c7) (by decide +kernel) rfl rfl rfl (by decide +kernel)
set_option maxRecDepth 65536 in
theorem w_c28 : (Jvm.Cond.code ({ cls := "java/lang/String", name := "getBytes", desc := "([BIB)V" } : Jvm.MethodName) jdk_42_method_147_code (4 : Nat) (Option.none : Option Jvm.ClassFile.FieldType)).before args0 about1 = true := code_word (m := ⟨7, 7⟩) (meth := k7m7) (c := k7c7) (by decide +kernel) rfl rfl rfl (by decide +kernel)
set_option maxRecDepth 65536 in
theorem w_c29 : (Jvm.Cond.code ({ cls := "com/example/firm_roles/firmroles/Name", name := "value", desc := "()Ljava/lang/String;" } : Jvm.MethodName) prog_19_method_6_code (1 : Nat) (Option.some (Jvm.ClassFile.FieldType.object "java/lang/String"))).before args0 about1 = true := code_word (m := ⟨11, 2⟩) (meth := k11m2) (c := k11c2) (by decide +kernel) rfl rfl rfl (by decide +kernel)
set_option maxRecDepth 65536 in
theorem w_c30 : (Jvm.Cond.code ({ cls := "java/lang/StringBuilder", name := "toString", desc := "()Ljava/lang/String;" } : Jvm.MethodName) jdk_67_method_42_code (1 : Nat) (Option.some (Jvm.ClassFile.FieldType.object "java/lang/String"))).before args0 about1 = true := code_word (m := ⟨16, 2⟩) (meth := k16m2) (c := k16c2) (by decide +kernel) rfl rfl rfl (by decide +kernel)
set_option maxRecDepth 65536 in
theorem w_c31 : (Jvm.Cond.code ({ cls := "java/lang/String", name := "<init>", desc := "(Ljava/lang/StringBuilder;)V" } : Jvm.MethodName) jdk_42_method_53_code (2 : Nat) (Option.none : Option Jvm.ClassFile.FieldType)).before args0 about1 = true := code_word (m := ⟨7, 2⟩) (meth := k7m2) (c := k7c2) (by decide +kernel) rfl rfl rfl (by decide +kernel)
set_option maxRecDepth 65536 in
theorem w_c32 : (Jvm.Cond.code ({ cls := "java/lang/String", name := "<init>", desc := "(Ljava/lang/AbstractStringBuilder;Ljava/lang/Void;)V" } : Jvm.MethodName) jdk_42_method_150_code (5 : Nat) (Option.none : Option Jvm.ClassFile.FieldType)).before args0 about1 = true := code_word (m := ⟨7, 9⟩) (meth := k7m9) (c := k7c9) (by decide +kernel) rfl rfl rfl (by decide +kernel)
set_option maxRecDepth 65536 in
theorem w_c33 : (Jvm.Cond.code ({ cls := "java/lang/AbstractStringBuilder", name := "getValue", desc := "()[B" } : Jvm.MethodName) jdk_68_method_64_code (1 : Nat) (Option.some (Jvm.ClassFile.FieldType.array Jvm.ClassFile.FieldType.byte))).before args0 about1 = true := code_word (m := ⟨15, 5⟩) (meth := k15m5) (c := k15c5) (by decide +kernel) rfl rfl rfl (by decide +kernel)
set_option maxRecDepth 65536 in
theorem w_c34 : (Jvm.Cond.code ({ cls := "java/lang/StringBuilder", name := "length", desc := "()I" } : Jvm.MethodName) jdk_67_method_93_code (1 : Nat) (Option.some Jvm.ClassFile.FieldType.int)).before args0 about1 = true := code_word (m := ⟨16, 3⟩) (meth := k16m3) (c := k16c3) (by decide +kernel) rfl rfl rfl (by decide +kernel)
set_option maxRecDepth 65536 in
theorem w_c35 : (Jvm.Cond.code ({ cls := "java/lang/AbstractStringBuilder", name := "length", desc := "()I" } : Jvm.MethodName) jdk_68_method_6_code (1 : Nat) (Option.some Jvm.ClassFile.FieldType.int)).before args0 about1 = true := code_word (m := ⟨15, 2⟩) (meth := k15m2) (c := k15c2) (by decide +kernel) rfl rfl rfl (by decide +kernel)
set_option maxRecDepth 65536 in
theorem w_c36 : (Jvm.Cond.code ({ cls := "java/lang/AbstractStringBuilder", name := "isLatin1", desc := "()Z" } : Jvm.MethodName) jdk_68_method_68_code (1 : Nat) (Option.some Jvm.ClassFile.FieldType.boolean)).before args0 about1 = true := code_word (m := ⟨15, 6⟩) (meth := k15m6) (c := k15c6) (by decide +kernel) rfl rfl rfl (by decide +kernel)
set_option maxRecDepth 65536 in
theorem w_c37 : (Jvm.Cond.code ({ cls := "java/util/Arrays", name := "copyOfRange", desc := "([BII)[B" } : Jvm.MethodName) jdk_65_method_132_code (3 : Nat) (Option.some (Jvm.ClassFile.FieldType.array Jvm.ClassFile.FieldType.byte))).before args0 about1 = true := code_word (m := ⟨18, 2⟩) (meth := k18m2) (c := k18c2) (by decide +kernel) rfl rfl rfl (by decide +kernel)
set_option maxRecDepth 65536 in
theorem w_c38 : (Jvm.Cond.code ({ cls := "java/util/Arrays", name := "copyOfRangeByte", desc := "([BII)[B" } : Jvm.MethodName) jdk_65_method_133_code (5 : Nat) (Option.some (Jvm.ClassFile.FieldType.array Jvm.ClassFile.FieldType.byte))).before args0 about1 = true := code_word (m := ⟨18, 3⟩) (meth := k18m3) (c := k18c3) (by decide +kernel) rfl rfl rfl (by decide +kernel)
set_option maxRecDepth 65536 in
theorem w_c39 : (Jvm.Cond.code ({ cls := "java/util/Arrays", name := "checkLength", desc := "(II)V" } : Jvm.MethodName) jdk_65_method_131_code (2 : Nat) (Option.none : Option Jvm.ClassFile.FieldType)).before args0 about1 = true := code_word (m := ⟨18, 1⟩) (meth := k18m1) (c := k18c1) (by decide +kernel) rfl rfl rfl (by decide +kernel)
set_option maxRecDepth 65536 in
theorem w_c40 : (Jvm.Cond.code ({ cls := "java/lang/Math", name := "min", desc := "(II)I" } : Jvm.MethodName) jdk_29_method_69_code (2 : Nat) (Option.some Jvm.ClassFile.FieldType.int)).before args0 about1 = true := code_word (m := ⟨19, 1⟩) (meth := k19m1) (c := k19c1) (by decide +kernel) rfl rfl rfl (by decide +kernel)
set_option maxRecDepth 65536 in
theorem w_c41 : (Jvm.Cond.code ({ cls := "java/lang/String", name := "<init>", desc := "([C)V" } : Jvm.MethodName) jdk_42_method_3_code (2 : Nat) (Option.none : Option Jvm.ClassFile.FieldType)).before args0 about1 = true := code_word (m := ⟨7, 1⟩) (meth := k7m1) (c := k7c1) (by decide +kernel) rfl rfl rfl (by decide +kernel)
set_option maxRecDepth 65536 in
theorem w_c42 : (Jvm.Cond.code ({ cls := "java/lang/String", name := "<init>", desc := "([CIILjava/lang/Void;)V" } : Jvm.MethodName) jdk_42_method_149_code (6 : Nat) (Option.none : Option Jvm.ClassFile.FieldType)).before args0 about1 = true := code_word (m := ⟨7, 8⟩) (meth := k7m8) (c := k7c8) (by decide +kernel) rfl rfl rfl (by decide +kernel)
set_option maxRecDepth 65536 in
theorem w_c43 : (Jvm.Cond.code ({ cls := "java/lang/StringUTF16", name := "compress", desc := "([CII)[B" } : Jvm.MethodName) jdk_52_method_16_code (6 : Nat) (Option.some (Jvm.ClassFile.FieldType.array Jvm.ClassFile.FieldType.byte))).before args0 about1 = true := code_word (m := ⟨20, 2⟩) (meth := k20m2) (c := k20c2) (by decide +kernel) rfl rfl rfl (by decide +kernel)
set_option maxRecDepth 65536 in
theorem w_c44 : (Jvm.Cond.code ({ cls := "java/lang/StringUTF16", name := "compress", desc := "([CI[BII)I" } : Jvm.MethodName) jdk_52_method_21_code (7 : Nat) (Option.some Jvm.ClassFile.FieldType.int)).before args0 about1 = true := code_word (m := ⟨20, 3⟩) (meth := k20m3) (c := k20c3) (by decide +kernel) rfl rfl rfl (by decide +kernel)
set_option maxRecDepth 65536 in
theorem w_c45 : (Jvm.Cond.code ({ cls := "java/lang/StringUTF16", name := "coderFromArrayLen", desc := "([BI)B" } : Jvm.MethodName) jdk_52_method_15_code (2 : Nat) (Option.some Jvm.ClassFile.FieldType.byte)).before args0 about1 = true := code_word (m := ⟨20, 1⟩) (meth := k20m1) (c := k20c1) (by decide +kernel) rfl rfl rfl (by decide +kernel)
def codes1 : List Jvm.Cond := [Jvm.Cond.code x code maxLocals ret, Jvm.Cond.code ({ cls := "com/example/firm_roles/firmroles/RoleRangeToStringPinLaw", name := "nameChar", desc := "(I)C" } : Jvm.MethodName) method_3_code (2 : Nat) (Option.some Jvm.ClassFile.FieldType.char), Jvm.Cond.code ({ cls := "java/lang/String", name := "valueOf", desc := "(C)Ljava/lang/String;" } : Jvm.MethodName) jdk_42_method_139_code (1 : Nat) (Option.some (Jvm.ClassFile.FieldType.object "java/lang/String")), Jvm.Cond.code ({ cls := "java/lang/StringLatin1", name := "canEncode", desc := "(C)Z" } : Jvm.MethodName) jdk_43_method_3_code (1 : Nat) (Option.some Jvm.ClassFile.FieldType.boolean), Jvm.Cond.code ({ cls := "java/lang/StringLatin1", name := "toBytes", desc := "(C)[B" } : Jvm.MethodName) jdk_43_method_46_code (1 : Nat) (Option.some (Jvm.ClassFile.FieldType.array Jvm.ClassFile.FieldType.byte)), Jvm.Cond.code ({ cls := "java/lang/String", name := "<init>", desc := "([BB)V" } : Jvm.MethodName) jdk_42_method_151_code (3 : Nat) (Option.none : Option Jvm.ClassFile.FieldType), Jvm.Cond.code ({ cls := "java/lang/Object", name := "<init>", desc := "()V" } : Jvm.MethodName) object_method_1_code (1 : Nat) (Option.none : Option Jvm.ClassFile.FieldType), Jvm.Cond.code ({ cls := "com/example/firm_roles/firmroles/Name", name := "<init>", desc := "(Ljava/lang/String;)V" } : Jvm.MethodName) prog_19_method_1_code (3 : Nat) (Option.none : Option Jvm.ClassFile.FieldType), Jvm.Cond.code ({ cls := "java/lang/Record", name := "<init>", desc := "()V" } : Jvm.MethodName) jdk_30_method_1_code (1 : Nat) (Option.none : Option Jvm.ClassFile.FieldType), Jvm.Cond.code ({ cls := "java/util/Objects", name := "requireNonNull", desc := "(Ljava/lang/Object;Ljava/lang/String;)Ljava/lang/Object;" } : Jvm.MethodName) jdk_31_method_11_code (2 : Nat) (Option.some (Jvm.ClassFile.FieldType.object "java/lang/Object")), Jvm.Cond.code ({ cls := "java/lang/String", name := "isEmpty", desc := "()Z" } : Jvm.MethodName) jdk_42_method_55_code (1 : Nat) (Option.some Jvm.ClassFile.FieldType.boolean), Jvm.Cond.code ({ cls := "java/lang/String", name := "length", desc := "()I" } : Jvm.MethodName) jdk_42_method_54_code (1 : Nat) (Option.some Jvm.ClassFile.FieldType.int), Jvm.Cond.code ({ cls := "java/lang/String", name := "coder", desc := "()B" } : Jvm.MethodName) jdk_42_method_152_code (1 : Nat) (Option.some Jvm.ClassFile.FieldType.byte), Jvm.Cond.code ({ cls := "java/lang/String", name := "charAt", desc := "(I)C" } : Jvm.MethodName) jdk_42_method_56_code (2 : Nat) (Option.some Jvm.ClassFile.FieldType.char), Jvm.Cond.code ({ cls := "java/lang/String", name := "isLatin1", desc := "()Z" } : Jvm.MethodName) jdk_42_method_154_code (1 : Nat) (Option.some Jvm.ClassFile.FieldType.boolean), Jvm.Cond.code ({ cls := "java/lang/StringLatin1", name := "charAt", desc := "([BI)C" } : Jvm.MethodName) jdk_43_method_2_code (2 : Nat) (Option.some Jvm.ClassFile.FieldType.char), Jvm.Cond.code ({ cls := "java/lang/String", name := "checkIndex", desc := "(II)V" } : Jvm.MethodName) jdk_42_method_155_code (2 : Nat) (Option.none : Option Jvm.ClassFile.FieldType), Jvm.Cond.code ({ cls := "jdk/internal/util/Preconditions", name := "checkIndex", desc := "(IILjava/util/function/BiFunction;)I" } : Jvm.MethodName) jdk_41_method_11_code (3 : Nat) (Option.some Jvm.ClassFile.FieldType.int), Jvm.Cond.code ({ cls := "com/example/firm_roles/firmroles/Name", name := "isAllowed", desc := "(C)Z" } : Jvm.MethodName) prog_19_method_2_code (1 : Nat) (Option.some Jvm.ClassFile.FieldType.boolean), Jvm.Cond.code ({ cls := "com/example/firm_roles/firmroles/RoleRange", name := "<init>", desc := "(Lcom/example/firm_roles/firmroles/Name;ZLcom/example/firm_roles/firmroles/Name;Z)V" } : Jvm.MethodName) prog_27_method_1_code (5 : Nat) (Option.none : Option Jvm.ClassFile.FieldType), Jvm.Cond.code ({ cls := "com/example/firm_roles/firmroles/RoleRange", name := "toString", desc := "()Ljava/lang/String;" } : Jvm.MethodName) prog_27_method_4_code (1 : Nat) (Option.some (Jvm.ClassFile.FieldType.object "java/lang/String")), Jvm.Cond.code ({ cls := "java/lang/StringBuilder", name := "<init>", desc := "()V" } : Jvm.MethodName) jdk_67_method_1_code (1 : Nat) (Option.none : Option Jvm.ClassFile.FieldType), Jvm.Cond.code ({ cls := "java/lang/AbstractStringBuilder", name := "<init>", desc := "(I)V" } : Jvm.MethodName) jdk_68_method_2_code (2 : Nat) (Option.none : Option Jvm.ClassFile.FieldType), Jvm.Cond.code ({ cls := "java/lang/StringBuilder", name := "append", desc := "(Ljava/lang/String;)Ljava/lang/StringBuilder;" } : Jvm.MethodName) jdk_67_method_7_code (2 : Nat) (Option.some (Jvm.ClassFile.FieldType.object "java/lang/StringBuilder")), Jvm.Cond.code ({ cls := "java/lang/AbstractStringBuilder", name := "append", desc := "(Ljava/lang/String;)Ljava/lang/AbstractStringBuilder;" } : Jvm.MethodName) jdk_68_method_22_code (3 : Nat) (Option.some (Jvm.ClassFile.FieldType.object "java/lang/AbstractStringBuilder")), Jvm.Cond.code ({ cls := "java/lang/AbstractStringBuilder", name := "ensureCapacityInternal", desc := "(I)V" } : Jvm.MethodName) jdk_68_method_9_code (3 : Nat) (Option.none : Option Jvm.ClassFile.FieldType), Jvm.Cond.code ({ cls := "java/lang/AbstractStringBuilder", name := "putStringAt", desc := "(ILjava/lang/String;)V" } : Jvm.MethodName) jdk_68_method_73_code (3 : Nat) (Option.none : Option Jvm.ClassFile.FieldType), Jvm.Cond.code ({ cls := "java/lang/AbstractStringBuilder", name := "inflateIfNeededFor", desc := "(Ljava/lang/String;)V" } : Jvm.MethodName) jdk_68_method_71_code (2 : Nat) (Option.none : Option Jvm.ClassFile.FieldType), Jvm.Cond.code ({ cls := "java/lang/String", name := "getBytes", desc := "([BIB)V" } : Jvm.MethodName) jdk_42_method_147_code (4 : Nat) (Option.none : Option Jvm.ClassFile.FieldType), Jvm.Cond.code ({ cls := "com/example/firm_roles/firmroles/Name", name := "value", desc := "()Ljava/lang/String;" } : Jvm.MethodName) prog_19_method_6_code (1 : Nat) (Option.some (Jvm.ClassFile.FieldType.object "java/lang/String")), Jvm.Cond.code ({ cls := "java/lang/StringBuilder", name := "toString", desc := "()Ljava/lang/String;" } : Jvm.MethodName) jdk_67_method_42_code (1 : Nat) (Option.some (Jvm.ClassFile.FieldType.object "java/lang/String")), Jvm.Cond.code ({ cls := "java/lang/String", name := "<init>", desc := "(Ljava/lang/StringBuilder;)V" } : Jvm.MethodName) jdk_42_method_53_code (2 : Nat) (Option.none : Option Jvm.ClassFile.FieldType), Jvm.Cond.code ({ cls := "java/lang/String", name := "<init>", desc := "(Ljava/lang/AbstractStringBuilder;Ljava/lang/Void;)V" } : Jvm.MethodName) jdk_42_method_150_code (5 : Nat) (Option.none : Option Jvm.ClassFile.FieldType), Jvm.Cond.code ({ cls := "java/lang/AbstractStringBuilder", name := "getValue", desc := "()[B" } : Jvm.MethodName) jdk_68_method_64_code (1 : Nat) (Option.some (Jvm.ClassFile.FieldType.array Jvm.ClassFile.FieldType.byte)), Jvm.Cond.code ({ cls := "java/lang/StringBuilder", name := "length", desc := "()I" } : Jvm.MethodName) jdk_67_method_93_code (1 : Nat) (Option.some Jvm.ClassFile.FieldType.int), Jvm.Cond.code ({ cls := "java/lang/AbstractStringBuilder", name := "length", desc := "()I" } : Jvm.MethodName) jdk_68_method_6_code (1 : Nat) (Option.some Jvm.ClassFile.FieldType.int), Jvm.Cond.code ({ cls := "java/lang/AbstractStringBuilder", name := "isLatin1", desc := "()Z" } : Jvm.MethodName) jdk_68_method_68_code (1 : Nat) (Option.some Jvm.ClassFile.FieldType.boolean), Jvm.Cond.code ({ cls := "java/util/Arrays", name := "copyOfRange", desc := "([BII)[B" } : Jvm.MethodName) jdk_65_method_132_code (3 : Nat) (Option.some (Jvm.ClassFile.FieldType.array Jvm.ClassFile.FieldType.byte)), Jvm.Cond.code ({ cls := "java/util/Arrays", name := "copyOfRangeByte", desc := "([BII)[B" } : Jvm.MethodName) jdk_65_method_133_code (5 : Nat) (Option.some (Jvm.ClassFile.FieldType.array Jvm.ClassFile.FieldType.byte)), Jvm.Cond.code ({ cls := "java/util/Arrays", name := "checkLength", desc := "(II)V" } : Jvm.MethodName) jdk_65_method_131_code (2 : Nat) (Option.none : Option Jvm.ClassFile.FieldType), Jvm.Cond.code ({ cls := "java/lang/Math", name := "min", desc := "(II)I" } : Jvm.MethodName) jdk_29_method_69_code (2 : Nat) (Option.some Jvm.ClassFile.FieldType.int), Jvm.Cond.code ({ cls := "java/lang/String", name := "<init>", desc := "([C)V" } : Jvm.MethodName) jdk_42_method_3_code (2 : Nat) (Option.none : Option Jvm.ClassFile.FieldType), Jvm.Cond.code ({ cls := "java/lang/String", name := "<init>", desc := "([CIILjava/lang/Void;)V" } : Jvm.MethodName) jdk_42_method_149_code (6 : Nat) (Option.none : Option Jvm.ClassFile.FieldType), Jvm.Cond.code ({ cls := "java/lang/StringUTF16", name := "compress", desc := "([CII)[B" } : Jvm.MethodName) jdk_52_method_16_code (6 : Nat) (Option.some (Jvm.ClassFile.FieldType.array Jvm.ClassFile.FieldType.byte)), Jvm.Cond.code ({ cls := "java/lang/StringUTF16", name := "compress", desc := "([CI[BII)I" } : Jvm.MethodName) jdk_52_method_21_code (7 : Nat) (Option.some Jvm.ClassFile.FieldType.int), Jvm.Cond.code ({ cls := "java/lang/StringUTF16", name := "coderFromArrayLen", desc := "([BI)B" } : Jvm.MethodName) jdk_52_method_15_code (2 : Nat) (Option.some Jvm.ClassFile.FieldType.byte)]
set_option maxRecDepth 65536 in
theorem codes_eq : words1.filter isCode = codes1 := rfl
theorem w_codes : ∀ c ∈ words1.filter isCode, c.before args0 about1 = true := by
  rw [codes_eq]
  intro c hc
  simp only [codes1, List.mem_cons, List.not_mem_nil, or_false] at hc
  rcases hc with rfl | rfl | rfl | rfl | rfl | rfl | rfl | rfl | rfl | rfl | rfl | rfl | rfl | rfl | rfl | rfl | rfl | rfl | rfl | rfl | rfl | rfl | rfl | rfl | rfl | rfl | rfl | rfl | rfl | rfl | rfl | rfl | rfl | rfl | rfl | rfl | rfl | rfl | rfl | rfl | rfl | rfl | rfl | rfl | rfl | rfl
  · exact w_c0
  · exact w_c1
  · exact w_c2
  · exact w_c3
  · exact w_c4
  · exact w_c5
  · exact w_c6
  · exact w_c7
  · exact w_c8
  · exact w_c9
  · exact w_c10
  · exact w_c11
  · exact w_c12
  · exact w_c13
  · exact w_c14
  · exact w_c15
  · exact w_c16
  · exact w_c17
  · exact w_c18
  · exact w_c19
  · exact w_c20
  · exact w_c21
  · exact w_c22
  · exact w_c23
  · exact w_c24
  · exact w_c25
  · exact w_c26
  · exact w_c27
  · exact w_c28
  · exact w_c29
  · exact w_c30
  · exact w_c31
  · exact w_c32
  · exact w_c33
  · exact w_c34
  · exact w_c35
  · exact w_c36
  · exact w_c37
  · exact w_c38
  · exact w_c39
  · exact w_c40
  · exact w_c41
  · exact w_c42
  · exact w_c43
  · exact w_c44
  · exact w_c45
set_option maxRecDepth 65536 in
theorem w_t1 : (words1.take 24).all (fun c => isCode c || c.before args0 about1) = true := by decide +kernel
set_option maxRecDepth 65536 in
theorem w_t2 : ((words1.drop 24).take 24).all (fun c => isCode c || c.before args0 about1) = true := by decide +kernel
set_option maxRecDepth 65536 in
theorem w_t3 : (((words1.drop 24).drop 24).take 24).all (fun c => isCode c || c.before args0 about1) = true := by decide +kernel
set_option maxRecDepth 65536 in
theorem w_t4 : ((((words1.drop 24).drop 24).drop 24).take 24).all (fun c => isCode c || c.before args0 about1) = true := by decide +kernel
set_option maxRecDepth 65536 in
theorem w_t5 : (((((words1.drop 24).drop 24).drop 24).drop 24).take 24).all (fun c => isCode c || c.before args0 about1) = true := by decide +kernel
set_option maxRecDepth 65536 in
theorem w_t6 : ((((((words1.drop 24).drop 24).drop 24).drop 24).drop 24).take 24).all (fun c => isCode c || c.before args0 about1) = true := by decide +kernel
set_option maxRecDepth 65536 in
theorem w_t7 : (((((((words1.drop 24).drop 24).drop 24).drop 24).drop 24).drop 24).take 24).all (fun c => isCode c || c.before args0 about1) = true := by decide +kernel
set_option maxRecDepth 65536 in
theorem w_t8 : ((((((((words1.drop 24).drop 24).drop 24).drop 24).drop 24).drop 24).drop 24).take 24).all (fun c => isCode c || c.before args0 about1) = true := by decide +kernel
set_option maxRecDepth 65536 in
theorem w_t9 : (((((((((words1.drop 24).drop 24).drop 24).drop 24).drop 24).drop 24).drop 24).drop 24).take 24).all (fun c => isCode c || c.before args0 about1) = true := by decide +kernel
set_option maxRecDepth 65536 in
theorem w_t10 : ((((((((((words1.drop 24).drop 24).drop 24).drop 24).drop 24).drop 24).drop 24).drop 24).drop 24).take 24).all (fun c => isCode c || c.before args0 about1) = true := by decide +kernel
set_option maxRecDepth 65536 in
theorem w_t11 : ((((((((((words1.drop 24).drop 24).drop 24).drop 24).drop 24).drop 24).drop 24).drop 24).drop 24).drop 24).all (fun c => isCode c || c.before args0 about1) = true := by decide +kernel
theorem w_tables : (allAtoms (Jvm.Cond.code x code maxLocals ret :: tables_1)).before args0 about1 = true := by
  rw [allAtoms_all]
  show words1.all (fun c => c.before args0 about1) = true
  refine all_split ?_ w_codes
  rw [← List.take_append_drop 24 words1, List.all_append, w_t1, ← List.take_append_drop 24 (words1.drop 24), List.all_append, w_t2, ← List.take_append_drop 24 ((words1.drop 24).drop 24), List.all_append, w_t3, ← List.take_append_drop 24 (((words1.drop 24).drop 24).drop 24), List.all_append, w_t4, ← List.take_append_drop 24 ((((words1.drop 24).drop 24).drop 24).drop 24), List.all_append, w_t5, ← List.take_append_drop 24 (((((words1.drop 24).drop 24).drop 24).drop 24).drop 24), List.all_append, w_t6, ← List.take_append_drop 24 ((((((words1.drop 24).drop 24).drop 24).drop 24).drop 24).drop 24), List.all_append, w_t7, ← List.take_append_drop 24 (((((((words1.drop 24).drop 24).drop 24).drop 24).drop 24).drop 24).drop 24), List.all_append, w_t8, ← List.take_append_drop 24 ((((((((words1.drop 24).drop 24).drop 24).drop 24).drop 24).drop 24).drop 24).drop 24), List.all_append, w_t9, ← List.take_append_drop 24 (((((((((words1.drop 24).drop 24).drop 24).drop 24).drop 24).drop 24).drop 24).drop 24).drop 24), List.all_append, w_t10, w_t11]
  rfl
set_option maxRecDepth 65536 in
theorem w_rest : rest_1_c.before args0 about1 = true := by decide +kernel
set_option maxRecDepth 65536 in
theorem w_case : (Jvm.Cond.and given_1 narrow_1).before args0 about1 = true := by decide +kernel
set_option maxRecDepth 65536 in
theorem w_consts : constsHeld consts_1 about1 := Jvm.Lit.constsHeldB_iff.mp (by decide +kernel)
theorem w_applies : (headSpec (Jvm.Cond.code x code maxLocals ret :: tables_1) room_1).applies x e0.platform about1 = true :=
  (Spec.applies_iff w_frames).mpr ⟨w_running, w_runnable, w_alone, w_named, w_hears, w_ripe, w_room, w_tables⟩
theorem atStart : AtStart classFile x code maxLocals ret World_1 tables_1 room_1 Calls_1 rest_1 Pre_1 launch0 p0 e0 about1 theMethod args0 below0 :=
  ⟨lists_1, trivial, launch0.admits_env _ _ _, launch0.least_env, fairChoices_fair.cas, fairChoices_fair.clock, w_frames, w_args, w_heap, w_applies, ⟨w_consts, trivial⟩, w_rest, w_case⟩
end start1
theorem witness_1 : WitnessClaimed_1 := ⟨start1.p0, start1.e0, start1.about1, start1.theMethod, start1.args0, start1.below0, start1.atStart⟩
end Jvm.Pilot.@@N@@
