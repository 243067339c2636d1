import JvmDerived
import JvmDerived.Pilot.@@N@@Statement
import JvmDerived.Pilot.@@N@@Code
set_option linter.unusedVariables false
set_option linter.unusedSimpArgs false
/- laws to paste: Road.backT, Road.U3Z.ext, Road.lenW, Road.wide_lo, Road.wide_hi, Road.codOf, StrChars.pair_says, StrChars.narrow_ch, StrChars.shl1, StrChars.shr1, StrChars.lo8_mask, StrChars.lo8_shr0 (cut by pick.py; bodies as the Statement names them) -/
namespace Jvm.Pilot.@@N@@
namespace StrChars
open Jvm Sem ClassFile Op Lib Jvm.Stand Jvm.Free.XT Jvm.Free.ALB Jvm.Free.JM Jvm.Free
open Jvm.Lib.Cold (StaticIs)
/-- a char array whose places are chars -/
def Ch (a : Addr) (A : Cell) (U : State) : Prop := Arr .char a A U ∧ Typed .char A
theorem Ch.mv {a : Addr} {A : Cell} {U U' : State} (h : Ch a A U) (hal : U.vm.Alike U'.vm) (hh : U'.heap = U.heap) : Ch a A U' := ⟨h.1.mv hal hh, h.2⟩
theorem Ch.keep {a : Addr} {A : Cell} {U U' : State} (h : Ch a A U) (hal : U.vm.Alike U'.vm) (hk : U'.heap[a]? = some A) : Ch a A U' := ⟨h.1.keep hal hk, h.2⟩
/-- what place i of a char[]'s cell holds -/
def cv (A : Cell) (i : Nat) : Int32 := match A.slots[i]? with | some (.int x) => x | _ => 0
theorem Ch.get {a : Addr} {A : Cell} {U : State} (h : Ch a A U) {i : Nat} (hi : i < A.slots.size) : A.slots[i]? = some (.int (cv A i)) := by
  have e := Array.getElem?_eq_getElem hi
  have f := h.2 i _ e
  unfold cv; rw [e]
  generalize A.slots[i] = v at f
  cases v <;> simp [fits] at f ⊢
/-- the byte that i2b leaves of a char -/
def lo8 (x : Int32) : Int32 := x.toInt8.toInt32
theorem fits_lo8 (y : Int32) : fits .byte (.int (lo8 y)) = true := by
  have h1 := y.toInt8.le_toInt
  have h2 := y.toInt8.toInt_lt
  simp only [lo8, fits, Bool.and_eq_true, decide_eq_true_eq, Int32.le_iff_toInt_le, Int8.toInt_toInt32, show (-128 : Int32).toInt = -128 from by decide, show (127 : Int32).toInt = 127 from by decide]
  omega
/-- A' is A but that each place j of lo .. hi - 1 holds f j -/
def Laid (A A' : Cell) (lo hi : Nat) (f : Nat → Value) : Prop := A'.cls = A.cls ∧ A'.vm = A.vm ∧ A'.slots.size = A.slots.size ∧ ∀ i, A'.slots[i]? = if lo ≤ i ∧ i < hi then some (f i) else A.slots[i]?
theorem Laid.zero (A : Cell) (lo : Nat) (f : Nat → Value) : Laid A A lo (lo + 0) f := ⟨rfl, rfl, rfl, fun i => by rw [if_neg (by omega)]⟩
theorem Laid.step {A Ak : Cell} {lo k : Nat} {f : Nat → Value} {v : Value} (h : Laid A Ak lo k f) (hlo : lo ≤ k) (hk : k < Ak.slots.size) (hv : v = f k) : Laid A (Ak.setSlot k v) lo (k + 1) f := by
  refine ⟨h.1, h.2.1, by simpa [Cell.setSlot] using h.2.2.1, fun i => ?_⟩
  by_cases e : k = i
  · subst e; rw [Cell.slots_setSlot_self v hk, if_pos (by omega), hv]
  · rw [Cell.slots_setSlot_ne v e, h.2.2.2 i]
    by_cases q : lo ≤ i ∧ i < k
    · rw [if_pos q, if_pos (by omega)]
    · rw [if_neg q, if_neg (by omega)]
def U16 : String := "java/lang/StringUTF16"
namespace Cmp5
def yN : MethodName := ⟨"java/lang/StringUTF16", "compress", "([CI[BII)I"⟩
abbrev yB : ByteArray := jdk_52_method_21_code
theorem d0 : decode yB 0 = .ok (.iconst 0, 1) := by decide +kernel
theorem d1 : decode yB 1 = .ok (.istore 5, 2) := by decide +kernel
theorem d3 : decode yB 3 = .ok (.iload 5, 2) := by decide +kernel
theorem d5 : decode yB 5 = .ok (.iload 4, 2) := by decide +kernel
theorem d7 : decode yB 7 = .ok (.if_icmp (.ge) 37, 3) := by decide +kernel
theorem d10 : decode yB 10 = .ok (.aload_n 0, 1) := by decide +kernel
theorem d11 : decode yB 11 = .ok (.iload_n 1, 1) := by decide +kernel
theorem d12 : decode yB 12 = .ok (.caload, 1) := by decide +kernel
theorem d13 : decode yB 13 = .ok (.istore 6, 2) := by decide +kernel
theorem d15 : decode yB 15 = .ok (.iload 6, 2) := by decide +kernel
theorem d17 : decode yB 17 = .ok (.sipush 255, 3) := by decide +kernel
theorem d20 : decode yB 20 = .ok (.if_icmp (.le) 6, 3) := by decide +kernel
theorem d26 : decode yB 26 = .ok (.aload_n 2, 1) := by decide +kernel
theorem d27 : decode yB 27 = .ok (.iload_n 3, 1) := by decide +kernel
theorem d28 : decode yB 28 = .ok (.iload 6, 2) := by decide +kernel
theorem d30 : decode yB 30 = .ok (.i2b, 1) := by decide +kernel
theorem d31 : decode yB 31 = .ok (.bastore, 1) := by decide +kernel
theorem d32 : decode yB 32 = .ok (.iinc 1 1, 3) := by decide +kernel
theorem d35 : decode yB 35 = .ok (.iinc 3 1, 3) := by decide +kernel
theorem d38 : decode yB 38 = .ok (.iinc 5 1, 3) := by decide +kernel
theorem d41 : decode yB 41 = .ok (.goto (-38), 3) := by decide +kernel
theorem d44 : decode yB 44 = .ok (.iload 4, 2) := by decide +kernel
theorem d46 : decode yB 46 = .ok (.ireturn, 1) := by decide +kernel
def site : List Cond := []
def tab : Cond := tabOf yN yB 7 (some .int) site
def P (b : Addr) (A : Cell) (d : Addr) (B : Cell) (o q len : Nat) (args : Array Value) (s : State) : Prop := args = #[.ref b, .int (Int32.ofNat o), .ref d, .int (Int32.ofNat q), .int (Int32.ofNat len)] ∧ Ch b A s ∧ Arr .byte d B s ∧ b ≠ d ∧ o + len ≤ A.slots.size ∧ q + len ≤ B.slots.size ∧ ∀ i, i < len → ¬ 255 < cv A (o + i)
def E (b : Addr) (A : Cell) (d : Addr) (B : Cell) (o q len : Nat) (r : Option Value) (s u : State) : Prop := r = some (.int (Int32.ofNat len)) ∧ ∃ B', Put d B' s u ∧ Laid B B' q (q + len) (fun j => Value.int (lo8 (cv A (o + (j - q)))))
/-- no char of the range above 255: len; the places written hold each char's low byte -/
theorem law (l : Launch) (b : Addr) (A : Cell) (d : Addr) (B : Cell) (o q len : Nat) : Law l yN 5 5 0 0 yB 7 (some .int) site (P b A d B o q len) (E b A d B o q len) (copyLocs d q len) 0 0 := by
  refine Law.of_walk (plainFor_of_name (by decide +kernel)) (by decide +kernel) (by decide +kernel) (by decide) (fun _ _ h => by rw [h.1]; rfl) (fun _ U U' hal hh h => ⟨h.1, h.2.1.mv hal hh, h.2.2.1.mv hal hh, h.2.2.2⟩) (fun r U U' V V' h1 hal h2 h => ⟨h.1, h.2.elim fun B' q => ⟨B', q.1.mv h1 h2, q.2⟩⟩) ?_
  intro p e s m args below meth c s₁ X0 hexec hbytes hml hret hlk hnm hown hh0 W hP
  obtain ⟨rfl, hA, hB, hne, l1, l2, hp⟩ := hP
  have c1 : Steps p.tables e below (s₁.setTop (entryFrame m #[.ref b, .int (Int32.ofNat o), .ref d, .int (Int32.ofNat q), .int (Int32.ofNat len)] 7)) (s₁.setTop (mkF m 0 #[.val (.ref b), .val (.int (Int32.ofNat o)), .val (.ref d), .val (.int (Int32.ofNat q)), .val (.int (Int32.ofNat len)), .unset, .unset] [])) := entry rfl
  have hA0 := hA.1.mv X0.warmed.alike hh0
  have hB0 := hB.mv X0.warmed.alike hh0
  have a31 := hA.1.2.2.2
  have c2 : Steps p.tables e below (s₁.setTop (entryFrame m #[.ref b, .int (Int32.ofNat o), .ref d, .int (Int32.ofNat q), .int (Int32.ofNat len)] 7)) (s₁.setTop (mkF m 3 #[.val (.ref b), .val (.int (Int32.ofNat o)), .val (.ref d), .val (.int (Int32.ofNat q)), .val (.int (Int32.ofNat len)), .val (.int 0), .unset] [])) := c1.trans (by
    refine iconstV X0.here hexec rfl 0 (hb hbytes d0) (by decide) ?_
    refine XS.istore X0.here hexec rfl (hb hbytes d1) rfl rfl ?_
    exact Steps.refl _)
  have loop : ∀ (r i : Nat), i + r = len → ∀ (z : Slot), (z = .unset ∨ ∃ w, z = .val w ∧ w.category = 1) → ∀ (Tl : State) (Bk : Cell), Stand p l e { frames := 0, locals := 0, cells := 0, slots := 0 } s m #[.ref b, .int (Int32.ofNat o), .ref d, .int (Int32.ofNat q), .int (Int32.ofNat len)] below meth c Tl ([] ++ copyLocs d q i) 0 0 → Put d Bk s₁ Tl → Laid B Bk q (q + i) (fun j => Value.int (lo8 (cv A (o + (j - q))))) →
      Steps p.tables e below (s₁.setTop (entryFrame m #[.ref b, .int (Int32.ofNat o), .ref d, .int (Int32.ofNat q), .int (Int32.ofNat len)] 7)) (Tl.setTop (mkF m 3 #[.val (.ref b), .val (.int (Int32.ofNat (o + i))), .val (.ref d), .val (.int (Int32.ofNat (q + i))), .val (.int (Int32.ofNat len)), .val (.int (Int32.ofNat i)), z] [])) → ∃ (T' : State) (B' : Cell) (z' : Slot), Stand p l e { frames := 0, locals := 0, cells := 0, slots := 0 } s m #[.ref b, .int (Int32.ofNat o), .ref d, .int (Int32.ofNat q), .int (Int32.ofNat len)] below meth c T' ([] ++ copyLocs d q len) 0 0 ∧ Put d B' s₁ T' ∧ Laid B B' q (q + len) (fun j => Value.int (lo8 (cv A (o + (j - q))))) ∧
      Steps p.tables e below (s₁.setTop (entryFrame m #[.ref b, .int (Int32.ofNat o), .ref d, .int (Int32.ofNat q), .int (Int32.ofNat len)] 7)) (T'.setTop (mkF m 3 #[.val (.ref b), .val (.int (Int32.ofNat (o + len))), .val (.ref d), .val (.int (Int32.ofNat (q + len))), .val (.int (Int32.ofNat len)), .val (.int (Int32.ofNat len)), z'] [])) := by
    intro r
    induction r with
    | zero =>
      intro i hi z hz Tl Bk Xl pl fl cl
      have hil : i = len := by omega
      rw [hil] at Xl fl cl
      exact ⟨Tl, Bk, z, Xl, pl, fl, cl⟩
    | succ r ih =>
      intro i hi z hz Tl Bk Xl pl fl cl
      have all := X0.warmed.alike.symm.trans Xl.warmed.alike
      have hAl := hA0.keep all (pl.other hne hA0.1)
      have hBk := hB0.like all pl.1 fl.1 fl.2.1 fl.2.2.1
      have hlt : q + i < Bk.slots.size := by rw [fl.2.2.1]; omega
      have c3 : Steps p.tables e below (s₁.setTop (entryFrame m #[.ref b, .int (Int32.ofNat o), .ref d, .int (Int32.ofNat q), .int (Int32.ofNat len)] 7)) (Tl.setTop (mkF m 12 #[.val (.ref b), .val (.int (Int32.ofNat (o + i))), .val (.ref d), .val (.int (Int32.ofNat (q + i))), .val (.int (Int32.ofNat len)), .val (.int (Int32.ofNat i)), z] [.int (Int32.ofNat (o + i)), .ref b])) := cl.trans (by
        refine XS.iload Xl.here hexec rfl (hb hbytes d3) rfl ?_
        refine XS.iload Xl.here hexec rfl (hb hbytes d5) rfl ?_
        refine XS.icmpNo Xl.here hexec rfl (hb hbytes d7) rfl (ii_ge_f (lt32 (by omega) (by omega))) ?_
        refine XS.aloadN Xl.here hexec rfl (hb hbytes d10) rfl rfl ?_
        refine XS.iloadN Xl.here hexec rfl (hb hbytes d11) rfl ?_
        exact Steps.refl _)
      have c4 : Steps p.tables e below (s₁.setTop (entryFrame m #[.ref b, .int (Int32.ofNat o), .ref d, .int (Int32.ofNat q), .int (Int32.ofNat len)] 7)) (Tl.setTop (mkF m 13 #[.val (.ref b), .val (.int (Int32.ofNat (o + i))), .val (.ref d), .val (.int (Int32.ofNat (q + i))), .val (.int (Int32.ofNat len)), .val (.int (Int32.ofNat i)), z] [.int (cv A (o + i))])) := c3.trans (by
        refine Xl.aget hexec hAl rfl (hA.get (i := o + i) (by omega)) rfl rfl (hb hbytes d12) ?_
        exact Steps.refl _)
      have c5 : Steps p.tables e below (s₁.setTop (entryFrame m #[.ref b, .int (Int32.ofNat o), .ref d, .int (Int32.ofNat q), .int (Int32.ofNat len)] 7)) (Tl.setTop (mkF m 15 #[.val (.ref b), .val (.int (Int32.ofNat (o + i))), .val (.ref d), .val (.int (Int32.ofNat (q + i))), .val (.int (Int32.ofNat len)), .val (.int (Int32.ofNat i)), .val (.int (cv A (o + i)))] [])) := c4.trans (by
        refine XS.istoreS Xl.here hexec rfl (hb hbytes d13) rfl rfl hz ?_
        exact Steps.refl _)
      have c6 : Steps p.tables e below (s₁.setTop (entryFrame m #[.ref b, .int (Int32.ofNat o), .ref d, .int (Int32.ofNat q), .int (Int32.ofNat len)] 7)) (Tl.setTop (mkF m 31 #[.val (.ref b), .val (.int (Int32.ofNat (o + i))), .val (.ref d), .val (.int (Int32.ofNat (q + i))), .val (.int (Int32.ofNat len)), .val (.int (Int32.ofNat i)), .val (.int (cv A (o + i)))] [.int (lo8 (cv A (o + i))), .int (Int32.ofNat (q + i)), .ref d])) := c5.trans (by
        refine XS.iload Xl.here hexec rfl (hb hbytes d15) rfl ?_
        refine sipushV Xl.here hexec rfl 255 (hb hbytes d17) (by decide) ?_
        refine XS.icmpYes Xl.here hexec rfl (pc0 := 20) rfl (hb hbytes d20) rfl (ii_le_t (hp i (by omega))) (by decide) rfl ?_
        refine XS.aloadN Xl.here hexec rfl (hb hbytes d26) rfl rfl ?_
        refine XS.iloadN Xl.here hexec rfl (hb hbytes d27) rfl ?_
        refine XS.iload Xl.here hexec rfl (hb hbytes d28) rfl ?_
        refine i2b Xl.here hexec rfl (hb hbytes d30) rfl ?_
        exact Steps.refl _)
      obtain ⟨T7, X7, p7, st7⟩ := Xl.aput hexec hBk rfl hlt rfl (fits_lo8 (cv A (o + i))) (g := (mkF m 31 #[.val (.ref b), .val (.int (Int32.ofNat (o + i))), .val (.ref d), .val (.int (Int32.ofNat (q + i))), .val (.int (Int32.ofNat len)), .val (.int (Int32.ofNat i)), .val (.int (cv A (o + i)))] [.int (lo8 (cv A (o + i))), .int (Int32.ofNat (q + i)), .ref d])) rfl (rest := []) rfl (hb hbytes d31)
      have c8 : Steps p.tables e below (s₁.setTop (entryFrame m #[.ref b, .int (Int32.ofNat o), .ref d, .int (Int32.ofNat q), .int (Int32.ofNat len)] 7)) (T7.setTop (mkF m 32 #[.val (.ref b), .val (.int (Int32.ofNat (o + i))), .val (.ref d), .val (.int (Int32.ofNat (q + i))), .val (.int (Int32.ofNat len)), .val (.int (Int32.ofNat i)), .val (.int (cv A (o + i)))] [])) := c6.trans (st7 _ (Steps.refl _))
      have c9 : Steps p.tables e below (s₁.setTop (entryFrame m #[.ref b, .int (Int32.ofNat o), .ref d, .int (Int32.ofNat q), .int (Int32.ofNat len)] 7)) (T7.setTop (mkF m 3 #[.val (.ref b), .val (.int (Int32.ofNat (o + i) + 1)), .val (.ref d), .val (.int (Int32.ofNat (q + i) + 1)), .val (.int (Int32.ofNat len)), .val (.int (Int32.ofNat i + 1)), .val (.int (cv A (o + i)))] [])) := c8.trans (by
        refine iincV X7.here hexec rfl 1 (hb hbytes d32) (by decide) rfl rfl ?_
        refine iincV X7.here hexec rfl 1 (hb hbytes d35) (by decide) rfl rfl ?_
        refine iincV X7.here hexec rfl 1 (hb hbytes d38) (by decide) rfl rfl ?_
        refine XS.goto X7.here hexec rfl (pc0 := 41) rfl (hb hbytes d41) (by decide) rfl ?_
        exact Steps.refl _)
      have c10 : Steps p.tables e below (s₁.setTop (entryFrame m #[.ref b, .int (Int32.ofNat o), .ref d, .int (Int32.ofNat q), .int (Int32.ofNat len)] 7)) (T7.setTop (mkF m 3 #[.val (.ref b), .val (.int (Int32.ofNat (o + (i + 1)))), .val (.ref d), .val (.int (Int32.ofNat (q + (i + 1)))), .val (.int (Int32.ofNat len)), .val (.int (Int32.ofNat (i + 1))), .val (.int (cv A (o + i)))] [])) := by
        have := c9
        rw [succ32, succ32, succ32] at this
        exact this
      exact ih (i + 1) (by omega) _ (Or.inr ⟨_, rfl, rfl⟩) T7 _ (by rw [copyLocs_step, ← List.append_assoc]; exact X7) (pl.trans p7) (fl.step (by omega) hlt (by simp)) c10
  obtain ⟨T9, B9, z9, X9, p9, f9, g9⟩ := loop len 0 (by omega) .unset (Or.inl rfl) s₁ B (by simpa [copyLocs] using X0) ⟨hB0.1, fun _ _ => rfl, rfl⟩ (Laid.zero _ _ _) c2
  have c11 : Steps p.tables e below (s₁.setTop (entryFrame m #[.ref b, .int (Int32.ofNat o), .ref d, .int (Int32.ofNat q), .int (Int32.ofNat len)] 7)) (T9.setTop (mkF m 46 #[.val (.ref b), .val (.int (Int32.ofNat (o + len))), .val (.ref d), .val (.int (Int32.ofNat (q + len))), .val (.int (Int32.ofNat len)), .val (.int (Int32.ofNat len)), z9] [.int (Int32.ofNat len)])) := g9.trans (by
    refine XS.iload X9.here hexec rfl (hb hbytes d3) rfl ?_
    refine XS.iload X9.here hexec rfl (hb hbytes d5) rfl ?_
    refine XS.icmpYes X9.here hexec rfl (pc0 := 7) rfl (hb hbytes d7) rfl (ii_ge_t (nlt32 (by omega) (Nat.le_refl _))) (by decide) rfl ?_
    refine XS.iload X9.here hexec rfl (hb hbytes d44) rfl ?_
    exact Steps.refl _)
  exact ⟨T9, some (.int (Int32.ofNat len)), _, _, _, X9, by simp, rfl, rfl, (fun h => by cases h), ⟨rfl, B9, p9.from hh0, f9⟩, fun fs hl => c11.trans (X9.ireturnOut hexec hret rfl (Or.inl rfl) (hb hbytes d46) hl)⟩
end Cmp5
namespace Cmp3
def yN : MethodName := ⟨"java/lang/StringUTF16", "compress", "([CII)[B"⟩
abbrev yB : ByteArray := jdk_52_method_16_code
theorem d0 : decode yB 0 = .ok (.iload_n 2, 1) := by decide +kernel
theorem d1 : decode yB 1 = .ok (.newarray .byte, 2) := by decide +kernel
theorem d3 : decode yB 3 = .ok (.astore_n 3, 1) := by decide +kernel
theorem d4 : decode yB 4 = .ok (.aload_n 0, 1) := by decide +kernel
theorem d5 : decode yB 5 = .ok (.iload_n 1, 1) := by decide +kernel
theorem d6 : decode yB 6 = .ok (.aload_n 3, 1) := by decide +kernel
theorem d7 : decode yB 7 = .ok (.iconst 0, 1) := by decide +kernel
theorem d8 : decode yB 8 = .ok (.iload_n 2, 1) := by decide +kernel
theorem d9 : decode yB 9 = .ok (.invokestatic 115, 3) := by decide +kernel
theorem d12 : decode yB 12 = .ok (.istore 4, 2) := by decide +kernel
theorem d14 : decode yB 14 = .ok (.iload 4, 2) := by decide +kernel
theorem d16 : decode yB 16 = .ok (.iload_n 2, 1) := by decide +kernel
theorem d17 : decode yB 17 = .ok (.if_icmp (.eq) 40, 3) := by decide +kernel
theorem d57 : decode yB 57 = .ok (.aload_n 3, 1) := by decide +kernel
theorem d58 : decode yB 58 = .ok (.areturn, 1) := by decide +kernel
def site : List Cond := [.arrayClass .byte, Cmp5.tab] ++ staticW U16 115 Cmp5.yN
def tab : Cond := tabOf yN yB 6 (some (.array .byte)) site
def P (b : Addr) (A : Cell) (o len : Nat) (args : Array Value) (s : State) : Prop := args = #[.ref b, .int (Int32.ofNat o), .int (Int32.ofNat len)] ∧ Ch b A s ∧ o + len ≤ A.slots.size ∧ len ≤ 536870912 ∧ ∀ i, i < len → ¬ 255 < cv A (o + i)
def E (b : Addr) (A : Cell) (o len : Nat) (r : Option Value) (s u : State) : Prop := NewArr .byte "[B" len (fun j => .int (lo8 (cv A (o + j)))) r s u ∧ u.heap.size = s.heap.size + 1
/-- no char of the range above 255: a new byte[] of their low bytes -/
theorem law (l : Launch) (b : Addr) (A : Cell) (o len : Nat) : Law l yN 3 3 1 18 yB 6 (some (.array .byte)) site (P b A o len) (E b A o len) [] 1 len := by
  refine Law.of_walk (plainFor_of_name (by decide +kernel)) (by decide +kernel) (by decide +kernel) (by decide) (fun _ _ h => by rw [h.1]; rfl) (fun _ U U' hal hh h => ⟨h.1, h.2.1.mv hal hh, h.2.2⟩) (fun r U U' V V' h1 hal h2 h => ⟨NewArr.mv r U U' V V' h1 hal h2 h.1, by rw [h1, h2]; exact h.2⟩) ?_
  intro p e s m args below meth c s₁ X0 hexec hbytes hml hret hlk hnm hown hh0 W hP
  obtain ⟨rfl, hA, l1, l2, hp⟩ := hP
  have a31 := hA.1.2.2.2
  have c1 : Steps p.tables e below (s₁.setTop (entryFrame m #[.ref b, .int (Int32.ofNat o), .int (Int32.ofNat len)] 6)) (s₁.setTop (mkF m 0 #[.val (.ref b), .val (.int (Int32.ofNat o)), .val (.int (Int32.ofNat len)), .unset, .unset, .unset] [])) := entry rfl
  have c2 : Steps p.tables e below (s₁.setTop (entryFrame m #[.ref b, .int (Int32.ofNat o), .int (Int32.ofNat len)] 6)) (s₁.setTop (mkF m 1 #[.val (.ref b), .val (.int (Int32.ofNat o)), .val (.int (Int32.ofNat len)), .unset, .unset, .unset] [.int (Int32.ofNat len)])) := c1.trans (by
    refine XS.iloadN X0.here hexec rfl (hb hbytes d0) rfl ?_
    exact Steps.refl _)
  obtain ⟨T3, B3, X3, ba3, bs3, bv3, bh3, bf3, st3⟩ := X0.anew hexec (atype := .byte) (wk W (.arrayClass .byte)) rfl (by show len * 1 ≤ _; omega) (by omega) (g := (mkF m 1 #[.val (.ref b), .val (.int (Int32.ofNat o)), .val (.int (Int32.ofNat len)), .unset, .unset, .unset] [.int (Int32.ofNat len)])) rfl (hb hbytes d1) (rest := []) rfl (Nat.le_refl _) (by show 0 + len ≤ len; omega)
  rw [hh0] at ba3 st3
  have kp3 : XT.Kept s T3 := (XT.Kept.of_eq hh0).push bh3
  have hA3 := hA.keep X3.warmed.alike (kp3 _ _ hA.1.1)
  have hne : b ≠ s.heap.size := hA.1.ne
  have c4 : Steps p.tables e below (s₁.setTop (entryFrame m #[.ref b, .int (Int32.ofNat o), .int (Int32.ofNat len)] 6)) (T3.setTop (mkF m 3 #[.val (.ref b), .val (.int (Int32.ofNat o)), .val (.int (Int32.ofNat len)), .unset, .unset, .unset] [.ref s.heap.size])) := c2.trans (st3 _ (Steps.refl _))
  have c5 : Steps p.tables e below (s₁.setTop (entryFrame m #[.ref b, .int (Int32.ofNat o), .int (Int32.ofNat len)] 6)) (T3.setTop (mkF m 9 #[.val (.ref b), .val (.int (Int32.ofNat o)), .val (.int (Int32.ofNat len)), .val (.ref s.heap.size), .unset, .unset] [.int (Int32.ofNat len), .int 0, .ref s.heap.size, .int (Int32.ofNat o), .ref b])) := c4.trans (by
    refine XS.astoreN X3.here hexec rfl (hb hbytes d3) rfl rfl rfl ?_
    refine XS.aloadN X3.here hexec rfl (hb hbytes d4) rfl rfl ?_
    refine XS.iloadN X3.here hexec rfl (hb hbytes d5) rfl ?_
    refine XS.aloadN X3.here hexec rfl (hb hbytes d6) rfl rfl ?_
    refine iconstV X3.here hexec rfl 0 (hb hbytes d7) (by decide) ?_
    refine XS.iloadN X3.here hexec rfl (hb hbytes d8) rfl ?_
    exact Steps.refl _)
  obtain ⟨v6, T6, X6, E6, g6⟩ := X3.callS hexec (Cmp5.law l b A s.heap.size B3 o 0 len) hown (wks W (staticW U16 115 Cmp5.yN)) (wk W Cmp5.tab) (W := 0) (Nat.le_of_ble_eq_true rfl) (Nat.le_of_ble_eq_true rfl) (Nat.le_refl _) (by show 0 + len + 0 ≤ len; omega) (g := (mkF m 9 #[.val (.ref b), .val (.int (Int32.ofNat o)), .val (.int (Int32.ofNat len)), .val (.ref s.heap.size), .unset, .unset] [.int (Int32.ofNat len), .int (Int32.ofNat 0), .ref s.heap.size, .int (Int32.ofNat o), .ref b])) rfl (by rw [hml]; rfl) c5 (argsL := [.ref b, .int (Int32.ofNat o), .ref s.heap.size, .int (Int32.ofNat 0), .int (Int32.ofNat len)]) (rest := []) rfl rfl (by show 2 * 0 + 0 ≤ _; decide) (hb hbytes d9) (⟨rfl, hA3, ba3, hne, l1, by rw [bs3]; simp, hp⟩)
  obtain ⟨rfl, B6, p6, f6⟩ := E6
  have c7 : Steps p.tables e below (s₁.setTop (entryFrame m #[.ref b, .int (Int32.ofNat o), .int (Int32.ofNat len)] 6)) (T6.setTop (mkF m 12 #[.val (.ref b), .val (.int (Int32.ofNat o)), .val (.int (Int32.ofNat len)), .val (.ref s.heap.size), .unset, .unset] [.int (Int32.ofNat len)])) := g6
  have c8 : Steps p.tables e below (s₁.setTop (entryFrame m #[.ref b, .int (Int32.ofNat o), .int (Int32.ofNat len)] 6)) (T6.setTop (mkF m 58 #[.val (.ref b), .val (.int (Int32.ofNat o)), .val (.int (Int32.ofNat len)), .val (.ref s.heap.size), .val (.int (Int32.ofNat len)), .unset] [.ref s.heap.size])) := c7.trans (by
    refine XS.istore X6.here hexec rfl (hb hbytes d12) rfl rfl ?_
    refine XS.iload X6.here hexec rfl (hb hbytes d14) rfl ?_
    refine XS.iloadN X6.here hexec rfl (hb hbytes d16) rfl ?_
    refine XS.icmpYes X6.here hexec rfl (pc0 := 17) rfl (hb hbytes d17) rfl (ii_eq_t rfl) (by decide) rfl ?_
    refine XS.aloadN X6.here hexec rfl (hb hbytes d57) rfl rfl ?_
    exact Steps.refl _)
  have X8 := X6.wide (L' := []) (cells' := 1) (slots' := len) (fun x hx hlt => by
    simp only [List.nil_append, copyLocs, List.mem_map, List.mem_range] at hx
    obtain ⟨i, -, rfl⟩ := hx
    exact absurd hlt (Nat.lt_irrefl _)) (Nat.le_refl _) (by omega)
  exact ⟨T6, some (.ref s.heap.size), _, _, _, X8, rfl, rfl, rfl, (fun h => by cases h), ⟨⟨rfl, B6, ba3.like (X3.warmed.alike.symm.trans X6.warmed.alike) p6.1 f6.1 f6.2.1 f6.2.2.1, f6.2.1.trans bv3, by rw [X6.warmed.alike.findClass, f6.1]; exact bf3, by rw [f6.2.2.1, bs3]; simp, fun j hj => by rw [f6.2.2.2 j, if_pos (by omega)]; rfl, kp3.put p6 (Nat.le_refl _)⟩, by rw [p6.2.2, bh3, hh0]; simp⟩, fun fs hl => c8.trans (X8.areturnOut hexec rfl hret rfl (hb hbytes d58) hl)⟩
end Cmp3
namespace CodL
def yN : MethodName := ⟨"java/lang/StringUTF16", "coderFromArrayLen", "([BI)B"⟩
abbrev yB : ByteArray := jdk_52_method_15_code
theorem d0 : decode yB 0 = .ok (.iload_n 1, 1) := by decide +kernel
theorem d1 : decode yB 1 = .ok (.aload_n 0, 1) := by decide +kernel
theorem d2 : decode yB 2 = .ok (.arraylength, 1) := by decide +kernel
theorem d3 : decode yB 3 = .ok (.isub, 1) := by decide +kernel
theorem d4 : decode yB 4 = .ok (.bipush 31, 2) := by decide +kernel
theorem d6 : decode yB 6 = .ok (.iushr, 1) := by decide +kernel
theorem d7 : decode yB 7 = .ok (.i2b, 1) := by decide +kernel
theorem d8 : decode yB 8 = .ok (.ireturn, 1) := by decide +kernel
def site : List Cond := []
def tab : Cond := tabOf yN yB 2 (some .byte) site
def P (d : Addr) (B : Cell) (args : Array Value) (s : State) : Prop := args = #[.ref d, .int (Int32.ofNat B.slots.size)] ∧ Arr .byte d B s
def E (r : Option Value) (s u : State) : Prop := XT.PureE (some (.int 0)) r s u
/-- an array as long as the number of chars: LATIN1 -/
theorem law (l : Launch) (d : Addr) (B : Cell) : Law l yN 2 2 0 0 yB 2 (some .byte) site (P d B) E [] 0 0 := by
  refine Law.of_walk (plainFor_of_name (by decide +kernel)) (by decide +kernel) (by decide +kernel) (by decide) (fun _ _ h => by rw [h.1]; rfl) (fun _ U U' hal hh h => ⟨h.1, h.2.mv hal hh⟩) (fun r U U' V V' h1 hal h2 h => XT.PureE.mv r U U' V V' h1 hal h2 h) ?_
  intro p e s m args below meth c s₁ X0 hexec hbytes hml hret hlk hnm hown hh0 W hP
  obtain ⟨rfl, hB⟩ := hP
  have hB0 := hB.mv X0.warmed.alike hh0
  have c1 : Steps p.tables e below (s₁.setTop (entryFrame m #[.ref d, .int (Int32.ofNat B.slots.size)] 2)) (s₁.setTop (mkF m 0 #[.val (.ref d), .val (.int (Int32.ofNat B.slots.size))] [])) := entry rfl
  have c2 : Steps p.tables e below (s₁.setTop (entryFrame m #[.ref d, .int (Int32.ofNat B.slots.size)] 2)) (s₁.setTop (mkF m 2 #[.val (.ref d), .val (.int (Int32.ofNat B.slots.size))] [.ref d, .int (Int32.ofNat B.slots.size)])) := c1.trans (by
    refine XS.iloadN X0.here hexec rfl (hb hbytes d0) rfl ?_
    refine XS.aloadN X0.here hexec rfl (hb hbytes d1) rfl rfl ?_
    exact Steps.refl _)
  have c3 : Steps p.tables e below (s₁.setTop (entryFrame m #[.ref d, .int (Int32.ofNat B.slots.size)] 2)) (s₁.setTop (mkF m 8 #[.val (.ref d), .val (.int (Int32.ofNat B.slots.size))] [.int (lo8 (ushr (Int32.ofNat B.slots.size - Int32.ofNat B.slots.size) 31))])) := c2.trans (by
    refine X0.alen hexec hB0 rfl rfl (hb hbytes d2) ?_
    refine XS.isub X0.here hexec rfl (hb hbytes d3) rfl ?_
    refine bipushV X0.here hexec rfl 31 (hb hbytes d4) (by decide) ?_
    refine iushr X0.here hexec rfl (hb hbytes d6) rfl ?_
    refine i2b X0.here hexec rfl (hb hbytes d7) rfl ?_
    exact Steps.refl _)
  have e0 : lo8 (ushr (Int32.ofNat B.slots.size - Int32.ofNat B.slots.size) 31) = 0 := by rw [Int32.sub_self]; decide
  rw [e0] at c3
  exact ⟨s₁, some (.int 0), _, _, _, X0, rfl, rfl, rfl, (fun h => by cases h), ⟨rfl, hh0⟩, fun fs hl => c3.trans (X0.ireturnOut hexec hret rfl (Or.inr (Or.inr (Or.inl rfl))) (hb hbytes d8) hl)⟩
end CodL
/-- the String at a is Latin-1 over a new byte[] (the heap's one new cell): the low bytes of the len chars of A from o on; every cell but a is kept -/
def Got (a : Addr) (D : Cell) (fV fC : Field) (A : Cell) (o len : Nat) (r : Option Value) (s u : State) : Prop := r = none ∧ ∃ D' V : Cell, Blank "java/lang/String" a D' u ∧ Same D D' [fV.slot, fC.slot] ∧ D'.slots[fV.slot]? = some (.ref s.heap.size) ∧ D'.slots[fC.slot]? = some (.int 0) ∧ Arr .byte s.heap.size V u ∧ V.vm = .none ∧ u.vm.findClass "[B" = some V.cls ∧ V.slots.size = len ∧ (∀ j, j < len → V.slots[j]? = some (.int (lo8 (cv A (o + j))))) ∧ (∀ (y : Addr) (c : Cell), y ≠ a → s.heap[y]? = some c → u.heap[y]? = some c) ∧ u.heap.size = s.heap.size + 1
theorem Got.mv {a : Addr} {D A : Cell} {fV fC : Field} {o len : Nat} : ∀ r (U U' V V' : State), U'.heap = U.heap → V.vm.Alike V'.vm → V'.heap = V.heap → Got a D fV fC A o len r U V → Got a D fV fC A o len r U' V' :=
  fun r U U' V V' h1 hal h2 ⟨e0, D', X, a1, a2, a3, a4, a5, a6, a7, a8, a9, a10, a11⟩ => ⟨e0, D', X, a1.mv hal h2, a2, by rw [h1]; exact a3, a4, by rw [h1]; exact a5.mv hal h2, a6, by rw [hal.findClass]; exact a7, a8, a9, by rw [h1, h2]; exact a10, by rw [h1, h2]; exact a11⟩
namespace New4
def yN : MethodName := ⟨"java/lang/String", "<init>", "([CIILjava/lang/Void;)V"⟩
abbrev yB : ByteArray := jdk_42_method_149_code
theorem d0 : decode yB 0 = .ok (.aload_n 0, 1) := by decide +kernel
theorem d1 : decode yB 1 = .ok (.invokespecial 1, 3) := by decide +kernel
theorem d4 : decode yB 4 = .ok (.iload_n 3, 1) := by decide +kernel
theorem d5 : decode yB 5 = .ok (.ifCond (.ne) 22, 3) := by decide +kernel
theorem d27 : decode yB 27 = .ok (.getstatic 38, 3) := by decide +kernel
theorem d30 : decode yB 30 = .ok (.ifCond (.eq) 28, 3) := by decide +kernel
theorem d33 : decode yB 33 = .ok (.aload_n 1, 1) := by decide +kernel
theorem d34 : decode yB 34 = .ok (.iload_n 2, 1) := by decide +kernel
theorem d35 : decode yB 35 = .ok (.iload_n 3, 1) := by decide +kernel
theorem d36 : decode yB 36 = .ok (.invokestatic 177, 3) := by decide +kernel
theorem d39 : decode yB 39 = .ok (.astore 5, 2) := by decide +kernel
theorem d41 : decode yB 41 = .ok (.aload_n 0, 1) := by decide +kernel
theorem d42 : decode yB 42 = .ok (.aload 5, 2) := by decide +kernel
theorem d44 : decode yB 44 = .ok (.iload_n 3, 1) := by decide +kernel
theorem d45 : decode yB 45 = .ok (.invokestatic 47, 3) := by decide +kernel
theorem d48 : decode yB 48 = .ok (.putfield 15, 3) := by decide +kernel
theorem d51 : decode yB 51 = .ok (.aload_n 0, 1) := by decide +kernel
theorem d52 : decode yB 52 = .ok (.aload 5, 2) := by decide +kernel
theorem d54 : decode yB 54 = .ok (.putfield 9, 3) := by decide +kernel
theorem d57 : decode yB 57 = .ok (.return_, 1) := by decide +kernel
def site : List Cond := [.fieldLink "java/lang/String" 38 "java/lang/String" "COMPACT_STRINGS" "Z", Cmp3.tab, CodL.tab, .laysFinal "java/lang/String" "java/lang/String" "value" "[B", .fieldLink "java/lang/String" 9 "java/lang/String" "value" "[B", .laysFinal "java/lang/String" "java/lang/String" "coder" "B", .fieldLink "java/lang/String" 15 "java/lang/String" "coder" "B"] ++ objW "java/lang/String" 1 ++ staticW "java/lang/String" 177 Cmp3.yN ++ staticW "java/lang/String" 47 CodL.yN
def tab : Cond := tabOf yN yB 6 none site
def P (a : Addr) (D : Cell) (fV fC : Field) (b : Addr) (A : Cell) (z : Int32) (o len : Nat) (args : Array Value) (s : State) : Prop := args = #[.ref a, .ref b, .int (Int32.ofNat o), .int (Int32.ofNat len), .null] ∧ Blank "java/lang/String" a D s ∧ Found "java/lang/String" "value" "[B" fV s ∧ Found "java/lang/String" "coder" "B" fC s ∧ Ch b A s ∧ StaticIs s "java/lang/String" "COMPACT_STRINGS" "Z" (.int z) ∧ ¬ z = 0 ∧ 0 < len ∧ o + len ≤ A.slots.size ∧ len ≤ 536870912 ∧ ∀ i, i < len → ¬ 255 < cv A (o + i)
def E (a : Addr) (D : Cell) (fV fC : Field) (A : Cell) (o len : Nat) (r : Option Value) (s u : State) : Prop := Got a D fV fC A o len r s u
/-- len > 0, no char of the range above 255: a Latin-1 String of their low bytes -/
theorem law (l : Launch) (a : Addr) (D : Cell) (fV fC : Field) (b : Addr) (A : Cell) (z : Int32) (o len : Nat) : Law l yN 5 4 2 35 yB 6 none site (P a D fV fC b A z o len) (E a D fV fC A o len) [⟨a, fC.slot⟩, ⟨a, fV.slot⟩] 1 len := by
  refine Law.of_walk (plainFor_of_name (by decide +kernel)) (by decide +kernel) (by decide +kernel) (by decide) (fun _ _ h => by rw [h.1]; rfl) (fun _ U U' hal hh h => ⟨h.1, h.2.1.mv hal hh, h.2.2.1.al hal, h.2.2.2.1.al hal, h.2.2.2.2.1.mv hal hh, h.2.2.2.2.2.1.there hal hh, h.2.2.2.2.2.2⟩) (fun r U U' V V' h1 hal h2 h => Got.mv r U U' V V' h1 hal h2 h) ?_
  intro p e s m args below meth c s₁ X0 hexec hbytes hml hret hlk hnm hown hh0 W hP
  obtain ⟨rfl, hB, f1, f2, hA, s1, hz, l0, l1, l2, hp⟩ := hP
  have a31 := hA.1.2.2.2
  have c1 : Steps p.tables e below (s₁.setTop (entryFrame m #[.ref a, .ref b, .int (Int32.ofNat o), .int (Int32.ofNat len), .null] 6)) (s₁.setTop (mkF m 0 #[.val (.ref a), .val (.ref b), .val (.int (Int32.ofNat o)), .val (.int (Int32.ofNat len)), .val .null, .unset] [])) := entry rfl
  have c2 : Steps p.tables e below (s₁.setTop (entryFrame m #[.ref a, .ref b, .int (Int32.ofNat o), .int (Int32.ofNat len), .null] 6)) (s₁.setTop (mkF m 1 #[.val (.ref a), .val (.ref b), .val (.int (Int32.ofNat o)), .val (.int (Int32.ofNat len)), .val .null, .unset] [.ref a])) := c1.trans (by
    refine XS.aloadN X0.here hexec rfl (hb hbytes d0) rfl rfl ?_
    exact Steps.refl _)
  obtain ⟨T3, X3, q3, st3⟩ := X0.oinit hexec hown (wks W (objW "java/lang/String" 1)) (g := (mkF m 1 #[.val (.ref a), .val (.ref b), .val (.int (Int32.ofNat o)), .val (.int (Int32.ofNat len)), .val .null, .unset] [.ref a])) rfl (by rw [hml]; rfl) (rest := []) rfl (hb hbytes d1) (W := 0) (by show 2 * 0 + 0 ≤ _; decide) (Nat.le_of_ble_eq_true rfl) (Nat.le_of_ble_eq_true rfl)
  have hh3 := q3.trans hh0
  have c4 : Steps p.tables e below (s₁.setTop (entryFrame m #[.ref a, .ref b, .int (Int32.ofNat o), .int (Int32.ofNat len), .null] 6)) (T3.setTop (mkF m 27 #[.val (.ref a), .val (.ref b), .val (.int (Int32.ofNat o)), .val (.int (Int32.ofNat len)), .val .null, .unset] [])) := (c2.trans (st3 _ (Steps.refl _))).trans (by
    refine XS.iloadN X3.here hexec rfl (hb hbytes d4) rfl ?_
    refine XS.ifYes X3.here hexec rfl (pc0 := 5) rfl (hb hbytes d5) rfl (i0_ne_t (nz32 (by omega) l0)) (by decide) rfl ?_
    exact Steps.refl _)
  obtain ⟨T5, X5, q5, st5⟩ := X3.sget hexec hown (wk W (.fieldLink "java/lang/String" 38 "java/lang/String" "COMPACT_STRINGS" "Z")) s1 (fun _ _ h => by rw [hh3]; exact h) (g := (mkF m 27 #[.val (.ref a), .val (.ref b), .val (.int (Int32.ofNat o)), .val (.int (Int32.ofNat len)), .val .null, .unset] [])) rfl (hb hbytes d27)
  have hh5 := q5.trans hh3
  have c6 : Steps p.tables e below (s₁.setTop (entryFrame m #[.ref a, .ref b, .int (Int32.ofNat o), .int (Int32.ofNat len), .null] 6)) (T5.setTop (mkF m 30 #[.val (.ref a), .val (.ref b), .val (.int (Int32.ofNat o)), .val (.int (Int32.ofNat len)), .val .null, .unset] [.int z])) := c4.trans (st5 _ (Steps.refl _))
  have c7 : Steps p.tables e below (s₁.setTop (entryFrame m #[.ref a, .ref b, .int (Int32.ofNat o), .int (Int32.ofNat len), .null] 6)) (T5.setTop (mkF m 36 #[.val (.ref a), .val (.ref b), .val (.int (Int32.ofNat o)), .val (.int (Int32.ofNat len)), .val .null, .unset] [.int (Int32.ofNat len), .int (Int32.ofNat o), .ref b])) := c6.trans (by
    refine XS.ifNo X5.here hexec rfl (hb hbytes d30) rfl (i0_eq_f hz) ?_
    refine XS.aloadN X5.here hexec rfl (hb hbytes d33) rfl rfl ?_
    refine XS.iloadN X5.here hexec rfl (hb hbytes d34) rfl ?_
    refine XS.iloadN X5.here hexec rfl (hb hbytes d35) rfl ?_
    exact Steps.refl _)
  obtain ⟨v8, T8, X8, E8, g8⟩ := X5.callS hexec (Cmp3.law l b A o len) hown (wks W (staticW "java/lang/String" 177 Cmp3.yN)) (wk W Cmp3.tab) (W := 0) (Nat.le_of_ble_eq_true rfl) (Nat.le_of_ble_eq_true rfl) (Nat.le_refl _) (by show 0 + len ≤ len; omega) (g := (mkF m 36 #[.val (.ref a), .val (.ref b), .val (.int (Int32.ofNat o)), .val (.int (Int32.ofNat len)), .val .null, .unset] [.int (Int32.ofNat len), .int (Int32.ofNat o), .ref b])) rfl (by rw [hml]; rfl) c7 (argsL := [.ref b, .int (Int32.ofNat o), .int (Int32.ofNat len)]) (rest := []) rfl rfl (by show 2 * 0 + 0 ≤ _; decide) (hb hbytes d36) (⟨rfl, hA.mv X5.warmed.alike hh5, l1, l2, hp⟩)
  obtain ⟨e8, z8⟩ := E8
  obtain ⟨rfl, N, n1, n2, n3, n4, n5, n6⟩ := NewArr.mv _ T5 s _ _ hh5.symm (Vm.Alike.refl _) rfl e8
  rw [hh5] at z8
  have hB1 := hB.keep X8.warmed.alike (n6 _ _ hB.1)
  have hne : s.heap.size ≠ a := (Nat.ne_of_lt (Array.getElem?_eq_some_iff.mp hB.1).1).symm
  have c9 : Steps p.tables e below (s₁.setTop (entryFrame m #[.ref a, .ref b, .int (Int32.ofNat o), .int (Int32.ofNat len), .null] 6)) (T8.setTop (mkF m 39 #[.val (.ref a), .val (.ref b), .val (.int (Int32.ofNat o)), .val (.int (Int32.ofNat len)), .val .null, .unset] [.ref s.heap.size])) := g8
  have c10 : Steps p.tables e below (s₁.setTop (entryFrame m #[.ref a, .ref b, .int (Int32.ofNat o), .int (Int32.ofNat len), .null] 6)) (T8.setTop (mkF m 45 #[.val (.ref a), .val (.ref b), .val (.int (Int32.ofNat o)), .val (.int (Int32.ofNat len)), .val .null, .val (.ref s.heap.size)] [.int (Int32.ofNat N.slots.size), .ref s.heap.size, .ref a])) := by
    have hc : Steps p.tables e below (s₁.setTop (entryFrame m #[.ref a, .ref b, .int (Int32.ofNat o), .int (Int32.ofNat len), .null] 6)) (T8.setTop (mkF m 45 #[.val (.ref a), .val (.ref b), .val (.int (Int32.ofNat o)), .val (.int (Int32.ofNat len)), .val .null, .val (.ref s.heap.size)] [.int (Int32.ofNat len), .ref s.heap.size, .ref a])) := c9.trans (by
      refine XS.astore X8.here hexec rfl (hb hbytes d39) rfl rfl rfl ?_
      refine XS.aloadN X8.here hexec rfl (hb hbytes d41) rfl rfl ?_
      refine XS.aload X8.here hexec rfl (hb hbytes d42) rfl rfl ?_
      refine XS.iloadN X8.here hexec rfl (hb hbytes d44) rfl ?_
      exact Steps.refl _)
    rw [n4]; exact hc
  obtain ⟨v11, T11, X11, E11, g11⟩ := X8.callS hexec (CodL.law l s.heap.size N) hown (wks W (staticW "java/lang/String" 47 CodL.yN)) (wk W CodL.tab) (W := 1) (Nat.le_of_ble_eq_true rfl) (Nat.le_of_ble_eq_true rfl) (Nat.le_refl _) (by show 0 + len + 0 ≤ len; omega) (g := (mkF m 45 #[.val (.ref a), .val (.ref b), .val (.int (Int32.ofNat o)), .val (.int (Int32.ofNat len)), .val .null, .val (.ref s.heap.size)] [.int (Int32.ofNat N.slots.size), .ref s.heap.size, .ref a])) rfl (by rw [hml]; rfl) c10 (argsL := [.ref s.heap.size, .int (Int32.ofNat N.slots.size)]) (rest := [.ref a]) rfl rfl (by show 2 * 0 + (1 + 0) ≤ _; decide) (hb hbytes d45) (⟨rfl, n1⟩)
  obtain ⟨rfl, q11⟩ := E11
  have hB11 := hB1.mv (X8.warmed.alike.symm.trans X11.warmed.alike) q11
  have c12 : Steps p.tables e below (s₁.setTop (entryFrame m #[.ref a, .ref b, .int (Int32.ofNat o), .int (Int32.ofNat len), .null] 6)) (T11.setTop (mkF m 48 #[.val (.ref a), .val (.ref b), .val (.int (Int32.ofNat o)), .val (.int (Int32.ofNat len)), .val .null, .val (.ref s.heap.size)] [.int 0, .ref a])) := g11
  obtain ⟨T13, X13, p13, bl13, sl13, st13⟩ := X11.finit hexec hown (wk W (.fieldLink "java/lang/String" 15 "java/lang/String" "coder" "B")) (Or.inr ⟨_, (wk W (.laysFinal "java/lang/String" "java/lang/String" "coder" "B"))⟩) (Or.inl ⟨rfl, hnm⟩) f2 (Or.inl rfl) hB11 (t := .byte) (by decide +kernel) rfl (g := (mkF m 48 #[.val (.ref a), .val (.ref b), .val (.int (Int32.ofNat o)), .val (.int (Int32.ofNat len)), .val .null, .val (.ref s.heap.size)] [.int 0, .ref a])) rfl (rest := []) rfl (hb hbytes d48)
  have c14 : Steps p.tables e below (s₁.setTop (entryFrame m #[.ref a, .ref b, .int (Int32.ofNat o), .int (Int32.ofNat len), .null] 6)) (T13.setTop (mkF m 54 #[.val (.ref a), .val (.ref b), .val (.int (Int32.ofNat o)), .val (.int (Int32.ofNat len)), .val .null, .val (.ref s.heap.size)] [.ref s.heap.size, .ref a])) := (c12.trans (st13 _ (Steps.refl _))).trans (by
    refine XS.aloadN X13.here hexec rfl (hb hbytes d51) rfl rfl ?_
    refine XS.aload X13.here hexec rfl (hb hbytes d52) rfl rfl ?_
    exact Steps.refl _)
  obtain ⟨T15, X15, p15, bl15, sl15, st15⟩ := X13.finit hexec hown (wk W (.fieldLink "java/lang/String" 9 "java/lang/String" "value" "[B")) (Or.inr ⟨_, (wk W (.laysFinal "java/lang/String" "java/lang/String" "value" "[B"))⟩) (Or.inl ⟨rfl, hnm⟩) f1 (Or.inl rfl) bl13 (t := (.array .byte)) (by decide +kernel) rfl (g := (mkF m 54 #[.val (.ref a), .val (.ref b), .val (.int (Int32.ofNat o)), .val (.int (Int32.ofNat len)), .val .null, .val (.ref s.heap.size)] [.ref s.heap.size, .ref a])) rfl (rest := []) rfl (hb hbytes d54)
  have c16 : Steps p.tables e below (s₁.setTop (entryFrame m #[.ref a, .ref b, .int (Int32.ofNat o), .int (Int32.ofNat len), .null] 6)) (T15.setTop (mkF m 57 #[.val (.ref a), .val (.ref b), .val (.int (Int32.ofNat o)), .val (.int (Int32.ofNat len)), .val .null, .val (.ref s.heap.size)] [])) := c14.trans (st15 _ (Steps.refl _))
  have ap := apart (Or.inr ⟨_, (wk W (.laysFinal "java/lang/String" "java/lang/String" "value" "[B"))⟩) (Or.inr ⟨_, (wk W (.laysFinal "java/lang/String" "java/lang/String" "coder" "B"))⟩) f1 f2 (t₁ := .array .byte) (t₂ := .byte) (by decide +kernel) (by decide +kernel) (by decide)
  have al := X8.warmed.alike.symm.trans X15.warmed.alike
  have n7 : T11.heap[s.heap.size]? = some N := by rw [q11]; exact n1.1
  exact ⟨T15, none, _, _, _, X15, by simp, rfl, by omega, (fun _ => rfl), ⟨rfl, _, N, bl15, ((Same.refl D _).set _ (by simp)).set _ (by simp), sl15, (Cell.slots_setSlot_ne _ ap).trans sl13, n1.keep al (p15.other hne (p13.other hne n7)), n2, by rw [al.findClass]; exact n3, n4, n5, fun y c h1 h2 => p15.other h1 (p13.other h1 (by rw [q11]; exact n6 y c h2)), by rw [p15.2.2, p13.2.2, q11]; exact z8⟩, fun fs hl => c16.trans (X15.returnOut hexec hret (hb hbytes d57) hl)⟩
end New4
namespace New1
def yN : MethodName := ⟨"java/lang/String", "<init>", "([C)V"⟩
abbrev yB : ByteArray := jdk_42_method_3_code
theorem d0 : decode yB 0 = .ok (.aload_n 0, 1) := by decide +kernel
theorem d1 : decode yB 1 = .ok (.aload_n 1, 1) := by decide +kernel
theorem d2 : decode yB 2 = .ok (.iconst 0, 1) := by decide +kernel
theorem d3 : decode yB 3 = .ok (.aload_n 1, 1) := by decide +kernel
theorem d4 : decode yB 4 = .ok (.arraylength, 1) := by decide +kernel
theorem d5 : decode yB 5 = .ok (.aconst_null, 1) := by decide +kernel
theorem d6 : decode yB 6 = .ok (.invokespecial 27, 3) := by decide +kernel
theorem d9 : decode yB 9 = .ok (.return_, 1) := by decide +kernel
def site : List Cond := [New4.tab] ++ initW "java/lang/String" 27 New4.yN
def tab : Cond := tabOf yN yB 2 none site
def P (a : Addr) (D : Cell) (fV fC : Field) (b : Addr) (A : Cell) (z : Int32) (args : Array Value) (s : State) : Prop := args = #[.ref a, .ref b] ∧ Blank "java/lang/String" a D s ∧ Found "java/lang/String" "value" "[B" fV s ∧ Found "java/lang/String" "coder" "B" fC s ∧ Ch b A s ∧ StaticIs s "java/lang/String" "COMPACT_STRINGS" "Z" (.int z) ∧ ¬ z = 0 ∧ 0 < A.slots.size ∧ A.slots.size ≤ 536870912 ∧ ∀ i, i < A.slots.size → ¬ 255 < cv A i
def E (a : Addr) (D : Cell) (fV fC : Field) (A : Cell) (r : Option Value) (s u : State) : Prop := Got a D fV fC A 0 A.slots.size r s u
/-- new String(chars), not empty, no char above 255: a Latin-1 String of their low bytes -/
theorem law (l : Launch) (a : Addr) (D : Cell) (fV fC : Field) (b : Addr) (A : Cell) (z : Int32) : Law l yN 2 1 3 52 yB 2 none site (P a D fV fC b A z) (E a D fV fC A) [⟨a, fC.slot⟩, ⟨a, fV.slot⟩] 1 A.slots.size := by
  refine Law.of_walk (plainFor_of_name (by decide +kernel)) (by decide +kernel) (by decide +kernel) (by decide) (fun _ _ h => by rw [h.1]; rfl) (fun _ U U' hal hh h => ⟨h.1, h.2.1.mv hal hh, h.2.2.1.al hal, h.2.2.2.1.al hal, h.2.2.2.2.1.mv hal hh, h.2.2.2.2.2.1.there hal hh, h.2.2.2.2.2.2⟩) (fun r U U' V V' h1 hal h2 h => Got.mv r U U' V V' h1 hal h2 h) ?_
  intro p e s m args below meth c s₁ X0 hexec hbytes hml hret hlk hnm hown hh0 W hP
  obtain ⟨rfl, hB, f1, f2, hA, s1, hz, l0, l2, hp⟩ := hP
  have c1 : Steps p.tables e below (s₁.setTop (entryFrame m #[.ref a, .ref b] 2)) (s₁.setTop (mkF m 0 #[.val (.ref a), .val (.ref b)] [])) := entry rfl
  have c2 : Steps p.tables e below (s₁.setTop (entryFrame m #[.ref a, .ref b] 2)) (s₁.setTop (mkF m 6 #[.val (.ref a), .val (.ref b)] [.null, .int (Int32.ofNat A.slots.size), .int 0, .ref b, .ref a])) := c1.trans (by
    refine XS.aloadN X0.here hexec rfl (hb hbytes d0) rfl rfl ?_
    refine XS.aloadN X0.here hexec rfl (hb hbytes d1) rfl rfl ?_
    refine iconstV X0.here hexec rfl 0 (hb hbytes d2) (by decide) ?_
    refine XS.aloadN X0.here hexec rfl (hb hbytes d3) rfl rfl ?_
    refine X0.alen hexec (hA.1.mv X0.warmed.alike hh0) rfl rfl (hb hbytes d4) ?_
    refine XS.aconstNull X0.here hexec rfl (hb hbytes d5) ?_
    exact Steps.refl _)
  obtain ⟨v3, T3, X3, E3, g3⟩ := X0.callN hexec (New4.law l a D fV fC b A z 0 A.slots.size) rfl hown (wks W (initW "java/lang/String" 27 New4.yN)) (W New4.tab (by simp only [site, List.mem_cons, List.mem_append, true_or, or_true])) (W := 0) (Nat.le_of_ble_eq_true rfl) (Nat.le_of_ble_eq_true rfl) (Nat.le_refl _) (by show 0 + A.slots.size ≤ A.slots.size; omega) (g := (mkF m 6 #[.val (.ref a), .val (.ref b)] [.null, .int (Int32.ofNat A.slots.size), .int (Int32.ofNat 0), .ref b, .ref a])) rfl (by rw [hml]; rfl) c2 (argsL := [.ref b, .int (Int32.ofNat 0), .int (Int32.ofNat A.slots.size), .null]) (rest := []) rfl rfl (by show 2 * 0 + 0 ≤ _; decide) (hb hbytes d6) (⟨rfl, hB.mv X0.warmed.alike hh0, f1.al X0.warmed.alike, f2.al X0.warmed.alike, hA.mv X0.warmed.alike hh0, s1.there X0.warmed.alike hh0, hz, l0, by omega, l2, fun i hi => by rw [Nat.zero_add]; exact hp i hi⟩)
  have e0 := Got.mv _ s₁ s _ _ hh0.symm (Vm.Alike.refl _) rfl E3
  obtain rfl := e0.1
  have c4 : Steps p.tables e below (s₁.setTop (entryFrame m #[.ref a, .ref b] 2)) (T3.setTop (mkF m 9 #[.val (.ref a), .val (.ref b)] [])) := g3
  exact ⟨T3, none, _, _, _, X3, by simp, rfl, by omega, (fun _ => rfl), e0, fun fs hl => c4.trans (X3.returnOut hexec hret (hb hbytes d9) hl)⟩
theorem pays {l : Launch} {R : Room} {p : Program} {e : Env} {below : List Frame} {s : State} {sargs : Array Value} {len W : Nat} (a : Addr) (D : Cell) (fV fC : Field) (b : Addr) (A : Cell) (z : Int32) (htab : tab.before sargs s = true) (hfr : 4 ≤ R.frames) (hlo : W + 65 ≤ R.locals) :
    Back l R p e below s sargs yN len W (fun A₁ a₁ => A₁.cells + 1 ≤ R.cells ∧ A₁.slots + A.slots.size ≤ R.slots ∧ P a D fV fC b A z a₁ A₁.U) (fun A₁ _ v₁ B₁ => E a D fV fC A v₁ A₁.U B₁.U ∧ B₁.locs = A₁.locs ++ [⟨a, fC.slot⟩, ⟨a, fV.slot⟩] ∧ B₁.cells = A₁.cells + 1 ∧ B₁.slots = A₁.slots + A.slots.size) :=
  (law l a D fV fC b A z).pays htab hfr (by omega)
end New1
/-- the byte, read back as charAt reads it, is the char -/
theorem lo8_mask {x : Int32} (h0 : ¬ x < 0) (h1 : ¬ 255 < x) : lo8 x &&& 255 = x := by
  have t : ∀ k : Fin 256, lo8 (Int32.ofNat k.val) &&& 255 = Int32.ofNat k.val := by decide +kernel
  rw [Int32.lt_iff_toInt_lt] at h0 h1
  have e0 : (0 : Int32).toInt = 0 := rfl
  have e1 : (255 : Int32).toInt = 255 := rfl
  obtain ⟨k, hk⟩ : ∃ k : Nat, x.toInt = k := ⟨x.toInt.toNat, by omega⟩
  have hx : x = Int32.ofNat k := Int32.toInt_inj.mp (by rw [hk, Int32.toInt_ofNat_small (by omega)])
  rw [hx]
  exact t ⟨k, by omega⟩
end StrChars
namespace StrChars.Road
open Jvm Sem ClassFile Op Lib Jvm.Stand Jvm.Free Jvm.Free.XT
open Jvm.Lib.Cold (StaticIs)
abbrev ST : String := "java/lang/String"
/-- every table word that New1's law asks, flat -/
abbrev words : List Jvm.Cond := [.code New1.yN New1.yB 2 none, .initialized ST, .methodLink ST 27 New4.yN, .instanceMethod New4.yN,
  .code New4.yN New4.yB 6 none, .fieldLink ST 38 ST "COMPACT_STRINGS" "Z", .laysFinal ST ST "value" "[B", .fieldLink ST 9 ST "value" "[B", .laysFinal ST ST "coder" "B", .fieldLink ST 15 ST "coder" "B",
  .methodLink ST 1 Lib.objectInit, .instanceMethod Lib.objectInit, .code Lib.objectInit ⟨#[0xb1]⟩ 1 none, .methodLink ST 177 Cmp3.yN, .static Cmp3.yN, .methodLink ST 47 CodL.yN, .static CodL.yN,
  .code Cmp3.yN Cmp3.yB 6 (some (.array .byte)), .initialized U16, .arrayClass .byte, .methodLink U16 115 Cmp5.yN, .static Cmp5.yN, .code Cmp5.yN Cmp5.yB 7 (some .int), .code CodL.yN CodL.yB 2 (some .byte)]
theorem tab_of {a : Array Value} {s : State} (h : ∀ w ∈ words, w.before a s = true) : New1.tab.before a s = true := by
  have h5 : Cmp5.tab.before a s = true := unparts (wk h (.code Cmp5.yN Cmp5.yB 7 (some .int))) (wks h (.initialized Cmp5.yN.cls :: Cmp5.site))
  have hc : CodL.tab.before a s = true := unparts (wk h (.code CodL.yN CodL.yB 2 (some .byte))) (wks h (.initialized CodL.yN.cls :: CodL.site))
  have q5 : ∀ w ∈ Cmp5.tab :: words, w.before a s = true := fun w hw => (List.mem_cons.mp hw).elim (fun e => e ▸ h5) (h w)
  have h3 : Cmp3.tab.before a s = true := unparts (wk q5 (.code Cmp3.yN Cmp3.yB 6 (some (.array .byte)))) (wks q5 (.initialized Cmp3.yN.cls :: Cmp3.site))
  have q3 : ∀ w ∈ Cmp3.tab :: CodL.tab :: words, w.before a s = true := fun w hw => (List.mem_cons.mp hw).elim (fun e => e ▸ h3) fun hw => (List.mem_cons.mp hw).elim (fun e => e ▸ hc) (h w)
  have h4 : New4.tab.before a s = true := unparts (wk q3 (.code New4.yN New4.yB 6 none)) (wks q3 (.initialized New4.yN.cls :: New4.site))
  have q4 : ∀ w ∈ New4.tab :: words, w.before a s = true := fun w hw => (List.mem_cons.mp hw).elim (fun e => e ▸ h4) (h w)
  exact unparts (wk q4 (.code New1.yN New1.yB 2 none)) (wks q4 (.initialized New1.yN.cls :: New1.site))
/-- the words ride from the start Z to the walk's own state -/
theorem moved {Z s : State} {a0 args : Array Value} (hZ : Z.Warmed39 s.vm) (hw : ∀ d ∈ words, d.before a0 Z = true) : ∀ d ∈ words, d.before args s = true := fun d hd => by
  have q := hw d hd
  have t : ∀ d ∈ words, d = .arrayClass .byte ∨ (d.onTables && d.keepsFace) = true := by decide +kernel
  rcases t d hd with rfl | t
  · exact RoadKit.mvA hZ q
  · exact RoadKit.mv hZ q t
/-- WHAT COMES BACK, over the tables of the start Z: h the heap at the call, h' behind it -/
def Q (Z : State) (x : Addr) (A : Cell) (h : Heap) (v : Option Value) (h' : Heap) (L : List Loc) : Prop := v = none ∧ (∀ y ∈ L, y.base = x) ∧ RoadKit.Keep h h' [x] ∧ h'.size = h.size + 1 ∧ RoadKit.Exa Z h' x ST ∧ RoadKit.Fld Z h' x ST "value" "[B" (.ref h.size) ∧ RoadKit.Fld Z h' x ST "coder" "B" (.int 0) ∧
  (∃ V : Cell, RoadKit.Arr Z h' h.size V .byte ∧ V.vm = .none ∧ Z.vm.findClass "[B" = some V.cls ∧ V.slots.size = A.slots.size ∧ ∀ j, j < A.slots.size → V.slots[j]? = some (.int (lo8 (cv A j)))) ∧
  ∀ (O n d : String) (w : Value), RoadKit.Fld Z h x O n d w → RoadKit.slotOf Z O n d ≠ RoadKit.slotOf Z ST "value" "[B" → RoadKit.slotOf Z O n d ≠ RoadKit.slotOf Z ST "coder" "B" → RoadKit.Fld Z h' x O n d w
/-- **new String(chars) AT A CALL, IN THE ROAD'S FORM**: for specialBack behind newO: x the fresh String, b the char[] with the cell A -/
theorem back {p : Program} {l : Launch} {e : Env} {R : Room} {s : State} {args : Array Value} {below : List Frame} {len W : Nat} {Z : State} {a0 : Array Value} {h : Heap} (hZ : Z.Warmed39 s.vm) (hw : ∀ d ∈ words, d.before a0 Z = true) {kI : Nat} (wi : (Jvm.Cond.instantiable ST kI).before a0 Z = true)
    {x b : Addr} {A : Cell} {z : Int32} {v0 c0 : Value} (E : RoadKit.Exa Z h x ST) (V : RoadKit.Fld Z h x ST "value" "[B" v0) (C : RoadKit.Fld Z h x ST "coder" "B" c0) (K : RoadKit.Arr Z h b A .char) (hty : Typed .char A) (S : RoadKit.Sta Z h ST "COMPACT_STRINGS" "Z" (.int z)) (hz : ¬ z = 0)
    (l0 : 0 < A.slots.size) (l2 : A.slots.size ≤ 536870912) (hp : ∀ i, i < A.slots.size → ¬ 255 < cv A i) (hfr : 4 ≤ R.frames) (hlo : W + 65 ≤ R.locals) :
    Back l R p e below s args New1.yN len W (fun P a => a = #[.ref x, .ref b] ∧ P.U.heap = h ∧ P.cells + 1 ≤ R.cells ∧ P.slots + A.slots.size ≤ R.slots)
      (fun P _ v B => ∃ L, Q Z x A h v B.U.heap L ∧ B.locs = P.locs ++ L ∧ B.cells = P.cells + 1 ∧ B.slots = P.slots + A.slots.size) := by
  intro m meth c P g ig mk a X hg hsize hdg hW hn hp'
  obtain ⟨rfl, rfl, r1, r2⟩ := hp'
  have al : Z.vm.Alike P.U.vm := hZ.alike.trans X.warmed.alike
  obtain ⟨D, cfV, kV, iV, fV, hD, gV, stV, knV, obV, asV, slV⟩ := id V
  obtain ⟨D', cfC, kC, iC, fC, hD', gC, stC, -, -, asC, slC⟩ := id C
  cases hD.symm.trans hD'
  obtain ⟨D2, kD, e1, e2, e3, e4, e5⟩ := id E
  cases hD.symm.trans e1
  obtain ⟨c2, k2, i1, i2, i3, -⟩ := Cond.instantiable_spec wi
  cases e2.symm.trans i1
  cases e3.symm.trans i2
  obtain ⟨kU, u1, u2⟩ := al.2.2 _ _ e3
  have hB : Blank ST x D P.U := ⟨hD, ⟨knV, fun q hq => by rw [hq] at obV; cases obV⟩, by rw [al.findClass]; exact e2, kU, u1, by rw [u2]; exact i3, by rw [u2]; exact e5 i3⟩
  have F1 : Found ST "value" "[B" fV P.U := ⟨SBG.found_only al ⟨cfV, kV, iV, gV⟩, stV⟩
  have F2 : Found ST "coder" "B" fC P.U := ⟨SBG.found_only al ⟨cfC, kC, iC, gC⟩, stC⟩
  have hA : Ch b A P.U := ⟨⟨K.1, State.isArrayOf_alike al K.2.1, K.2.2, by omega⟩, hty⟩
  have hS : StaticIs P.U ST "COMPACT_STRINGS" "Z" (.int z) := by
    obtain ⟨cfS, iS, kS, fS, st, cS, t1, t2, t3, t4, t5, t6, t7⟩ := S
    exact StaticIs.there (s := { Z with heap := P.U.heap }) ⟨cfS, iS, kS, fS, st, cS, t1, t2, t3, t4, t5, (fun q => by rw [q] at t6; cases t6), t7⟩ al rfl
  obtain ⟨v, B, X', ⟨⟨hv, E', V', q1, q2, q3, q4, q5, q6, q7, q8, q9, q10, q11⟩, hl, hc, hs⟩, st⟩ := New1.pays x D fV fC b A z (tab_of (moved hZ hw)) hfr hlo m meth c P g ig mk _ X hg hsize hdg hW hn ⟨r1, r2, rfl, hB, F1, F2, hA, hS, hz, l0, l2, hp⟩
  have al' : Z.vm.Alike B.U.vm := hZ.alike.trans X'.warmed.alike
  have hsz : E'.slots.size = D.slots.size := by
    obtain ⟨-, -, -, kB, w1, w2, w3⟩ := q1
    obtain ⟨kB', y1, y2⟩ := al'.2.2 _ _ e3
    rw [q2.2.1] at w1
    cases w1.symm.trans y1
    rw [w3, e5 i3, y2]
  refine ⟨v, B, X', ⟨_, ⟨hv, ?_, ⟨by omega, fun y cy hy hn' => q10 y cy (by simpa using hn') hy, fun y cy hy => ?_⟩, q11, ⟨E', _, q1.1, by rw [q2.2.1]; exact e2, by rw [q2.2.1]; exact e3, by rw [q2.1]; exact obV, fun _ => by rw [hsz]; exact e5 i3⟩,
    ⟨E', cfV, kV, iV, fV, q1.1, gV, stV, by rw [q2.1]; exact knV, by rw [q2.1]; exact obV, by rw [q2.2.1]; exact asV, q3⟩, ⟨E', cfC, kC, iC, fC, q1.1, gC, stC, by rw [q2.1]; exact knV, by rw [q2.1]; exact obV, by rw [q2.2.1]; exact asC, q4⟩,
    ⟨V', ⟨q5.1, State.isArrayOf_alike al'.symm q5.2.1, q5.2.2.1⟩, q6, by rw [← al'.findClass]; exact q7, q8, fun j hj => by have := q9 j hj; rwa [Nat.zero_add] at this⟩, fun O n d w F n1 n2 => ?_⟩, hl, hc, hs⟩, st⟩
  · intro y hy
    simp only [List.mem_cons, List.not_mem_nil, or_false] at hy
    rcases hy with rfl | rfl <;> rfl
  · by_cases q : y = x
    · subst q
      cases hD.symm.trans hy
      exact ⟨E', q1.1, q2.2.1, q2.1, hsz⟩
    · exact ⟨cy, q10 y cy q hy, rfl, rfl, rfl⟩
  · obtain ⟨D3, cf, k, i, f, g1, g2, g3, g4, g5, g6, g7⟩ := F
    cases hD.symm.trans g1
    simp only [RoadKit.slotOf, g2, gV, gC, Option.map_some, Option.getD_some] at n1 n2
    exact ⟨E', cf, k, i, f, q1.1, g2, g3, by rw [q2.1]; exact g4, by rw [q2.1]; exact g5, by rw [q2.2.1]; exact g6, by rw [q2.2.2 f.slot (by simp [n1, n2])]; exact g7⟩
end StrChars.Road
namespace StrChars.Road
open Jvm Sem ClassFile Op Lib Jvm.Stand Jvm.Free Jvm.Free.XT
/-- WHAT COMES BACK, the byte[] as a list of values -/
def QA (Z : State) (x : Addr) (zn : Int32) (cs : List Int32) (h : Heap) (v : Option Value) (h' : Heap) (L : List Loc) : Prop := v = none ∧ (∀ y ∈ L, y.base = x) ∧ RoadKit.Keep h h' [x] ∧ h'.size = h.size + 1 ∧ RoadKit.Exa Z h' x ST ∧ RoadKit.Fld Z h' x ST "value" "[B" (.ref h.size) ∧ RoadKit.Fld Z h' x ST "coder" "B" (.int 0) ∧
  (∃ kb, Z.vm.findClass "[B" = some kb ∧ RoadKit.Arv Z h' h.size kb .byte zn (cs.map fun c => .int (lo8 c)) (.int 0)) ∧
  ∀ (O n d : String) (w : Value), RoadKit.Fld Z h x O n d w → RoadKit.slotOf Z O n d ≠ RoadKit.slotOf Z ST "value" "[B" → RoadKit.slotOf Z O n d ≠ RoadKit.slotOf Z ST "coder" "B" → RoadKit.Fld Z h' x O n d w
/-- **new String(chars) AT A CALL, THE ARRAYS AS LISTS**: the char[] at b holds cs, not empty, no char above 255 -/
theorem backArv {p : Program} {l : Launch} {e : Env} {R : Room} {s : State} {args : Array Value} {below : List Frame} {len W : Nat} {Z : State} {a0 : Array Value} {h : Heap} (hZ : Z.Warmed39 s.vm) (hw : ∀ d ∈ words, d.before a0 Z = true) {kI : Nat} (wi : (Jvm.Cond.instantiable ST kI).before a0 Z = true)
    {x b : Addr} {k : ClassId} {zn z : Int32} {cs : List Int32} {dv v0 c0 : Value} (E : RoadKit.Exa Z h x ST) (V : RoadKit.Fld Z h x ST "value" "[B" v0) (C : RoadKit.Fld Z h x ST "coder" "B" c0) (K : RoadKit.Arv Z h b k .char zn (cs.map Value.int) dv) (S : RoadKit.Sta Z h ST "COMPACT_STRINGS" "Z" (.int z)) (hz : ¬ z = 0)
    (hlen : zn.toNatClampNeg = cs.length) (h0 : 0 < cs.length) (hbig : cs.length ≤ 536870912) (hall : ∀ c ∈ cs, ¬ 255 < c) (hfr : 4 ≤ R.frames) (hlo : W + 65 ≤ R.locals) :
    Back l R p e below s args New1.yN len W (fun P a => a = #[.ref x, .ref b] ∧ P.U.heap = h ∧ P.cells + 1 ≤ R.cells ∧ P.slots + cs.length ≤ R.slots)
      (fun P _ v B => ∃ L, QA Z x zn cs h v B.U.heap L ∧ B.locs = P.locs ++ L ∧ B.cells = P.cells + 1 ∧ B.slots = P.slots + cs.length) := by
  obtain ⟨A, K1, K2, K3, K4, K5, K6⟩ := K
  have e : A.slots.size = cs.length := K3.trans hlen
  have hat : ∀ (i : Nat) (hi : i < cs.length), A.slots[i]? = some (.int cs[i]) := fun i hi => by rw [K5 i (by omega)]; simp [List.getD_eq_getElem?_getD, hi]
  have hcv : ∀ (i : Nat) (hi : i < cs.length), cv A i = cs[i] := fun i hi => by unfold cv; rw [hat i hi]
  have hty : Typed .char A := fun i v hv => by
    have hi : i < A.slots.size := (Array.getElem?_eq_some_iff.mp hv).1
    have q := K5 i hi
    rw [hv] at q
    rw [Option.some.inj q]
    exact K6 i hi
  refine Back.mono (back hZ hw wi E V C K1 hty S hz (by omega) (by omega) (fun i hi => by rw [hcv i (by omega)]; exact hall _ (List.getElem_mem _)) hfr hlo) (fun P a hp => ⟨hp.1, hp.2.1, hp.2.2.1, by rw [e]; exact hp.2.2.2⟩) (fun P a v B hp hq => ?_)
  obtain ⟨L, ⟨q1, q2, q3, q4, q5, q6, q7, ⟨V', v1, v2, v3, v4, v5⟩, q9⟩, hl, hc, hs⟩ := hq
  refine ⟨L, ⟨q1, q2, q3, q4, q5, q6, q7, ⟨V'.cls, v3, V', v1, rfl, by rw [v4, e, hlen], K4, fun i hi => ?_, fun i hi => ?_⟩, q9⟩, hl, hc, by rw [hs, e]⟩
  · have hi' : i < cs.length := by omega
    rw [v5 i (by omega), hcv i hi']; simp [List.getD_eq_getElem?_getD, hi']
  · have hi' : i < cs.length := by omega
    simp only [List.getD_eq_getElem?_getD, List.getElem?_map, List.getElem?_eq_getElem hi', Option.map_some, Option.getD_some]
    exact fits_lo8 _
end StrChars.Road
namespace StrChars.Road
open Jvm Sem ClassFile Op Lib Jvm.Stand Jvm.Free Jvm.Free.XT
/-- WHAT COMES BACK, in the writer's own shape -/
def QV (Z : State) (x : Addr) (N : Int32) (bs : List Int32) (h : Heap) (n0 : Nat) (v : Option Value) (h' : Heap) (L : List Loc) : Prop := v = none ∧ RoadKit.Fr n0 L ∧ RoadKit.Keep h h' [x] ∧ RoadKit.Exa Z h' x ST ∧ RoadKit.Fld Z h' x ST "coder" "B" (.int 0) ∧
  ∃ (t : Addr) (kb : ClassId), n0 ≤ t ∧ h.size ≤ t ∧ ¬ t = x ∧ RoadKit.Fld Z h' x ST "value" "[B" (.ref t) ∧ RoadKit.Arv Z h' t kb .byte N (bs.map Value.int) (.int 0)
/-- **new String(chars) AT A CALL, FOR THE WRITER**: a char[] of n known ints, each 0 to 255 -/
theorem backV {p : Program} {l : Launch} {e : Env} {R : Room} {s : State} {args : Array Value} {below : List Frame} {len W : Nat} {Z : State} {a0 : Array Value} {h : Heap} (hZ : Z.Warmed39 s.vm) (hw : ∀ d ∈ words, d.before a0 Z = true) {kI : Nat} (wi : (Jvm.Cond.instantiable ST kI).before a0 Z = true)
    {x b : Addr} {kC : ClassId} {cs bs : List Int32} {d v0 c0 : Value} {z N : Int32} {n n0 : Nat} (hx0 : n0 ≤ x) (hh0 : n0 ≤ h.size) (E : RoadKit.Exa Z h x ST) (V : RoadKit.Fld Z h x ST "value" "[B" v0) (C : RoadKit.Fld Z h x ST "coder" "B" c0) (K : RoadKit.Arv Z h b kC .char N (cs.map Value.int) d) (S : RoadKit.Sta Z h ST "COMPACT_STRINGS" "Z" (.int z)) (hz : ¬ z = 0)
    (hn : cs.length = n) (hN : N = Int32.ofNat n) (l0 : 0 < n) (l2 : n ≤ 4000) (hp : ∀ c ∈ cs, ¬ c < 0 ∧ ¬ (255 : Int32) < c) (hb : bs = cs.map (fun c => c.toInt8.toInt32)) (hfr : 4 ≤ R.frames) (hlo : W + 65 ≤ R.locals) :
    Back l R p e below s args (⟨"java/lang/String", "<init>", "([C)V"⟩ : MethodName) len W (fun P a => a = #[.ref x, .ref b] ∧ P.U.heap = h ∧ P.cells + 1 ≤ R.cells ∧ P.slots + n ≤ R.slots)
      (fun P _ v B => ∃ L, QV Z x N bs h n0 v B.U.heap L ∧ B.locs = P.locs ++ L ∧ B.cells = P.cells + 1 ∧ B.slots = P.slots + n) := by
  subst hn hN hb
  refine Back.mono (backArv hZ hw wi E V C K S hz (n32 (by omega)) l0 (by omega) (fun c hc => (hp c hc).2) hfr hlo) (fun P a hp => hp) (fun P a v B hp hq => ?_)
  obtain ⟨L, ⟨q1, q2, q3, q4, q5, q6, q7, ⟨kb, v1, v2⟩, q9⟩, hl, hc, hs⟩ := hq
  exact ⟨L, ⟨q1, fun y hy => by rw [q2 y hy]; exact hx0, q3, q5, q7, h.size, kb, hh0, Nat.le_refl _, Nat.ne_of_gt E.lt, q6, by rw [List.map_map]; exact v2⟩, hl, hc, hs⟩
end StrChars.Road
namespace StrChars
open Jvm Sem ClassFile Op Lib Jvm.Stand Jvm.Free.XT Jvm.Free.ALB Jvm.Free.JM Jvm.Free
open Jvm.Lib.Cold (StaticIs)
def hi8 (x : Int32) : Int32 := lo8 (x >>> ((8 : Int32) &&& 31))
/-- what StringUTF16.getChar makes of two bytes -/
def pairCh (u v : Int32) : Int32 := (((u &&& 255) <<< ((0 : Int32) &&& 31)) ||| ((v &&& 255) <<< ((8 : Int32) &&& 31))).toUInt32.toUInt16.toUInt32.toInt32
theorem shr0 (c : Int32) : c >>> ((0 : Int32) &&& 31) = c := by
  have e : ((0 : Int32) &&& 31) = 0 := by decide
  rw [e]
  apply Int32.toBitVec_inj.mp
  rw [Int32.toBitVec_shiftRight]
  have e1 : ((0 : Int32).toBitVec.smod 32) = 0#32 := by decide
  rw [e1, BitVec.sshiftRight_eq']
  exact BitVec.sshiftRight_zero
theorem lo8_and (x : Int32) : (lo8 x &&& 255).toBitVec.toNat = x.toBitVec.toNat % 256 := by
  have h : (lo8 x).toBitVec = (x.toBitVec.signExtend 8).signExtend 32 := by rw [lo8, Int8.toBitVec_toInt32, Int32.toBitVec_toInt8]
  rw [Int32.toBitVec_and, BitVec.toNat_and, h]
  have e : ((x.toBitVec.signExtend 8).signExtend 32).toNat % 256 = x.toBitVec.toNat % 256 := by
    rw [BitVec.toNat_signExtend]
    have hlt := x.toBitVec.isLt
    simp only [BitVec.toNat_setWidth, BitVec.toNat_signExtend]
    split <;> split <;> omega
  rw [← e]
  exact Nat.and_two_pow_sub_one_eq_mod _ 8
theorem pair_says {c : Int32} (h0 : ¬ c < 0) (h1 : ¬ 65535 < c) : pairCh (lo8 c) (hi8 c) = c := by
  rw [Int32.lt_iff_toInt_lt] at h0 h1
  have e0 : (0 : Int32).toInt = 0 := rfl
  have e1 : (65535 : Int32).toInt = 65535 := rfl
  have hc : c.toInt = c.toBitVec.toNat := by
    have := c.toBitVec.isLt
    have e : c.toInt = c.toBitVec.toInt := rfl
    rw [e] at h0 h1
    rw [e]
    rw [BitVec.toInt_eq_toNat_cond] at h0 h1 ⊢
    split at h0 <;> split <;> omega
  have hn : c.toBitVec.toNat < 65536 := by omega
  have a1 := lo8_and c
  have a2 : (hi8 c &&& 255).toBitVec.toNat = c.toBitVec.toNat / 256 := by
    rw [hi8, lo8_and]
    have e : ((8 : Int32) &&& 31) = 8 := by decide
    rw [e, Int32.toBitVec_shiftRight]
    have e2 : ((8 : Int32).toBitVec.smod 32) = 8#32 := by decide
    rw [e2, BitVec.sshiftRight_eq', BitVec.toNat_sshiftRight_of_msb_false (by rw [BitVec.msb_eq_false_iff_two_mul_lt]; omega)]
    show c.toBitVec.toNat >>> 8 % 256 = _
    rw [Nat.shiftRight_eq_div_pow]
    omega
  unfold pairCh
  apply Int32.toBitVec_inj.mp
  apply BitVec.eq_of_toNat_eq
  have f0 : ((0 : Int32) &&& 31) = 0 := by decide
  have f8 : ((8 : Int32) &&& 31) = 8 := by decide
  rw [f0, f8]
  have g : (((lo8 c &&& 255) <<< (0 : Int32)) ||| ((hi8 c &&& 255) <<< (8 : Int32))).toBitVec.toNat = c.toBitVec.toNat := by
    rw [Int32.toBitVec_or, Int32.toBitVec_shiftLeft, Int32.toBitVec_shiftLeft]
    have s0 : ((0 : Int32).toBitVec.smod 32) = 0#32 := by decide
    have s8 : ((8 : Int32).toBitVec.smod 32) = 8#32 := by decide
    rw [s0, s8, BitVec.toNat_or]
    simp only [BitVec.shiftLeft_eq', BitVec.toNat_shiftLeft, a1, a2]
    show (c.toBitVec.toNat % 256) <<< 0 % 2 ^ 32 ||| (c.toBitVec.toNat / 256) <<< 8 % 2 ^ 32 = _
    rw [Nat.shiftLeft_zero, Nat.mod_eq_of_lt (show c.toBitVec.toNat % 256 < 2 ^ 32 by omega), Nat.mod_eq_of_lt (show (c.toBitVec.toNat / 256) <<< 8 < 2 ^ 32 by rw [Nat.shiftLeft_eq]; omega), Nat.or_comm, ← Nat.shiftLeft_add_eq_or_of_lt (by omega), Nat.shiftLeft_eq]
    omega
  show BitVec.toNat (((((lo8 c &&& 255) <<< (0 : Int32)) ||| ((hi8 c &&& 255) <<< (8 : Int32))).toBitVec.setWidth 16).setWidth 32) = _
  rw [BitVec.toNat_setWidth, BitVec.toNat_setWidth, g]
  omega
end StrChars
namespace StrChars
open Jvm Sem ClassFile Op Lib Jvm.Stand Jvm.Free.XT Jvm.Free.ALB Jvm.Free.JM Jvm.Free
open Jvm.Lib.Cold (StaticIs)
theorem shr1 {n : Nat} (h : 2 * n < 2 ^ 31) : Int32.ofNat (2 * n) >>> ((1 : Int32) &&& 31) = Int32.ofNat n := by
  have e : ((1 : Int32) &&& 31) = 1 := by decide
  rw [e]
  apply Int32.toBitVec_inj.mp
  rw [Int32.toBitVec_shiftRight]
  have e1 : ((1 : Int32).toBitVec.smod 32) = 1#32 := by decide
  have hm : (BitVec.ofNat 32 (2 * n)).toNat = 2 * n := by rw [BitVec.toNat_ofNat, Nat.mod_eq_of_lt (by omega)]
  rw [e1, BitVec.sshiftRight_eq']
  apply BitVec.eq_of_toNat_eq
  show ((BitVec.ofNat 32 (2 * n)).sshiftRight 1).toNat = (BitVec.ofNat 32 n).toNat
  rw [BitVec.toNat_sshiftRight_of_msb_false (by rw [BitVec.msb_eq_false_iff_two_mul_lt, hm]; omega), hm, BitVec.toNat_ofNat, Nat.shiftRight_eq_div_pow]
  omega
theorem narrow_ch {c : Int32} (h0 : ¬ c < 0) (h1 : ¬ 65535 < c) : narrow .char (.int c) = .int c := by
  have q : narrow .char (.int (pairCh (lo8 c) (hi8 c))) = .int (pairCh (lo8 c) (hi8 c)) := narrow_c _
  rwa [pair_says h0 h1] at q
/-- the array's cell V codes the n chars f 0 .. f (n - 1) by the coder cd, as the JDK does: coder 1 just where some char is above 255 -/
def Cod (cd : Int32) (n : Nat) (f : Nat → Int32) (V : Cell) : Prop := (cd = 0 ∧ V.slots.size = n ∧ ∀ j, j < n → V.slots[j]? = some (.int (lo8 (f j))) ∧ ¬ 255 < f j) ∨ (cd = 1 ∧ V.slots.size = 2 * n ∧ (∀ j, j < n → V.slots[2 * j]? = some (.int (lo8 (f j))) ∧ V.slots[2 * j + 1]? = some (.int (hi8 (f j)))) ∧ ∃ j, j < n ∧ 255 < f j)
theorem Cod.cd {cd : Int32} {n : Nat} {f : Nat → Int32} {V : Cell} (h : Cod cd n f V) : cd = 0 ∨ cd = 1 := h.imp (fun q => q.1) fun q => q.1
theorem Cod.len {cd : Int32} {n : Nat} {f : Nat → Int32} {V : Cell} (h : Cod cd n f V) (hs : V.slots.size < 2 ^ 31) : Int32.ofNat V.slots.size >>> (cd &&& 31) = Int32.ofNat n := by
  rcases h with ⟨rfl, h, -⟩ | ⟨rfl, h, -⟩
  · rw [shr0, h]
  · rw [h, shr1 (by omega)]
/-- **x is a String of the n chars f 0 .. f (n - 1)**, Latin-1 or UTF-16; its array at t has the cell V -/
def Txt (x t : Addr) (V : Cell) (cd : Int32) (n : Nat) (f : Nat → Int32) (U : State) : Prop := Exact "java/lang/String" x U ∧ Has x "java/lang/String" "value" "[B" (.ref t) U ∧ Has x "java/lang/String" "coder" "B" (.int cd) U ∧ XT.Arr .byte t V U ∧ Cod cd n f V ∧ ∀ j, j < n → ¬ f j < 0 ∧ ¬ 65535 < f j
theorem Txt.mv {x t : Addr} {V : Cell} {cd : Int32} {n : Nat} {f : Nat → Int32} {U U' : State} (h : Txt x t V cd n f U) (hal : U.vm.Alike U'.vm) (hh : U'.heap = U.heap) : Txt x t V cd n f U' := ⟨h.1.mv hal hh, h.2.1.mv hal hh, h.2.2.1.mv hal hh, h.2.2.2.1.mv hal hh, h.2.2.2.2⟩
namespace Cdr
def yN : MethodName := ⟨"java/lang/String", "coder", "()B"⟩
abbrev yB : ByteArray := jdk_42_method_152_code
theorem d0 : decode yB 0 = .ok (.getstatic 38, 3) := by decide +kernel
theorem d3 : decode yB 3 = .ok (.ifCond (.eq) 10, 3) := by decide +kernel
theorem d6 : decode yB 6 = .ok (.aload_n 0, 1) := by decide +kernel
theorem d7 : decode yB 7 = .ok (.getfield 15, 3) := by decide +kernel
theorem d10 : decode yB 10 = .ok (.goto 4, 3) := by decide +kernel
theorem d14 : decode yB 14 = .ok (.ireturn, 1) := by decide +kernel
def site : List Cond := [.fieldLink "java/lang/String" 38 "java/lang/String" "COMPACT_STRINGS" "Z", .fieldLink "java/lang/String" 15 "java/lang/String" "coder" "B"]
def tab : Cond := tabOf yN yB 1 (some .byte) site
def P (x : Addr) (cd z : Int32) (args : Array Value) (s : State) : Prop := args = #[.ref x] ∧ Has x "java/lang/String" "coder" "B" (.int cd) s ∧ (cd = 0 ∨ cd = 1) ∧ StaticIs s "java/lang/String" "COMPACT_STRINGS" "Z" (.int z) ∧ ¬ z = 0
def E (cd : Int32) (r : Option Value) (s u : State) : Prop := XT.PureE (some (.int cd)) r s u
theorem law (l : Launch) (x : Addr) (cd z : Int32) : Law l yN 1 0 0 0 yB 1 (some .byte) site (P x cd z) (E cd) [] 0 0 := by
  refine Law.of_walk (plainFor_of_name (by decide +kernel)) (by decide +kernel) (by decide +kernel) (by decide) (fun _ _ h => by rw [h.1]; rfl) (fun _ U U' hal hh h => ⟨h.1, h.2.1.mv hal hh, h.2.2.1, h.2.2.2.1.there hal hh, h.2.2.2.2⟩) (fun r U U' V V' h1 hal h2 h => XT.PureE.mv r U U' V V' h1 hal h2 h) ?_
  intro p e s m args below meth c s₁ X0 hexec hbytes hml hret hlk hnm hown hh0 W hP
  obtain ⟨rfl, hx, hc, s1, hz⟩ := hP
  have c1 : Steps p.tables e below (s₁.setTop (entryFrame m #[.ref x] 1)) (s₁.setTop (mkF m 0 #[.val (.ref x)] [])) := entry rfl
  obtain ⟨T2, X2, q2, st2⟩ := X0.sget hexec hown (wk W (.fieldLink "java/lang/String" 38 "java/lang/String" "COMPACT_STRINGS" "Z")) s1 (fun _ _ h => by rw [hh0]; exact h) (g := (mkF m 0 #[.val (.ref x)] [])) rfl (hb hbytes d0)
  have hh2 := q2.trans hh0
  have c3 : Steps p.tables e below (s₁.setTop (entryFrame m #[.ref x] 1)) (T2.setTop (mkF m 7 #[.val (.ref x)] [.ref x])) := (c1.trans (st2 _ (Steps.refl _))).trans (by
    refine XS.ifNo X2.here hexec rfl (hb hbytes d3) rfl (i0_eq_f hz) ?_
    refine XS.aloadN X2.here hexec rfl (hb hbytes d6) rfl rfl ?_
    exact Steps.refl _)
  obtain ⟨T4, X4, q4, st4⟩ := X2.hget hexec hown (wk W (.fieldLink "java/lang/String" 15 "java/lang/String" "coder" "B")) (hx.mv X2.warmed.alike hh2) (g := (mkF m 7 #[.val (.ref x)] [.ref x])) rfl (rest := []) rfl (hb hbytes d7)
  have c5 : Steps p.tables e below (s₁.setTop (entryFrame m #[.ref x] 1)) (T4.setTop (mkF m 14 #[.val (.ref x)] [.int cd])) := (c3.trans (st4 _ (Steps.refl _))).trans (by
    refine XS.goto X4.here hexec rfl (pc0 := 10) rfl (hb hbytes d10) (by decide) rfl ?_
    exact Steps.refl _)
  exact ⟨T4, some (.int cd), _, _, _, X4, rfl, rfl, rfl, (fun h => by cases h), ⟨rfl, q4.trans hh2⟩, fun fs hl => c5.trans (X4.ireturnOut hexec hret (by rcases hc with rfl | rfl <;> rfl) (Or.inr (Or.inr (Or.inl rfl))) (hb hbytes d14) hl)⟩
end Cdr
namespace Len
def yN : MethodName := ⟨"java/lang/String", "length", "()I"⟩
abbrev yB : ByteArray := jdk_42_method_54_code
theorem d0 : decode yB 0 = .ok (.aload_n 0, 1) := by decide +kernel
theorem d1 : decode yB 1 = .ok (.getfield 9, 3) := by decide +kernel
theorem d4 : decode yB 4 = .ok (.arraylength, 1) := by decide +kernel
theorem d5 : decode yB 5 = .ok (.aload_n 0, 1) := by decide +kernel
theorem d6 : decode yB 6 = .ok (.invokevirtual 335, 3) := by decide +kernel
theorem d9 : decode yB 9 = .ok (.ishr, 1) := by decide +kernel
theorem d10 : decode yB 10 = .ok (.ireturn, 1) := by decide +kernel
def site : List Cond := [.fieldLink "java/lang/String" 9 "java/lang/String" "value" "[B", Cdr.tab] ++ virtW "java/lang/String" 335 "java/lang/String" Cdr.yN Cdr.yN
def tab : Cond := tabOf yN yB 1 (some .int) site
def P (x t : Addr) (V : Cell) (cd : Int32) (n : Nat) (f : Nat → Int32) (z : Int32) (args : Array Value) (s : State) : Prop := args = #[.ref x] ∧ Txt x t V cd n f s ∧ StaticIs s "java/lang/String" "COMPACT_STRINGS" "Z" (.int z) ∧ ¬ z = 0
def E (n : Nat) (r : Option Value) (s u : State) : Prop := XT.PureE (some (.int (Int32.ofNat n))) r s u
/-- length() of a String of n chars, in either coding -/
theorem law (l : Launch) (x t : Addr) (V : Cell) (cd : Int32) (n : Nat) (f : Nat → Int32) (z : Int32) : Law l yN 1 0 1 13 yB 1 (some .int) site (P x t V cd n f z) (E n) [] 0 0 := by
  refine Law.of_walk (plainFor_of_name (by decide +kernel)) (by decide +kernel) (by decide +kernel) (by decide) (fun _ _ h => by rw [h.1]; rfl) (fun _ U U' hal hh h => ⟨h.1, h.2.1.mv hal hh, h.2.2.1.there hal hh, h.2.2.2⟩) (fun r U U' V V' h1 hal h2 h => XT.PureE.mv r U U' V V' h1 hal h2 h) ?_
  intro p e s m args below meth c s₁ X0 hexec hbytes hml hret hlk hnm hown hh0 W hP
  obtain ⟨rfl, hx, s1, hz⟩ := hP
  have v31 := hx.2.2.2.1.2.2.2
  have c1 : Steps p.tables e below (s₁.setTop (entryFrame m #[.ref x] 1)) (s₁.setTop (mkF m 1 #[.val (.ref x)] [.ref x])) := Steps.trans (entry rfl) (by
    show Steps p.tables e below (s₁.setTop (mkF m 0 #[.val (.ref x)] [])) _
    refine XS.aloadN X0.here hexec rfl (hb hbytes d0) rfl rfl ?_
    exact Steps.refl _)
  obtain ⟨T2, X2, q2, st2⟩ := X0.hget hexec hown (wk W (.fieldLink "java/lang/String" 9 "java/lang/String" "value" "[B")) (hx.mv X0.warmed.alike hh0).2.1 (g := (mkF m 1 #[.val (.ref x)] [.ref x])) rfl (rest := []) rfl (hb hbytes d1)
  have hh2 := q2.trans hh0
  have hx2 := hx.mv X2.warmed.alike hh2
  have c3 : Steps p.tables e below (s₁.setTop (entryFrame m #[.ref x] 1)) (T2.setTop (mkF m 6 #[.val (.ref x)] [.ref x, .int (Int32.ofNat V.slots.size)])) := (c1.trans (st2 _ (Steps.refl _))).trans (by
    refine X2.alen hexec hx2.2.2.2.1 rfl rfl (hb hbytes d4) ?_
    refine XS.aloadN X2.here hexec rfl (hb hbytes d5) rfl rfl ?_
    exact Steps.refl _)
  obtain ⟨v4, T4, X4, E4, g4⟩ := X2.callV hexec (Cdr.law l x cd z) hown (wks W (virtW "java/lang/String" 335 "java/lang/String" Cdr.yN Cdr.yN)) rfl (by decide) (wk W Cdr.tab) (W := 1) (Nat.le_of_ble_eq_true rfl) (Nat.le_of_ble_eq_true rfl) (Nat.le_refl _) (Nat.le_refl _) (hx2.1.fc X2.warmed.alike) hx2.1.is (g := (mkF m 6 #[.val (.ref x)] [.ref x, .int (Int32.ofNat V.slots.size)])) rfl (by rw [hml]; rfl) c3 (argsL := []) (rest := [.int (Int32.ofNat V.slots.size)]) rfl rfl (by show 2 * 0 + (1 + 0) ≤ _; decide) (hb hbytes d6) (⟨rfl, hx2.2.2.1, hx.2.2.2.2.1.cd, s1.there X2.warmed.alike hh2, hz⟩)
  obtain ⟨rfl, q4⟩ := E4
  have c5 : Steps p.tables e below (s₁.setTop (entryFrame m #[.ref x] 1)) (T4.setTop (mkF m 10 #[.val (.ref x)] [.int (Int32.ofNat V.slots.size >>> (cd &&& 31))])) := Steps.trans g4 (by
    refine ishr X4.here hexec rfl (hb hbytes d9) rfl ?_
    exact Steps.refl _)
  rw [hx.2.2.2.2.1.len v31] at c5
  exact ⟨T4, some (.int (Int32.ofNat n)), _, _, _, X4, rfl, rfl, rfl, (fun h => by cases h), ⟨rfl, q4.trans hh2⟩, fun fs hl => c5.trans (X4.ireturnOut hexec hret rfl (Or.inl rfl) (hb hbytes d10) hl)⟩
theorem pays {l : Launch} {R : Room} {p : Program} {e : Env} {below : List Frame} {s : State} {sargs : Array Value} {len W : Nat} (x t : Addr) (V : Cell) (cd : Int32) (n : Nat) (f : Nat → Int32) (z : Int32) (htab : tab.before sargs s = true) (hfr : 2 ≤ R.frames) (hlo : W + 25 ≤ R.locals) :
    Back l R p e below s sargs yN len W (fun A₁ a₁ => A₁.cells + 0 ≤ R.cells ∧ A₁.slots + 0 ≤ R.slots ∧ P x t V cd n f z a₁ A₁.U) (fun A₁ _ v₁ B₁ => E n v₁ A₁.U B₁.U ∧ B₁.locs = A₁.locs ++ [] ∧ B₁.cells = A₁.cells + 0 ∧ B₁.slots = A₁.slots + 0) :=
  (law l x t V cd n f z).pays htab hfr (by omega)
end Len
end StrChars
namespace StrChars.Road
open Jvm Sem ClassFile Op Lib Jvm.Stand Jvm.Free Jvm.Free.XT
open Jvm.Lib.Cold (StaticIs)
theorem consq {a : Array Value} {s : State} {c : Jvm.Cond} {L : List Jvm.Cond} (h0 : c.before a s = true) (h : ∀ w ∈ L, w.before a s = true) : ∀ w ∈ c :: L, w.before a s = true := fun w hw => (List.mem_cons.mp hw).elim (fun e => e ▸ h0) (h w)
/-- the words of String.length(), either coding -/
abbrev wordsLen : List Jvm.Cond := [.code Len.yN Len.yB 1 (some .int), .initialized ST, .fieldLink ST 9 ST "value" "[B", .fieldLink ST 38 ST "COMPACT_STRINGS" "Z", .fieldLink ST 15 ST "coder" "B", .code Cdr.yN Cdr.yB 1 (some .byte), .methodLink ST 335 Cdr.yN, .declares Cdr.yN, .selects ST Cdr.yN Cdr.yN, .instanceMethod Cdr.yN]
theorem tabLen_of {a : Array Value} {s : State} (h : ∀ w ∈ wordsLen, w.before a s = true) : Len.tab.before a s = true := by
  have hc : Cdr.tab.before a s = true := unparts (wk h (.code Cdr.yN Cdr.yB 1 (some .byte))) (wks h (.initialized Cdr.yN.cls :: Cdr.site))
  have q := consq hc h
  exact unparts (wk q (.code Len.yN Len.yB 1 (some .int))) (wks q (.initialized Len.yN.cls :: Len.site))
theorem movedLen {Z s : State} {a0 args : Array Value} (hZ : Z.Warmed39 s.vm) (hw : ∀ d ∈ wordsLen, d.before a0 Z = true) : ∀ d ∈ wordsLen, d.before args s = true := fun d hd => by
  have q := hw d hd
  have t : ∀ d ∈ wordsLen, d = .arrayClass .byte ∨ (d.onTables && d.keepsFace) = true := by decide +kernel
  rcases t d hd with rfl | t
  · exact RoadKit.mvA hZ q
  · exact RoadKit.mv hZ q t
/-- the bytes of the chars cs, low before high -/
def wideBytes : List Int32 → List Value
  | [] => []
  | c :: cs => .int (lo8 c) :: .int (hi8 c) :: wideBytes cs
theorem wide_lo (d : Value) : ∀ (cs : List Int32) (j : Nat), j < cs.length → (wideBytes cs).getD (2 * j) d = .int (lo8 (cs.getD j 0))
  | [], j, h => absurd h (Nat.not_lt_zero j)
  | c :: cs, 0, _ => rfl
  | c :: cs, j + 1, h => by
    have q := wide_lo d cs j (by simpa using h)
    rw [show 2 * (j + 1) = 2 * j + 1 + 1 from by omega]
    simpa [wideBytes] using q
theorem wide_hi (d : Value) : ∀ (cs : List Int32) (j : Nat), j < cs.length → (wideBytes cs).getD (2 * j + 1) d = .int (hi8 (cs.getD j 0))
  | [], j, h => absurd h (Nat.not_lt_zero j)
  | c :: cs, 0, _ => rfl
  | c :: cs, j + 1, h => by
    have q := wide_hi d cs j (by simpa using h)
    rw [show 2 * (j + 1) + 1 = 2 * j + 1 + 1 + 1 from by omega]
    simpa [wideBytes] using q
theorem low_at (d : Value) (cs : List Int32) (j : Nat) (h : j < cs.length) : (cs.map fun c => Value.int (lo8 c)).getD j d = .int (lo8 (cs.getD j 0)) := by
  simp [List.getD_eq_getElem?_getD, h]
/-- an array of N2 bytes vs codes the chars cs by the coder cd -/
def CodA (cs : List Int32) (cd N2 : Int32) (vs : List Value) : Prop := (cd = 0 ∧ N2 = Int32.ofNat cs.length ∧ vs = (cs.map fun c => Value.int (lo8 c)) ∧ ∀ c ∈ cs, ¬ 255 < c) ∨ (cd = 1 ∧ N2 = Int32.ofNat (2 * cs.length) ∧ vs = wideBytes cs ∧ ∃ c ∈ cs, 255 < c)
theorem CodA.cod {cs : List Int32} {cd N2 : Int32} {vs : List Value} {V : Cell} (h : CodA cs cd N2 vs) (hn : 2 * cs.length < 2 ^ 31) (hs : V.slots.size = N2.toNatClampNeg) (hv : RoadKit.Has V vs (.int 0)) : Cod cd cs.length (fun j => cs.getD j 0) V := by
  rcases h with ⟨rfl, rfl, rfl, h⟩ | ⟨rfl, rfl, rfl, c, hc, hw⟩
  · rw [n32 (by omega)] at hs
    exact Or.inl ⟨rfl, hs, fun j hj => ⟨by rw [hv j (by omega), low_at _ _ _ hj], by
      have e : cs.getD j 0 = cs[j] := by simp [List.getD_eq_getElem?_getD, hj]
      show ¬ 255 < cs.getD j 0
      rw [e]; exact h _ (List.getElem_mem _)⟩⟩
  · rw [n32 (by omega)] at hs
    obtain ⟨j, hj, rfl⟩ := List.getElem_of_mem hc
    exact Or.inr ⟨rfl, hs, fun j hj => ⟨by rw [hv _ (by omega), wide_lo _ _ _ hj], by rw [hv _ (by omega), wide_hi _ _ _ hj]⟩, j, hj, by
      have e : cs.getD j 0 = cs[j] := by simp [List.getD_eq_getElem?_getD, hj]
      show 255 < cs.getD j 0
      rw [e]; exact hw⟩
/-- an object of exactly java/lang/String, its two fields found: as the laws ask it -/
theorem strObj {Z U : State} {a0 : Array Value} {kI : Nat} (wi : (Jvm.Cond.instantiable ST kI).before a0 Z = true) (al : Z.vm.Alike U.vm) {x : Addr} {v0 c0 : Value} (E : RoadKit.Exa Z U.heap x ST) (V : RoadKit.Fld Z U.heap x ST "value" "[B" v0) (C : RoadKit.Fld Z U.heap x ST "coder" "B" c0) :
    ∃ (D : Cell) (fV fC : Field), Blank ST x D U ∧ Found ST "value" "[B" fV U ∧ Found ST "coder" "B" fC U ∧ D.slots[fV.slot]? = some v0 ∧ D.slots[fC.slot]? = some c0 ∧ RoadKit.slotOf Z ST "value" "[B" = fV.slot ∧ RoadKit.slotOf Z ST "coder" "B" = fC.slot := by
  obtain ⟨D, cfV, kV, iV, fV, hD, gV, stV, knV, obV, asV, slV⟩ := V
  obtain ⟨D', cfC, kC, iC, fC, hD', gC, stC, -, -, asC, slC⟩ := C
  cases hD.symm.trans hD'
  obtain ⟨D2, kD, e1, e2, e3, e4, e5⟩ := E
  cases hD.symm.trans e1
  obtain ⟨c2, k2, i1, i2, i3, -⟩ := Cond.instantiable_spec wi
  cases e2.symm.trans i1
  cases e3.symm.trans i2
  obtain ⟨kU, u1, u2⟩ := al.2.2 _ _ e3
  exact ⟨D, fV, fC, ⟨hD, ⟨knV, fun q hq => by rw [hq] at obV; cases obV⟩, by rw [al.findClass]; exact e2, kU, u1, by rw [u2]; exact i3, by rw [u2]; exact e5 i3⟩, ⟨SBG.found_only al ⟨cfV, kV, iV, gV⟩, stV⟩, ⟨SBG.found_only al ⟨cfC, kC, iC, gC⟩, stC⟩, slV, slC, by simp [RoadKit.slotOf, gV], by simp [RoadKit.slotOf, gC]⟩
theorem sta_is {Z U : State} (al : Z.vm.Alike U.vm) {C n d : String} {v : Value} (S : RoadKit.Sta Z U.heap C n d v) : StaticIs U C n d v := by
  obtain ⟨cfS, iS, kS, fS, st, cS, t1, t2, t3, t4, t5, t6, t7⟩ := S
  exact StaticIs.there (s := { Z with heap := U.heap }) ⟨cfS, iS, kS, fS, st, cS, t1, t2, t3, t4, t5, (fun q => by rw [q] at t6; cases t6), t7⟩ al rfl
/-- **length() OF SUCH A STRING** -/
theorem lenW {p : Program} {l : Launch} {e : Env} {R : Room} {s : State} {args : Array Value} {below : List Frame} {len W : Nat} {Z : State} {a0 : Array Value} {h : Heap} (hZ : Z.Warmed39 s.vm) (hw : ∀ d ∈ wordsLen, d.before a0 Z = true) {kI : Nat} (wi : (Jvm.Cond.instantiable ST kI).before a0 Z = true)
    {x t : Addr} {kb : ClassId} {cs : List Int32} {cd N2 z : Int32} {vs : List Value} (E : RoadKit.Exa Z h x ST) (V : RoadKit.Fld Z h x ST "value" "[B" (.ref t)) (C : RoadKit.Fld Z h x ST "coder" "B" (.int cd)) (K : RoadKit.Arv Z h t kb .byte N2 vs (.int 0)) (hc : CodA cs cd N2 vs) (hb : ∀ c ∈ cs, ¬ c < 0 ∧ ¬ (65535 : Int32) < c)
    (S : RoadKit.Sta Z h ST "COMPACT_STRINGS" "Z" (.int z)) (hz : ¬ z = 0) (l2 : cs.length ≤ 4000) (hfr : 2 ≤ R.frames) (hlo : W + 25 ≤ R.locals) :
    Back l R p e below s args (⟨"java/lang/String", "length", "()I"⟩ : MethodName) len W (fun P a => a = #[.ref x] ∧ P.U.heap = h ∧ P.cells + 0 ≤ R.cells ∧ P.slots + 0 ≤ R.slots)
      (fun P _ v B => ∃ L, (v = some (.int (Int32.ofNat cs.length)) ∧ L = [] ∧ B.U.heap = h) ∧ B.locs = P.locs ++ L ∧ B.cells = P.cells + 0 ∧ B.slots = P.slots + 0) := by
  obtain ⟨A, K1, K2, K3, K4, K5, K6⟩ := K
  have hcod := hc.cod (by omega) K3 K5
  intro m meth c P g ig mk a X hg hsize hdg hW hn hp'
  obtain ⟨rfl, rfl, r1, r2⟩ := hp'
  have al : Z.vm.Alike P.U.vm := hZ.alike.trans X.warmed.alike
  obtain ⟨D, fV, fC, hB, F1, F2, g1, g2, -, -⟩ := strObj wi al E V C
  have hx : Txt x t A cd cs.length (fun j => cs.getD j 0) P.U := ⟨⟨_, hB.2.2.1, D, hB.1, rfl, by cases q : D.vm <;> first | rfl | exact absurd q (hB.2.1.2 _)⟩, Has.of hB F1 g1, Has.of hB F2 g2, ⟨K1.1, State.isArrayOf_alike al K1.2.1, K1.2.2, by rcases hcod with ⟨-, q, -⟩ | ⟨-, q, -⟩ <;> omega⟩, hcod, fun j hj => by
    have e : cs.getD j 0 = cs[j] := by simp [List.getD_eq_getElem?_getD, hj]
    show ¬ cs.getD j 0 < 0 ∧ ¬ 65535 < cs.getD j 0
    rw [e]; exact hb _ (List.getElem_mem _)⟩
  obtain ⟨v, B, X', ⟨⟨hv, hh⟩, hl, hk, hs⟩, st⟩ := Len.pays x t A cd cs.length (fun j => cs.getD j 0) z (tabLen_of (movedLen hZ hw)) hfr hlo m meth c P g ig mk _ X hg hsize hdg hW hn ⟨r1, r2, rfl, hx, sta_is al S, hz⟩
  exact ⟨v, B, X', ⟨[], ⟨hv, rfl, hh⟩, hl, hk, hs⟩, st⟩
end StrChars.Road
namespace StrChars.Road
open Jvm Sem ClassFile Op Lib Jvm.Stand Jvm.Free Jvm.Free.XT
open Jvm.Lib.Cold (StaticIs)
/-- what backV says of its String, as the contracts of this text ask it: cs's low bytes, coder 0 -/
theorem codOf {cs : List Int32} {n : Nat} (hn : cs.length = n) (hb : ∀ c ∈ cs, ¬ 255 < c) : CodA cs 0 (Int32.ofNat n) ((cs.map lo8).map Value.int) := Or.inl ⟨rfl, by rw [hn], by simp [List.map_map, Function.comp_def], hb⟩
end StrChars.Road
end Jvm.Pilot.@@N@@
namespace Jvm.Pilot.@@N@@
namespace StrChars
open Jvm Sem ClassFile Op Lib Jvm.Stand Jvm.Free.XT Jvm.Free.ALB Jvm.Free.JM Jvm.Free
open Jvm.Lib.Cold (StaticIs)
/-- a static whose cell is a class's own -/
def StS (s : State) (C n d : String) (v : Value) : Prop := ∃ (cf i : Nat) (k : Class) (f : Field) (a₁ : Addr) (cell₁ : Cell), s.fieldFound? C n d = some (cf, k, i, f) ∧ f.isStatic = true ∧ k.init = .initialized ∧ k.statics = some a₁ ∧ s.heap[a₁]? = some cell₁ ∧ cell₁.vm.isStatics = true ∧ cell₁.slots[f.slot]? = some v
/-- the cells that hold statics stand -/
def StK (s u : State) : Prop := ∀ (a : Addr) (c : Cell), s.heap[a]? = some c → c.vm.isStatics = true → u.heap[a]? = some c
theorem StK.of_eq {s u : State} (h : u.heap = s.heap) : StK s u := fun _ _ q _ => by rw [h]; exact q
theorem StK.trans {s t u : State} (h : StK s t) (h' : StK t u) : StK s u := fun a c q r => h' a c (h a c q r) r
theorem StK.kept {s u : State} (h : XT.Kept s u) : StK s u := fun a c q _ => h a c q
theorem StK.put {s u : State} {d : Addr} {B B' : Cell} {t : FieldType} (hB : XT.Arr t d B s) (hp : XT.Put d B' s u) : StK s u := fun a c q r => hp.other (fun e => by
  subst e
  have e1 := hB.1.symm.trans q
  rw [Option.some.injEq] at e1
  subst e1
  obtain ⟨ho, -⟩ := hB.2.1
  cases hv : B.vm with
  | statics z => exact ho z hv
  | _ => rw [hv] at r; cases r) q
theorem StS.keep {s u : State} {C n d : String} {v : Value} (h : StS s C n d v) (hal : s.vm.Alike u.vm) (hk : StK s u) : StS u C n d v := by
  obtain ⟨cf, i, k, f, a₁, cell₁, h1, h2, h3, h4, h5, h6, h7⟩ := h
  obtain ⟨k', hk', he⟩ := State.fieldFound?_setVm hal h1
  exact ⟨cf, i, k', f, a₁, cell₁, hk', h2, by rw [he]; exact h3, by rw [he]; exact h4, hk _ _ h5 h6, h6, h7⟩
theorem StS.mv {s u : State} {C n d : String} {v : Value} (h : StS s C n d v) (hal : s.vm.Alike u.vm) (hh : u.heap = s.heap) : StS u C n d v := h.keep hal (StK.of_eq hh)
theorem sgetS {p : Program} {l : Launch} {e : Env} {R : Room} {s : State} {m : MethodId} {args : Array Value} {below : List Frame} {meth : Method} {c : Code} {T : State} {locs : List Loc} {cells slots : Nat} (X : Stand p l e R s m args below meth c T locs cells slots) (hexec : p.tables.exec = Jvm.exec) {own C name desc : String} {index : Nat} (hown : s.vm.findClass own = some m.cls) (hlink : (Cond.fieldLink own index C name desc).before args s = true) {v : Value}
    (hS : StS s C name desc v) (hk : StK s T) {g : JFrame} (hg : g.method = m) (hdg : decode c.code g.pc = .ok (.getstatic index, 3)) :
    ∃ T', Stand p l e R s m args below meth c T' locs cells slots ∧ T'.heap = T.heap ∧ ∀ target, Steps p.tables e below (T'.setTop { g with pc := g.pc + 3, stack := v :: g.stack }) target → Steps p.tables e below (T.setTop g) target := by
  obtain ⟨cf, i, k, f, a₁, cell₁, h1, h2, h3, h4, h5, h6, h7⟩ := hS
  obtain ⟨vm', X', st⟩ := X.getstatic hexec hown hlink h1 h2 h3 h4 (hk _ _ h5 h6) (fun q => by rw [q] at h6; cases h6) h7 hg hdg
  exact ⟨_, X', rfl, st⟩
/-- the three statics of StringUTF16 -/
def U3 (s : State) : Prop := StS s U16 "$assertionsDisabled" "Z" (.int 1) ∧ StS s U16 "HI_BYTE_SHIFT" "I" (.int 0) ∧ StS s U16 "LO_BYTE_SHIFT" "I" (.int 8)
theorem U3.keep {s u : State} (h : U3 s) (hal : s.vm.Alike u.vm) (hk : StK s u) : U3 u := ⟨h.1.keep hal hk, h.2.1.keep hal hk, h.2.2.keep hal hk⟩
theorem U3.mv {s u : State} (h : U3 s) (hal : s.vm.Alike u.vm) (hh : u.heap = s.heap) : U3 u := h.keep hal (StK.of_eq hh)
def stat3 : List Cond := [.fieldLink U16 44 U16 "$assertionsDisabled" "Z", .fieldLink U16 59 U16 "HI_BYTE_SHIFT" "I", .fieldLink U16 63 U16 "LO_BYTE_SHIFT" "I"]
theorem shl1 (n : Nat) : Int32.ofNat n <<< ((1 : Int32) &&& 31) = Int32.ofNat (2 * n) := by
  have e : ((1 : Int32) &&& 31) = 1 := by decide
  rw [e]
  apply Int32.toBitVec_inj.mp
  rw [Int32.toBitVec_shiftLeft]
  have e1 : ((1 : Int32).toBitVec.smod 32) = 1#32 := by decide
  rw [e1, BitVec.shiftLeft_eq']
  apply BitVec.eq_of_toNat_eq
  show ((BitVec.ofNat 32 n) <<< 1).toNat = (BitVec.ofNat 32 (2 * n)).toNat
  rw [BitVec.toNat_shiftLeft, BitVec.toNat_ofNat, BitVec.toNat_ofNat, Nat.shiftLeft_eq]
  omega
theorem Ch.rng {a : Addr} {A : Cell} {U : State} (h : Ch a A U) {i : Nat} (hi : i < A.slots.size) : ¬ cv A i < 0 ∧ ¬ 65535 < cv A i := by
  have f := h.2 i _ (h.get hi)
  simp only [fits, Bool.and_eq_true, decide_eq_true_eq] at f
  exact ⟨Int32.not_lt.mpr f.1, Int32.not_lt.mpr f.2⟩
theorem lo8_shr0 (c : Int32) : (c >>> ((0 : Int32) &&& 31)).toInt8.toInt32 = lo8 c := by rw [shr0]; rfl
namespace NBL
def yN : MethodName := ⟨"java/lang/StringUTF16", "newBytesLength", "(I)I"⟩
abbrev yB : ByteArray := jdk_52_method_3_code
theorem d0 : decode yB 0 = .ok (.iload_n 0, 1) := by decide +kernel
theorem d1 : decode yB 1 = .ok (.ifCond .ge 11, 3) := by decide +kernel
theorem d12 : decode yB 12 = .ok (.iload_n 0, 1) := by decide +kernel
theorem d13 : decode yB 13 = .ok (.ldc 20, 2) := by decide +kernel
theorem d15 : decode yB 15 = .ok (.if_icmp .lt 40, 3) := by decide +kernel
theorem d55 : decode yB 55 = .ok (.iload_n 0, 1) := by decide +kernel
theorem d56 : decode yB 56 = .ok (.iconst 1, 1) := by decide +kernel
theorem d57 : decode yB 57 = .ok (.ishl, 1) := by decide +kernel
theorem d58 : decode yB 58 = .ok (.ireturn, 1) := by decide +kernel
def site : List Cond := [.constant U16 20 1073741823]
def tab : Cond := tabOf yN yB 1 (some .int) site
def P (n : Nat) (args : Array Value) (s : State) : Prop := args = #[.int (Int32.ofNat n)] ∧ n < 1073741823
def E (n : Nat) (r : Option Value) (s u : State) : Prop := XT.PureE (some (.int (Int32.ofNat (2 * n)))) r s u
theorem law (l : Launch) (n : Nat) : Law l yN 1 1 0 0 yB 1 (some .int) site (P n) (E n) [] 0 0 := by
  refine Law.of_walk (plainFor_of_name (by decide +kernel)) (by decide +kernel) (by decide +kernel) (by decide) (fun _ _ h => by rw [h.1]; rfl) (fun _ U U' hal hh h => h) (fun r U U' V V' h1 hal h2 h => XT.PureE.mv r U U' V V' h1 hal h2 h) ?_
  intro p e s m args below meth c s₁ X0 hexec hbytes hml hret hlk hnm hown hh0 W hP
  obtain ⟨rfl, hn⟩ := hP
  have c0 : Steps p.tables e below (s₁.setTop (entryFrame m #[(.int (Int32.ofNat n))] 1)) (s₁.setTop (mkF m 0 #[.val (.int (Int32.ofNat n))] [])) := entry rfl
  have cc1 : Steps p.tables e below (s₁.setTop (entryFrame m #[(.int (Int32.ofNat n))] 1)) (s₁.setTop (mkF m 58 #[.val (.int (Int32.ofNat n))] [(.int ((Int32.ofNat n) <<< ((1 : Int32) &&& 31)))])) := Steps.trans c0 (by
    refine XS.iloadN X0.here hexec rfl (hb hbytes d0) rfl ?_
    refine XS.ifYes X0.here hexec rfl (pc0 := 1) rfl (hb hbytes d1) rfl (i0_ge_t (Int32.ofNat_not_neg (by omega))) (by decide) rfl ?_
    refine XS.iloadN X0.here hexec rfl (hb hbytes d12) rfl ?_
    refine X0.ldcI hexec hown (wk W (.constant U16 20 1073741823)) rfl (hb hbytes d13) ?_
    refine XS.icmpYes X0.here hexec rfl (pc0 := 15) rfl (hb hbytes d15) rfl (ii_lt_t (lt32 (b := 1073741823) (by decide) hn)) (by decide) rfl ?_
    refine XS.iloadN X0.here hexec rfl (hb hbytes d55) rfl ?_
    refine iconstV X0.here hexec rfl 1 (hb hbytes d56) (by decide) ?_
    refine XT.ishl X0.here hexec rfl (hb hbytes d57) rfl ?_
    exact Steps.refl _)
  rw [shl1] at cc1
  exact ⟨s₁, some (.int (Int32.ofNat (2 * n))), _, _, _, X0, rfl, rfl, rfl, (fun h => by cases h), ⟨rfl, hh0⟩, fun fs hl => cc1.trans (X0.ireturnOut hexec hret rfl (Or.inl rfl) (hb hbytes d58) hl)⟩
end NBL
namespace NBF
def yN : MethodName := ⟨"java/lang/StringUTF16", "newBytesFor", "(I)[B"⟩
abbrev yB : ByteArray := jdk_52_method_2_code
theorem d0 : decode yB 0 = .ok (.iload_n 0, 1) := by decide +kernel
theorem d1 : decode yB 1 = .ok (.invokestatic 11, 3) := by decide +kernel
theorem d4 : decode yB 4 = .ok (.newarray .byte, 2) := by decide +kernel
theorem d6 : decode yB 6 = .ok (.areturn, 1) := by decide +kernel
def site : List Cond := [.arrayClass .byte, NBL.tab] ++ staticW U16 11 NBL.yN
def tab : Cond := tabOf yN yB 1 (some (.array .byte)) site
def P (n : Nat) (args : Array Value) (s : State) : Prop := args = #[.int (Int32.ofNat n)] ∧ 2 * n ≤ 536870912
def E (n : Nat) (r : Option Value) (s u : State) : Prop := NewArr .byte "[B" (2 * n) (fun _ => .int 0) r s u ∧ u.heap.size = s.heap.size + 1
theorem law (l : Launch) (n : Nat) : Law l yN 1 1 1 12 yB 1 (some (.array .byte)) site (P n) (E n) [] 1 (2 * n) := by
  refine Law.of_walk (plainFor_of_name (by decide +kernel)) (by decide +kernel) (by decide +kernel) (by decide) (fun _ _ h => by rw [h.1]; rfl) (fun _ U U' hal hh h => h) (fun r U U' V V' h1 hal h2 h => ⟨NewArr.mv r U U' V V' h1 hal h2 h.1, by rw [h1, h2]; exact h.2⟩) ?_
  intro p e s m args below meth c s₁ X0 hexec hbytes hml hret hlk hnm hown hh0 W hP
  obtain ⟨rfl, hn⟩ := hP
  have c0 : Steps p.tables e below (s₁.setTop (entryFrame m #[(.int (Int32.ofNat n))] 1)) (s₁.setTop (mkF m 0 #[.val (.int (Int32.ofNat n))] [])) := entry rfl
  have cc1 : Steps p.tables e below (s₁.setTop (entryFrame m #[(.int (Int32.ofNat n))] 1)) (s₁.setTop (mkF m 1 #[.val (.int (Int32.ofNat n))] [(.int (Int32.ofNat n))])) := Steps.trans c0 (by
    refine XS.iloadN X0.here hexec rfl (hb hbytes d0) rfl ?_
    exact Steps.refl _)
  obtain ⟨v2, T2, X2, E2, g2⟩ := X0.callS hexec (NBL.law l n) hown (wks W (staticW U16 11 NBL.yN)) (wk W NBL.tab) (W := 0) (Nat.le_of_ble_eq_true rfl) (Nat.le_of_ble_eq_true rfl) (Nat.zero_le _) (Nat.zero_le _) (g := (mkF m 1 #[.val (.int (Int32.ofNat n))] [(.int (Int32.ofNat n))])) rfl (by rw [hml]; rfl) cc1 (argsL := [.int (Int32.ofNat n)]) (rest := []) rfl rfl (by show 2 * 0 + 0 ≤ _; decide) (hb hbytes d1) (⟨rfl, by omega⟩)
  obtain ⟨rfl, q2⟩ := E2
  have hh2 := q2.trans hh0
  have cc2 : Steps p.tables e below (s₁.setTop (entryFrame m #[(.int (Int32.ofNat n))] 1)) (T2.setTop (mkF m 4 #[.val (.int (Int32.ofNat n))] [(.int (Int32.ofNat (2 * n)))])) := g2
  obtain ⟨T3, B3, X3, ba3, bs3, bv3, bh3, bf3, st3⟩ := X2.anew hexec (atype := .byte) (wk W (.arrayClass .byte)) (n := 2 * n) rfl (by show 2 * n * 1 ≤ _; omega) (by omega) (g := (mkF m 4 #[.val (.int (Int32.ofNat n))] [(.int (Int32.ofNat (2 * n)))])) rfl (hb hbytes d4) (rest := []) rfl (Nat.le_refl _) (by show 0 + 0 + 2 * n ≤ 2 * n; omega)
  rw [hh2] at ba3 st3
  have kp3 : XT.Kept s T3 := (XT.Kept.of_eq hh2).push bh3
  have cc3 : Steps p.tables e below (s₁.setTop (entryFrame m #[(.int (Int32.ofNat n))] 1)) (T3.setTop (mkF m 6 #[.val (.int (Int32.ofNat n))] [(.ref s.heap.size)])) := (cc2.trans (st3 _ (Steps.refl _)))
  have X4 := X3.wide (L' := []) (cells' := 1) (slots' := 2 * n) (fun x hx hlt => hx) (Nat.le_refl _) (by omega)
  exact ⟨T3, some (.ref s.heap.size), _, _, _, X4, rfl, rfl, rfl, (fun h => by cases h), ⟨⟨rfl, B3, ba3, bv3, by rw [X3.warmed.alike.findClass]; exact bf3, by rw [bs3]; simp, fun j hj => by rw [bs3]; simp [hj]; rfl, kp3⟩, by rw [bh3, hh2]; simp⟩, fun fs hl => cc3.trans (X4.areturnOut hexec rfl hret rfl (hb hbytes d6) hl)⟩
end NBF
namespace PutC
def yN : MethodName := ⟨"java/lang/StringUTF16", "putChar", "([BII)V"⟩
abbrev yB : ByteArray := jdk_52_method_4_code
theorem d0 : decode yB 0 = .ok (.getstatic 44, 3) := by decide +kernel
theorem d3 : decode yB 3 = .ok (.ifCond .ne 25, 3) := by decide +kernel
theorem d28 : decode yB 28 = .ok (.iload_n 1, 1) := by decide +kernel
theorem d29 : decode yB 29 = .ok (.iconst 1, 1) := by decide +kernel
theorem d30 : decode yB 30 = .ok (.ishl, 1) := by decide +kernel
theorem d31 : decode yB 31 = .ok (.istore_n 1, 1) := by decide +kernel
theorem d32 : decode yB 32 = .ok (.aload_n 0, 1) := by decide +kernel
theorem d33 : decode yB 33 = .ok (.iload_n 1, 1) := by decide +kernel
theorem d34 : decode yB 34 = .ok (.iinc 1 1, 3) := by decide +kernel
theorem d37 : decode yB 37 = .ok (.iload_n 2, 1) := by decide +kernel
theorem d38 : decode yB 38 = .ok (.getstatic 59, 3) := by decide +kernel
theorem d41 : decode yB 41 = .ok (.ishr, 1) := by decide +kernel
theorem d42 : decode yB 42 = .ok (.i2b, 1) := by decide +kernel
theorem d43 : decode yB 43 = .ok (.bastore, 1) := by decide +kernel
theorem d44 : decode yB 44 = .ok (.aload_n 0, 1) := by decide +kernel
theorem d45 : decode yB 45 = .ok (.iload_n 1, 1) := by decide +kernel
theorem d46 : decode yB 46 = .ok (.iload_n 2, 1) := by decide +kernel
theorem d47 : decode yB 47 = .ok (.getstatic 63, 3) := by decide +kernel
theorem d50 : decode yB 50 = .ok (.ishr, 1) := by decide +kernel
theorem d51 : decode yB 51 = .ok (.i2b, 1) := by decide +kernel
theorem d52 : decode yB 52 = .ok (.bastore, 1) := by decide +kernel
theorem d53 : decode yB 53 = .ok (.return_, 1) := by decide +kernel
def site : List Cond := stat3
def tab : Cond := tabOf yN yB 3 none site
def P (d : Addr) (B : Cell) (i : Nat) (ch : Int32) (args : Array Value) (s : State) : Prop := args = #[.ref d, .int (Int32.ofNat i), .int ch] ∧ XT.Arr .byte d B s ∧ 2 * i + 1 < B.slots.size ∧ U3 s
def E (d : Addr) (B : Cell) (i : Nat) (ch : Int32) (r : Option Value) (s u : State) : Prop := r = none ∧ XT.Put d ((B.setSlot (2 * i) (.int (lo8 ch))).setSlot (2 * i + 1) (.int (hi8 ch))) s u
theorem law (l : Launch) (d : Addr) (B : Cell) (i : Nat) (ch : Int32) : Law l yN 3 3 0 0 yB 3 none site (P d B i ch) (E d B i ch) [⟨d, 2 * i⟩, ⟨d, 2 * i + 1⟩] 0 0 := by
  refine Law.of_walk (plainFor_of_name (by decide +kernel)) (by decide +kernel) (by decide +kernel) (by decide) (fun _ _ h => by rw [h.1]; rfl) (fun _ U U' hal hh h => ⟨h.1, h.2.1.mv hal hh, h.2.2.1, h.2.2.2.mv hal hh⟩) (fun r U U' V V' h1 hal h2 h => ⟨h.1, h.2.mv h1 h2⟩) ?_
  intro p e s m args below meth c s₁ X0 hexec hbytes hml hret hlk hnm hown hh0 W hP
  obtain ⟨rfl, hB, hi, s1, s2, s3⟩ := hP
  have c0 : Steps p.tables e below (s₁.setTop (entryFrame m #[(.ref d), (.int (Int32.ofNat i)), (.int ch)] 3)) (s₁.setTop (mkF m 0 #[.val (.ref d), .val (.int (Int32.ofNat i)), .val (.int ch)] [])) := entry rfl
  have b31 := hB.2.2.2
  have hB0 := hB.mv X0.warmed.alike hh0
  obtain ⟨Tg1, Xg1, qg1, stg1⟩ := sgetS X0 hexec hown (wk W (.fieldLink U16 44 U16 "$assertionsDisabled" "Z")) s1 (StK.of_eq hh0) (g := (mkF m 0 #[.val (.ref d), .val (.int (Int32.ofNat i)), .val (.int ch)] [])) rfl (hb hbytes d0)
  have hhg1 := qg1.trans hh0
  have cc2 : Steps p.tables e below (s₁.setTop (entryFrame m #[(.ref d), (.int (Int32.ofNat i)), (.int ch)] 3)) (Tg1.setTop (mkF m 31 #[.val (.ref d), .val (.int (Int32.ofNat i)), .val (.int ch)] [(.int ((Int32.ofNat i) <<< ((1 : Int32) &&& 31)))])) := Steps.trans (c0.trans (stg1 _ (Steps.refl _))) (by
    refine XS.ifYes Xg1.here hexec rfl (pc0 := 3) rfl (hb hbytes d3) rfl (i0_ne_t (by decide)) (by decide) rfl ?_
    refine XS.iloadN Xg1.here hexec rfl (hb hbytes d28) rfl ?_
    refine iconstV Xg1.here hexec rfl 1 (hb hbytes d29) (by decide) ?_
    refine XT.ishl Xg1.here hexec rfl (hb hbytes d30) rfl ?_
    exact Steps.refl _)
  rw [shl1] at cc2
  have cc3 : Steps p.tables e below (s₁.setTop (entryFrame m #[(.ref d), (.int (Int32.ofNat i)), (.int ch)] 3)) (Tg1.setTop (mkF m 38 #[.val (.ref d), .val (.int ((Int32.ofNat (2 * i)) + 1)), .val (.int ch)] [(.int ch), (.int (Int32.ofNat (2 * i))), (.ref d)])) := Steps.trans cc2 (by
    refine XS.istoreN Xg1.here hexec rfl (hb hbytes d31) rfl rfl ?_
    refine XS.aloadN Xg1.here hexec rfl (hb hbytes d32) rfl rfl ?_
    refine XS.iloadN Xg1.here hexec rfl (hb hbytes d33) rfl ?_
    refine iincV Xg1.here hexec rfl 1 (hb hbytes d34) (by decide) rfl rfl ?_
    refine XS.iloadN Xg1.here hexec rfl (hb hbytes d37) rfl ?_
    exact Steps.refl _)
  obtain ⟨Tg4, Xg4, qg4, stg4⟩ := sgetS Xg1 hexec hown (wk W (.fieldLink U16 59 U16 "HI_BYTE_SHIFT" "I")) s2 (StK.of_eq hhg1) (g := (mkF m 38 #[.val (.ref d), .val (.int ((Int32.ofNat (2 * i)) + 1)), .val (.int ch)] [(.int ch), (.int (Int32.ofNat (2 * i))), (.ref d)])) rfl (hb hbytes d38)
  have hhg4 := qg4.trans hhg1
  have cc5 : Steps p.tables e below (s₁.setTop (entryFrame m #[(.ref d), (.int (Int32.ofNat i)), (.int ch)] 3)) (Tg4.setTop (mkF m 43 #[.val (.ref d), .val (.int ((Int32.ofNat (2 * i)) + 1)), .val (.int ch)] [(.int ((ch >>> ((0 : Int32) &&& 31)).toInt8.toInt32)), (.int (Int32.ofNat (2 * i))), (.ref d)])) := Steps.trans (cc3.trans (stg4 _ (Steps.refl _))) (by
    refine XT.ishr Xg4.here hexec rfl (hb hbytes d41) rfl ?_
    refine XT.i2b Xg4.here hexec rfl (hb hbytes d42) rfl ?_
    exact Steps.refl _)
  have cz : Steps p.tables e below (s₁.setTop (entryFrame m #[(.ref d), (.int (Int32.ofNat i)), (.int ch)] 3)) (Tg4.setTop (mkF m 43 #[.val (.ref d), .val (.int ((Int32.ofNat (2 * i)) + 1)), .val (.int ch)] [(.int (lo8 ch)), (.int (Int32.ofNat (2 * i))), (.ref d)])) := by
    have := cc5
    rw [lo8_shr0] at this
    exact this
  have hB1 := hB.mv Xg4.warmed.alike hhg4
  obtain ⟨T7, X7, p7, st7⟩ := Xg4.aput hexec hB1 (k := 2 * i) rfl (by omega) rfl (fits_lo8 ch) (g := (mkF m 43 #[.val (.ref d), .val (.int ((Int32.ofNat (2 * i)) + 1)), .val (.int ch)] [(.int (lo8 ch)), (.int (Int32.ofNat (2 * i))), (.ref d)])) rfl (rest := []) rfl (hb hbytes d43)
  have p7' := p7.from hhg4
  have hB7 : XT.Arr .byte d (B.setSlot (2 * i) (.int (lo8 ch))) T7 := hB.like X7.warmed.alike p7.1 rfl rfl (by simp [Cell.setSlot])
  have cc6 : Steps p.tables e below (s₁.setTop (entryFrame m #[(.ref d), (.int (Int32.ofNat i)), (.int ch)] 3)) (T7.setTop (mkF m 47 #[.val (.ref d), .val (.int ((Int32.ofNat (2 * i)) + 1)), .val (.int ch)] [(.int ch), (.int ((Int32.ofNat (2 * i)) + 1)), (.ref d)])) := Steps.trans (cz.trans (st7 _ (Steps.refl _))) (by
    refine XS.aloadN X7.here hexec rfl (hb hbytes d44) rfl rfl ?_
    refine XS.iloadN X7.here hexec rfl (hb hbytes d45) rfl ?_
    refine XS.iloadN X7.here hexec rfl (hb hbytes d46) rfl ?_
    exact Steps.refl _)
  obtain ⟨Tg7, Xg7, qg7, stg7⟩ := sgetS X7 hexec hown (wk W (.fieldLink U16 63 U16 "LO_BYTE_SHIFT" "I")) s3 (StK.put hB p7') (g := (mkF m 47 #[.val (.ref d), .val (.int ((Int32.ofNat (2 * i)) + 1)), .val (.int ch)] [(.int ch), (.int ((Int32.ofNat (2 * i)) + 1)), (.ref d)])) rfl (hb hbytes d47)
  have cc8 : Steps p.tables e below (s₁.setTop (entryFrame m #[(.ref d), (.int (Int32.ofNat i)), (.int ch)] 3)) (Tg7.setTop (mkF m 52 #[.val (.ref d), .val (.int ((Int32.ofNat (2 * i)) + 1)), .val (.int ch)] [(.int ((ch >>> ((8 : Int32) &&& 31)).toInt8.toInt32)), (.int ((Int32.ofNat (2 * i)) + 1)), (.ref d)])) := Steps.trans (cc6.trans (stg7 _ (Steps.refl _))) (by
    refine XT.ishr Xg7.here hexec rfl (hb hbytes d50) rfl ?_
    refine XT.i2b Xg7.here hexec rfl (hb hbytes d51) rfl ?_
    exact Steps.refl _)
  have hB9 := hB7.mv (X7.warmed.alike.symm.trans Xg7.warmed.alike) qg7
  have cy : Steps p.tables e below (s₁.setTop (entryFrame m #[(.ref d), (.int (Int32.ofNat i)), (.int ch)] 3)) (Tg7.setTop (mkF m 52 #[.val (.ref d), .val (.int (Int32.ofNat (2 * i + 1))), .val (.int ch)] [(.int (hi8 ch)), (.int (Int32.ofNat (2 * i + 1))), (.ref d)])) := by
    have := cc8
    rw [succ32] at this
    exact this
  obtain ⟨T11, X11, p11, st11⟩ := Xg7.aput hexec hB9 (k := 2 * i + 1) rfl (by simpa [Cell.setSlot] using hi) rfl (fits_lo8 (ch >>> ((8 : Int32) &&& 31))) (g := (mkF m 52 #[.val (.ref d), .val (.int (Int32.ofNat (2 * i + 1))), .val (.int ch)] [(.int (hi8 ch)), (.int (Int32.ofNat (2 * i + 1))), (.ref d)])) rfl (rest := []) rfl (hb hbytes d52)
  have cc9 : Steps p.tables e below (s₁.setTop (entryFrame m #[(.ref d), (.int (Int32.ofNat i)), (.int ch)] 3)) (T11.setTop (mkF m 53 #[.val (.ref d), .val (.int (Int32.ofNat (2 * i + 1))), .val (.int ch)] [])) := (cy.trans (st11 _ (Steps.refl _)))
  exact ⟨T11, none, _, _, _, X11, by simp, rfl, rfl, (fun _ => rfl), ⟨rfl, (p7'.trans (p11.from qg7))⟩, fun fs hl => cc9.trans (X11.returnOut hexec hret (hb hbytes d53) hl)⟩
end PutC
namespace GetC
def yN : MethodName := ⟨"java/lang/StringUTF16", "getChar", "([BI)C"⟩
abbrev yB : ByteArray := jdk_52_method_5_code
theorem d0 : decode yB 0 = .ok (.getstatic 44, 3) := by decide +kernel
theorem d3 : decode yB 3 = .ok (.ifCond .ne 25, 3) := by decide +kernel
theorem d28 : decode yB 28 = .ok (.iload_n 1, 1) := by decide +kernel
theorem d29 : decode yB 29 = .ok (.iconst 1, 1) := by decide +kernel
theorem d30 : decode yB 30 = .ok (.ishl, 1) := by decide +kernel
theorem d31 : decode yB 31 = .ok (.istore_n 1, 1) := by decide +kernel
theorem d32 : decode yB 32 = .ok (.aload_n 0, 1) := by decide +kernel
theorem d33 : decode yB 33 = .ok (.iload_n 1, 1) := by decide +kernel
theorem d34 : decode yB 34 = .ok (.iinc 1 1, 3) := by decide +kernel
theorem d37 : decode yB 37 = .ok (.baload, 1) := by decide +kernel
theorem d38 : decode yB 38 = .ok (.sipush 255, 3) := by decide +kernel
theorem d41 : decode yB 41 = .ok (.iand, 1) := by decide +kernel
theorem d42 : decode yB 42 = .ok (.getstatic 59, 3) := by decide +kernel
theorem d45 : decode yB 45 = .ok (.ishl, 1) := by decide +kernel
theorem d46 : decode yB 46 = .ok (.aload_n 0, 1) := by decide +kernel
theorem d47 : decode yB 47 = .ok (.iload_n 1, 1) := by decide +kernel
theorem d48 : decode yB 48 = .ok (.baload, 1) := by decide +kernel
theorem d49 : decode yB 49 = .ok (.sipush 255, 3) := by decide +kernel
theorem d52 : decode yB 52 = .ok (.iand, 1) := by decide +kernel
theorem d53 : decode yB 53 = .ok (.getstatic 63, 3) := by decide +kernel
theorem d56 : decode yB 56 = .ok (.ishl, 1) := by decide +kernel
theorem d57 : decode yB 57 = .ok (.ior, 1) := by decide +kernel
theorem d58 : decode yB 58 = .ok (.i2c, 1) := by decide +kernel
theorem d59 : decode yB 59 = .ok (.ireturn, 1) := by decide +kernel
def site : List Cond := stat3
def tab : Cond := tabOf yN yB 2 (some .char) site
def P (d : Addr) (V : Cell) (i : Nat) (u w : Int32) (args : Array Value) (s : State) : Prop := args = #[.ref d, .int (Int32.ofNat i)] ∧ XT.Arr .byte d V s ∧ V.slots[2 * i]? = some (.int u) ∧ V.slots[2 * i + 1]? = some (.int w) ∧ U3 s
def E (u w : Int32) (r : Option Value) (s t : State) : Prop := XT.PureE (some (.int (pairCh u w))) r s t
theorem law (l : Launch) (d : Addr) (V : Cell) (i : Nat) (u w : Int32) : Law l yN 2 2 0 0 yB 2 (some .char) site (P d V i u w) (E u w) [] 0 0 := by
  refine Law.of_walk (plainFor_of_name (by decide +kernel)) (by decide +kernel) (by decide +kernel) (by decide) (fun _ _ h => by rw [h.1]; rfl) (fun _ U U' hal hh h => ⟨h.1, h.2.1.mv hal hh, h.2.2.1, h.2.2.2.1, h.2.2.2.2.mv hal hh⟩) (fun r U U' V V' h1 hal h2 h => XT.PureE.mv r U U' V V' h1 hal h2 h) ?_
  intro p e s m args below meth c s₁ X0 hexec hbytes hml hret hlk hnm hown hh0 W hP
  obtain ⟨rfl, hV, hu, hw, s1, s2, s3⟩ := hP
  have c0 : Steps p.tables e below (s₁.setTop (entryFrame m #[(.ref d), (.int (Int32.ofNat i))] 2)) (s₁.setTop (mkF m 0 #[.val (.ref d), .val (.int (Int32.ofNat i))] [])) := entry rfl
  have v31 := hV.2.2.2
  have hi : 2 * i + 1 < V.slots.size := (Array.getElem?_eq_some_iff.mp hw).1
  obtain ⟨Tg1, Xg1, qg1, stg1⟩ := sgetS X0 hexec hown (wk W (.fieldLink U16 44 U16 "$assertionsDisabled" "Z")) s1 (StK.of_eq hh0) (g := (mkF m 0 #[.val (.ref d), .val (.int (Int32.ofNat i))] [])) rfl (hb hbytes d0)
  have hhg1 := qg1.trans hh0
  have cc2 : Steps p.tables e below (s₁.setTop (entryFrame m #[(.ref d), (.int (Int32.ofNat i))] 2)) (Tg1.setTop (mkF m 31 #[.val (.ref d), .val (.int (Int32.ofNat i))] [(.int ((Int32.ofNat i) <<< ((1 : Int32) &&& 31)))])) := Steps.trans (c0.trans (stg1 _ (Steps.refl _))) (by
    refine XS.ifYes Xg1.here hexec rfl (pc0 := 3) rfl (hb hbytes d3) rfl (i0_ne_t (by decide)) (by decide) rfl ?_
    refine XS.iloadN Xg1.here hexec rfl (hb hbytes d28) rfl ?_
    refine iconstV Xg1.here hexec rfl 1 (hb hbytes d29) (by decide) ?_
    refine XT.ishl Xg1.here hexec rfl (hb hbytes d30) rfl ?_
    exact Steps.refl _)
  rw [shl1] at cc2
  have cc3 : Steps p.tables e below (s₁.setTop (entryFrame m #[(.ref d), (.int (Int32.ofNat i))] 2)) (Tg1.setTop (mkF m 42 #[.val (.ref d), .val (.int ((Int32.ofNat (2 * i)) + 1))] [(.int (u &&& (255 : Int32)))])) := Steps.trans cc2 (by
    refine XS.istoreN Xg1.here hexec rfl (hb hbytes d31) rfl rfl ?_
    refine XS.aloadN Xg1.here hexec rfl (hb hbytes d32) rfl rfl ?_
    refine XS.iloadN Xg1.here hexec rfl (hb hbytes d33) rfl ?_
    refine iincV Xg1.here hexec rfl 1 (hb hbytes d34) (by decide) rfl rfl ?_
    refine Xg1.aget hexec (hV.mv Xg1.warmed.alike hhg1) (k := 2 * i) rfl hu rfl rfl (hb hbytes d37) ?_
    refine sipushV Xg1.here hexec rfl 255 (hb hbytes d38) (by decide) ?_
    refine XS.iand Xg1.here hexec rfl (hb hbytes d41) rfl ?_
    exact Steps.refl _)
  obtain ⟨Tg4, Xg4, qg4, stg4⟩ := sgetS Xg1 hexec hown (wk W (.fieldLink U16 59 U16 "HI_BYTE_SHIFT" "I")) s2 (StK.of_eq hhg1) (g := (mkF m 42 #[.val (.ref d), .val (.int ((Int32.ofNat (2 * i)) + 1))] [(.int (u &&& (255 : Int32)))])) rfl (hb hbytes d42)
  have hhg4 := qg4.trans hhg1
  have cc5 : Steps p.tables e below (s₁.setTop (entryFrame m #[(.ref d), (.int (Int32.ofNat i))] 2)) (Tg4.setTop (mkF m 48 #[.val (.ref d), .val (.int ((Int32.ofNat (2 * i)) + 1))] [(.int ((Int32.ofNat (2 * i)) + 1)), (.ref d), (.int ((u &&& (255 : Int32)) <<< ((0 : Int32) &&& 31)))])) := Steps.trans (cc3.trans (stg4 _ (Steps.refl _))) (by
    refine XT.ishl Xg4.here hexec rfl (hb hbytes d45) rfl ?_
    refine XS.aloadN Xg4.here hexec rfl (hb hbytes d46) rfl rfl ?_
    refine XS.iloadN Xg4.here hexec rfl (hb hbytes d47) rfl ?_
    exact Steps.refl _)
  have cz : Steps p.tables e below (s₁.setTop (entryFrame m #[(.ref d), (.int (Int32.ofNat i))] 2)) (Tg4.setTop (mkF m 48 #[.val (.ref d), .val (.int (Int32.ofNat (2 * i + 1)))] [(.int (Int32.ofNat (2 * i + 1))), (.ref d), (.int ((u &&& (255 : Int32)) <<< ((0 : Int32) &&& 31)))])) := by
    have := cc5
    rw [succ32] at this
    exact this
  have cc6 : Steps p.tables e below (s₁.setTop (entryFrame m #[(.ref d), (.int (Int32.ofNat i))] 2)) (Tg4.setTop (mkF m 53 #[.val (.ref d), .val (.int (Int32.ofNat (2 * i + 1)))] [(.int (w &&& (255 : Int32))), (.int ((u &&& (255 : Int32)) <<< ((0 : Int32) &&& 31)))])) := Steps.trans cz (by
    refine Xg4.aget hexec (hV.mv Xg4.warmed.alike hhg4) (k := 2 * i + 1) rfl hw rfl rfl (hb hbytes d48) ?_
    refine sipushV Xg4.here hexec rfl 255 (hb hbytes d49) (by decide) ?_
    refine XS.iand Xg4.here hexec rfl (hb hbytes d52) rfl ?_
    exact Steps.refl _)
  obtain ⟨Tg7, Xg7, qg7, stg7⟩ := sgetS Xg4 hexec hown (wk W (.fieldLink U16 63 U16 "LO_BYTE_SHIFT" "I")) s3 (StK.of_eq hhg4) (g := (mkF m 53 #[.val (.ref d), .val (.int (Int32.ofNat (2 * i + 1)))] [(.int (w &&& (255 : Int32))), (.int ((u &&& (255 : Int32)) <<< ((0 : Int32) &&& 31)))])) rfl (hb hbytes d53)
  have hhg7 := qg7.trans hhg4
  have cc8 : Steps p.tables e below (s₁.setTop (entryFrame m #[(.ref d), (.int (Int32.ofNat i))] 2)) (Tg7.setTop (mkF m 59 #[.val (.ref d), .val (.int (Int32.ofNat (2 * i + 1)))] [(.int ((((u &&& (255 : Int32)) <<< ((0 : Int32) &&& 31)) ||| ((w &&& (255 : Int32)) <<< ((8 : Int32) &&& 31))).toUInt32.toUInt16.toUInt32.toInt32))])) := Steps.trans (cc6.trans (stg7 _ (Steps.refl _))) (by
    refine XT.ishl Xg7.here hexec rfl (hb hbytes d56) rfl ?_
    refine XT.ior Xg7.here hexec rfl (hb hbytes d57) rfl ?_
    refine XT.i2c Xg7.here hexec rfl (hb hbytes d58) rfl ?_
    exact Steps.refl _)
  exact ⟨Tg7, some (.int (pairCh u w)), _, _, _, Xg7, rfl, rfl, rfl, (fun h => by cases h), ⟨rfl, hhg7⟩, fun fs hl => cc8.trans (Xg7.ireturnOut hexec hret (narrow_c _) (Or.inr (Or.inr (Or.inr (Or.inl rfl)))) (hb hbytes d59) hl)⟩
end GetC
/-- byte j of the chars of A from o on, low before high -/
def wb (A : Cell) (o j : Nat) : Value := .int (if j % 2 = 0 then lo8 (cv A (o + j / 2)) else hi8 (cv A (o + j / 2)))
theorem wb_lo (A : Cell) (o i : Nat) : wb A o (2 * i) = .int (lo8 (cv A (o + i))) := by unfold wb; rw [if_pos (by omega), show 2 * i / 2 = i by omega]
theorem wb_hi (A : Cell) (o i : Nat) : wb A o (2 * i + 1) = .int (hi8 (cv A (o + i))) := by unfold wb; rw [if_neg (by omega), show (2 * i + 1) / 2 = i by omega]
namespace ToB
def yN : MethodName := ⟨"java/lang/StringUTF16", "toBytes", "([CII)[B"⟩
abbrev yB : ByteArray := jdk_52_method_14_code
theorem d0 : decode yB 0 = .ok (.iload_n 2, 1) := by decide +kernel
theorem d1 : decode yB 1 = .ok (.invokestatic 107, 3) := by decide +kernel
theorem d4 : decode yB 4 = .ok (.astore_n 3, 1) := by decide +kernel
theorem d5 : decode yB 5 = .ok (.iconst 0, 1) := by decide +kernel
theorem d6 : decode yB 6 = .ok (.istore 4, 2) := by decide +kernel
theorem d8 : decode yB 8 = .ok (.iload 4, 2) := by decide +kernel
theorem d10 : decode yB 10 = .ok (.iload_n 2, 1) := by decide +kernel
theorem d11 : decode yB 11 = .ok (.if_icmp .ge 21, 3) := by decide +kernel
theorem d14 : decode yB 14 = .ok (.aload_n 3, 1) := by decide +kernel
theorem d15 : decode yB 15 = .ok (.iload 4, 2) := by decide +kernel
theorem d17 : decode yB 17 = .ok (.aload_n 0, 1) := by decide +kernel
theorem d18 : decode yB 18 = .ok (.iload_n 1, 1) := by decide +kernel
theorem d19 : decode yB 19 = .ok (.caload, 1) := by decide +kernel
theorem d20 : decode yB 20 = .ok (.invokestatic 111, 3) := by decide +kernel
theorem d23 : decode yB 23 = .ok (.iinc 1 1, 3) := by decide +kernel
theorem d26 : decode yB 26 = .ok (.iinc 4 1, 3) := by decide +kernel
theorem d29 : decode yB 29 = .ok (.goto (-21), 3) := by decide +kernel
theorem d32 : decode yB 32 = .ok (.aload_n 3, 1) := by decide +kernel
theorem d33 : decode yB 33 = .ok (.areturn, 1) := by decide +kernel
def site : List Cond := [NBF.tab, PutC.tab] ++ staticW U16 107 NBF.yN ++ staticW U16 111 PutC.yN
def tab : Cond := tabOf yN yB 5 (some (.array .byte)) site
def P (b : Addr) (A : Cell) (o len : Nat) (args : Array Value) (s : State) : Prop := args = #[.ref b, .int (Int32.ofNat o), .int (Int32.ofNat len)] ∧ Ch b A s ∧ o + len ≤ A.slots.size ∧ 2 * len ≤ 536870912 ∧ U3 s
def E (b : Addr) (A : Cell) (o len : Nat) (r : Option Value) (s u : State) : Prop := NewArr .byte "[B" (2 * len) (wb A o) r s u ∧ u.heap.size = s.heap.size + 1
theorem law (l : Launch) (b : Addr) (A : Cell) (o len : Nat) : Law l yN 3 3 2 28 yB 5 (some (.array .byte)) site (P b A o len) (E b A o len) [] 1 (2 * len) := by
  refine Law.of_walk (plainFor_of_name (by decide +kernel)) (by decide +kernel) (by decide +kernel) (by decide) (fun _ _ h => by rw [h.1]; rfl) (fun _ U U' hal hh h => ⟨h.1, h.2.1.mv hal hh, h.2.2.1, h.2.2.2.1, h.2.2.2.2.mv hal hh⟩) (fun r U U' V V' h1 hal h2 h => ⟨NewArr.mv r U U' V V' h1 hal h2 h.1, by rw [h1, h2]; exact h.2⟩) ?_
  intro p e s m args below meth c s₁ X0 hexec hbytes hml hret hlk hnm hown hh0 W hP
  obtain ⟨rfl, hA, l1, l2, u3⟩ := hP
  have c0 : Steps p.tables e below (s₁.setTop (entryFrame m #[(.ref b), (.int (Int32.ofNat o)), (.int (Int32.ofNat len))] 5)) (s₁.setTop (mkF m 0 #[.val (.ref b), .val (.int (Int32.ofNat o)), .val (.int (Int32.ofNat len)), .unset, .unset] [])) := entry rfl
  have a31 := hA.1.2.2.2
  have cc1 : Steps p.tables e below (s₁.setTop (entryFrame m #[(.ref b), (.int (Int32.ofNat o)), (.int (Int32.ofNat len))] 5)) (s₁.setTop (mkF m 1 #[.val (.ref b), .val (.int (Int32.ofNat o)), .val (.int (Int32.ofNat len)), .unset, .unset] [(.int (Int32.ofNat len))])) := Steps.trans c0 (by
    refine XS.iloadN X0.here hexec rfl (hb hbytes d0) rfl ?_
    exact Steps.refl _)
  obtain ⟨v2, T2, X2, E2, g2⟩ := X0.callS hexec (NBF.law l len) hown (wks W (staticW U16 107 NBF.yN)) (wk W NBF.tab) (W := 0) (Nat.le_of_ble_eq_true rfl) (Nat.le_of_ble_eq_true rfl) (Nat.le_refl _) (by show 0 + 2 * len ≤ 2 * len; omega) (g := (mkF m 1 #[.val (.ref b), .val (.int (Int32.ofNat o)), .val (.int (Int32.ofNat len)), .unset, .unset] [(.int (Int32.ofNat len))])) rfl (by rw [hml]; rfl) cc1 (argsL := [.int (Int32.ofNat len)]) (rest := []) rfl rfl (by show 2 * 0 + 0 ≤ _; decide) (hb hbytes d1) (⟨rfl, l2⟩)
  obtain ⟨e2, z2⟩ := E2
  obtain ⟨rfl, B2, n1, n2, n3, n4, n5, n6⟩ := NewArr.mv _ s₁ s _ _ hh0.symm (Vm.Alike.refl _) rfl e2
  rw [hh0] at z2
  have X2' := X2.wide (L' := []) (cells' := 1) (slots' := 2 * len) (fun x hx hlt => by simpa using hx) (by omega) (by omega)
  have cc2 : Steps p.tables e below (s₁.setTop (entryFrame m #[(.ref b), (.int (Int32.ofNat o)), (.int (Int32.ofNat len))] 5)) (T2.setTop (mkF m 8 #[.val (.ref b), .val (.int (Int32.ofNat o)), .val (.int (Int32.ofNat len)), .val (.ref s.heap.size), .val (.int 0)] [])) := Steps.trans g2 (by
    refine XS.astoreN X2'.here hexec rfl (hb hbytes d4) rfl rfl rfl ?_
    refine iconstV X2'.here hexec rfl 0 (hb hbytes d5) (by decide) ?_
    refine XS.istore X2'.here hexec rfl (hb hbytes d6) rfl rfl ?_
    exact Steps.refl _)
  have hbd : b ≠ s.heap.size := hA.1.ne
  have loop : ∀ (r i : Nat), i + r = len → ∀ (Tl : State) (Bk : Cell), Stand p l e { frames := 2, locals := 28, cells := 1, slots := 2 * len } s m #[(.ref b), (.int (Int32.ofNat o)), (.int (Int32.ofNat len))] below meth c Tl [] 1 (2 * len) → XT.Put s.heap.size Bk T2 Tl → Laid B2 Bk 0 (2 * i) (wb A o) → Steps p.tables e below (s₁.setTop (entryFrame m #[(.ref b), (.int (Int32.ofNat o)), (.int (Int32.ofNat len))] 5)) (Tl.setTop (mkF m 8 #[.val (.ref b), .val (.int (Int32.ofNat (o + i))), .val (.int (Int32.ofNat len)), .val (.ref s.heap.size), .val (.int (Int32.ofNat i))] [])) →
      ∃ (T' : State) (B' : Cell), Stand p l e { frames := 2, locals := 28, cells := 1, slots := 2 * len } s m #[(.ref b), (.int (Int32.ofNat o)), (.int (Int32.ofNat len))] below meth c T' [] 1 (2 * len) ∧ XT.Put s.heap.size B' T2 T' ∧ Laid B2 B' 0 (2 * len) (wb A o) ∧ Steps p.tables e below (s₁.setTop (entryFrame m #[(.ref b), (.int (Int32.ofNat o)), (.int (Int32.ofNat len))] 5)) (T'.setTop (mkF m 8 #[.val (.ref b), .val (.int (Int32.ofNat (o + len))), .val (.int (Int32.ofNat len)), .val (.ref s.heap.size), .val (.int (Int32.ofNat len))] [])) := by
    intro r
    induction r with
    | zero =>
      intro i hi Tl Bk Xl pl fl cl
      have hil : i = len := by omega
      subst hil
      exact ⟨Tl, Bk, Xl, pl, fl, cl⟩
    | succ r ih =>
      intro i hi Tl Bk Xl pl fl cl
      have all := X2.warmed.alike.symm.trans Xl.warmed.alike
      have hAl := hA.keep Xl.warmed.alike (pl.other hbd (n6 _ _ hA.1.1))
      have hBk := n1.like all pl.1 fl.1 fl.2.1 fl.2.2.1
      have sBk : Bk.slots.size = 2 * len := fl.2.2.1.trans n4
      have u3l : U3 Tl := (u3.keep X2.warmed.alike (StK.kept n6)).keep all (StK.put n1 pl)
      have cc3 : Steps p.tables e below (s₁.setTop (entryFrame m #[(.ref b), (.int (Int32.ofNat o)), (.int (Int32.ofNat len))] 5)) (Tl.setTop (mkF m 20 #[.val (.ref b), .val (.int (Int32.ofNat (o + i))), .val (.int (Int32.ofNat len)), .val (.ref s.heap.size), .val (.int (Int32.ofNat i))] [(.int (cv A (o + i))), (.int (Int32.ofNat i)), (.ref s.heap.size)])) := Steps.trans cl (by
        refine XS.iload Xl.here hexec rfl (hb hbytes d8) rfl ?_
        refine XS.iloadN Xl.here hexec rfl (hb hbytes d10) rfl ?_
        refine XS.icmpNo Xl.here hexec rfl (hb hbytes d11) rfl (ii_ge_f (lt32 (by omega) (by omega))) ?_
        refine XS.aloadN Xl.here hexec rfl (hb hbytes d14) rfl rfl ?_
        refine XS.iload Xl.here hexec rfl (hb hbytes d15) rfl ?_
        refine XS.aloadN Xl.here hexec rfl (hb hbytes d17) rfl rfl ?_
        refine XS.iloadN Xl.here hexec rfl (hb hbytes d18) rfl ?_
        refine Xl.aget hexec hAl.1 rfl (hA.get (i := o + i) (by omega)) rfl rfl (hb hbytes d19) ?_
        exact Steps.refl _)
      obtain ⟨v6, T6, X6, E6, g6⟩ := Xl.callS hexec (PutC.law l s.heap.size Bk i (cv A (o + i))) hown (wks W (staticW U16 111 PutC.yN)) (wk W PutC.tab) (W := 0) (Nat.le_of_ble_eq_true rfl) (Nat.le_of_ble_eq_true rfl) (Nat.le_refl _) (Nat.le_refl _) (g := (mkF m 20 #[.val (.ref b), .val (.int (Int32.ofNat (o + i))), .val (.int (Int32.ofNat len)), .val (.ref s.heap.size), .val (.int (Int32.ofNat i))] [(.int (cv A (o + i))), (.int (Int32.ofNat i)), (.ref s.heap.size)])) rfl (by rw [hml]; rfl) cc3 (argsL := [.ref s.heap.size, .int (Int32.ofNat i), .int (cv A (o + i))]) (rest := []) rfl rfl (by show 2 * 0 + 0 ≤ _; decide) (hb hbytes d20) (⟨rfl, hBk, by omega, u3l⟩)
      obtain ⟨rfl, p6⟩ := E6
      have X6' := X6.wide (L' := []) (cells' := 1) (slots' := 2 * len) (fun x hx hlt => by
        simp only [List.nil_append, List.mem_cons, List.not_mem_nil, or_false] at hx
        rcases hx with rfl | rfl <;> exact absurd hlt (Nat.lt_irrefl _)) (by omega) (by omega)
      have cc4 : Steps p.tables e below (s₁.setTop (entryFrame m #[(.ref b), (.int (Int32.ofNat o)), (.int (Int32.ofNat len))] 5)) (T6.setTop (mkF m 8 #[.val (.ref b), .val (.int ((Int32.ofNat (o + i)) + 1)), .val (.int (Int32.ofNat len)), .val (.ref s.heap.size), .val (.int ((Int32.ofNat i) + 1))] [])) := Steps.trans g6 (by
        refine iincV X6'.here hexec rfl 1 (hb hbytes d23) (by decide) rfl rfl ?_
        refine iincV X6'.here hexec rfl 1 (hb hbytes d26) (by decide) rfl rfl ?_
        refine XS.goto X6'.here hexec rfl (pc0 := 29) rfl (hb hbytes d29) (by decide) rfl ?_
        exact Steps.refl _)
      have cn : Steps p.tables e below (s₁.setTop (entryFrame m #[(.ref b), (.int (Int32.ofNat o)), (.int (Int32.ofNat len))] 5)) (T6.setTop (mkF m 8 #[.val (.ref b), .val (.int (Int32.ofNat (o + (i + 1)))), .val (.int (Int32.ofNat len)), .val (.ref s.heap.size), .val (.int (Int32.ofNat (i + 1)))] [])) := by
        have := cc4
        rw [succ32, succ32] at this
        exact this
      exact ih (i + 1) (by omega) T6 _ X6' (pl.trans p6) ((fl.step (v := .int (lo8 (cv A (o + i)))) (Nat.zero_le _) (by omega) (wb_lo A o i).symm).step (v := .int (hi8 (cv A (o + i)))) (Nat.zero_le _) (by simp [Cell.setSlot]; omega) (wb_hi A o i).symm) cn
  obtain ⟨T9, B9, X9, p9, f9, g9⟩ := loop len 0 (by omega) T2 B2 X2' ⟨n1.1, fun _ _ => rfl, rfl⟩ (Laid.zero _ _ _) cc2
  have cc5 : Steps p.tables e below (s₁.setTop (entryFrame m #[(.ref b), (.int (Int32.ofNat o)), (.int (Int32.ofNat len))] 5)) (T9.setTop (mkF m 33 #[.val (.ref b), .val (.int (Int32.ofNat (o + len))), .val (.int (Int32.ofNat len)), .val (.ref s.heap.size), .val (.int (Int32.ofNat len))] [(.ref s.heap.size)])) := Steps.trans g9 (by
    refine XS.iload X9.here hexec rfl (hb hbytes d8) rfl ?_
    refine XS.iloadN X9.here hexec rfl (hb hbytes d10) rfl ?_
    refine XS.icmpYes X9.here hexec rfl (pc0 := 11) rfl (hb hbytes d11) rfl (ii_ge_t (nlt32 (by omega) (Nat.le_refl _))) (by decide) rfl ?_
    refine XS.aloadN X9.here hexec rfl (hb hbytes d32) rfl rfl ?_
    exact Steps.refl _)
  exact ⟨T9, some (.ref s.heap.size), _, _, _, X9, rfl, rfl, rfl, (fun h => by cases h), ⟨⟨rfl, B9, n1.like (X2.warmed.alike.symm.trans X9.warmed.alike) p9.1 f9.1 f9.2.1 f9.2.2.1, f9.2.1.trans n2, by rw [X9.warmed.alike.findClass, f9.1, ← X2.warmed.alike.findClass]; exact n3, f9.2.2.1.trans n4, fun j hj => by rw [f9.2.2.2 j, if_pos ⟨Nat.zero_le _, hj⟩], n6.put p9 (Nat.le_refl _)⟩, p9.2.2.trans z2⟩, fun fs hl => cc5.trans (X9.areturnOut hexec rfl hret rfl (hb hbytes d33) hl)⟩
end ToB
namespace Cmp5w
def yN : MethodName := ⟨"java/lang/StringUTF16", "compress", "([CI[BII)I"⟩
abbrev yB : ByteArray := jdk_52_method_21_code
theorem d0 : decode yB 0 = .ok (.iconst 0, 1) := by decide +kernel
theorem d1 : decode yB 1 = .ok (.istore 5, 2) := by decide +kernel
theorem d3 : decode yB 3 = .ok (.iload 5, 2) := by decide +kernel
theorem d5 : decode yB 5 = .ok (.iload 4, 2) := by decide +kernel
theorem d7 : decode yB 7 = .ok (.if_icmp .ge 37, 3) := by decide +kernel
theorem d10 : decode yB 10 = .ok (.aload_n 0, 1) := by decide +kernel
theorem d11 : decode yB 11 = .ok (.iload_n 1, 1) := by decide +kernel
theorem d12 : decode yB 12 = .ok (.caload, 1) := by decide +kernel
theorem d13 : decode yB 13 = .ok (.istore 6, 2) := by decide +kernel
theorem d15 : decode yB 15 = .ok (.iload 6, 2) := by decide +kernel
theorem d17 : decode yB 17 = .ok (.sipush 255, 3) := by decide +kernel
theorem d20 : decode yB 20 = .ok (.if_icmp .le 6, 3) := by decide +kernel
theorem d23 : decode yB 23 = .ok (.iload 5, 2) := by decide +kernel
theorem d25 : decode yB 25 = .ok (.ireturn, 1) := by decide +kernel
theorem d26 : decode yB 26 = .ok (.aload_n 2, 1) := by decide +kernel
theorem d27 : decode yB 27 = .ok (.iload_n 3, 1) := by decide +kernel
theorem d28 : decode yB 28 = .ok (.iload 6, 2) := by decide +kernel
theorem d30 : decode yB 30 = .ok (.i2b, 1) := by decide +kernel
theorem d31 : decode yB 31 = .ok (.bastore, 1) := by decide +kernel
theorem d32 : decode yB 32 = .ok (.iinc 1 1, 3) := by decide +kernel
theorem d35 : decode yB 35 = .ok (.iinc 3 1, 3) := by decide +kernel
theorem d38 : decode yB 38 = .ok (.iinc 5 1, 3) := by decide +kernel
theorem d41 : decode yB 41 = .ok (.goto (-38), 3) := by decide +kernel
def site : List Cond := []
def tab : Cond := tabOf yN yB 7 (some .int) site
def P (b : Addr) (A : Cell) (d : Addr) (B : Cell) (o q len w : Nat) (args : Array Value) (s : State) : Prop := args = #[.ref b, .int (Int32.ofNat o), .ref d, .int (Int32.ofNat q), .int (Int32.ofNat len)] ∧ Ch b A s ∧ XT.Arr .byte d B s ∧ b ≠ d ∧ o + len ≤ A.slots.size ∧ q + len ≤ B.slots.size ∧ w < len ∧ (∀ i, i < w → ¬ 255 < cv A (o + i)) ∧ 255 < cv A (o + w)
def E (b : Addr) (A : Cell) (d : Addr) (B : Cell) (o q w : Nat) (r : Option Value) (s u : State) : Prop := r = some (.int (Int32.ofNat w)) ∧ ∃ B', XT.Put d B' s u ∧ Laid B B' q (q + w) (fun j => Value.int (lo8 (cv A (o + (j - q)))))
theorem law (l : Launch) (b : Addr) (A : Cell) (d : Addr) (B : Cell) (o q len w : Nat) : Law l yN 5 5 0 0 yB 7 (some .int) site (P b A d B o q len w) (E b A d B o q w) (copyLocs d q w) 0 0 := by
  refine Law.of_walk (plainFor_of_name (by decide +kernel)) (by decide +kernel) (by decide +kernel) (by decide) (fun _ _ h => by rw [h.1]; rfl) (fun _ U U' hal hh h => ⟨h.1, h.2.1.mv hal hh, h.2.2.1.mv hal hh, h.2.2.2⟩) (fun r U U' V V' h1 hal h2 h => ⟨h.1, h.2.elim fun B' q => ⟨B', q.1.mv h1 h2, q.2⟩⟩) ?_
  intro p e s m args below meth c s₁ X0 hexec hbytes hml hret hlk hnm hown hh0 W hP
  obtain ⟨rfl, hA, hB, hne, l1, l2, hw, hp, hwd⟩ := hP
  have c0 : Steps p.tables e below (s₁.setTop (entryFrame m #[(.ref b), (.int (Int32.ofNat o)), (.ref d), (.int (Int32.ofNat q)), (.int (Int32.ofNat len))] 7)) (s₁.setTop (mkF m 0 #[.val (.ref b), .val (.int (Int32.ofNat o)), .val (.ref d), .val (.int (Int32.ofNat q)), .val (.int (Int32.ofNat len)), .unset, .unset] [])) := entry rfl
  have hA0 := hA.1.mv X0.warmed.alike hh0
  have hB0 := hB.mv X0.warmed.alike hh0
  have a31 := hA.1.2.2.2
  have cc1 : Steps p.tables e below (s₁.setTop (entryFrame m #[(.ref b), (.int (Int32.ofNat o)), (.ref d), (.int (Int32.ofNat q)), (.int (Int32.ofNat len))] 7)) (s₁.setTop (mkF m 3 #[.val (.ref b), .val (.int (Int32.ofNat o)), .val (.ref d), .val (.int (Int32.ofNat q)), .val (.int (Int32.ofNat len)), .val (.int 0), .unset] [])) := Steps.trans c0 (by
    refine iconstV X0.here hexec rfl 0 (hb hbytes d0) (by decide) ?_
    refine XS.istore X0.here hexec rfl (hb hbytes d1) rfl rfl ?_
    exact Steps.refl _)
  have loop : ∀ (r i : Nat), i + r = w → ∀ (z : Slot), (z = .unset ∨ ∃ w, z = .val w ∧ w.category = 1) → ∀ (Tl : State) (Bk : Cell), Stand p l e { frames := 0, locals := 0, cells := 0, slots := 0 } s m #[(.ref b), (.int (Int32.ofNat o)), (.ref d), (.int (Int32.ofNat q)), (.int (Int32.ofNat len))] below meth c Tl ([] ++ copyLocs d q i) 0 0 → XT.Put d Bk s₁ Tl → Laid B Bk q (q + i) (fun j => Value.int (lo8 (cv A (o + (j - q))))) → Steps p.tables e below (s₁.setTop (entryFrame m #[(.ref b), (.int (Int32.ofNat o)), (.ref d), (.int (Int32.ofNat q)), (.int (Int32.ofNat len))] 7)) (Tl.setTop (mkF m 3 #[.val (.ref b), .val (.int (Int32.ofNat (o + i))), .val (.ref d), .val (.int (Int32.ofNat (q + i))), .val (.int (Int32.ofNat len)), .val (.int (Int32.ofNat i)), z] [])) →
      ∃ (T' : State) (B' : Cell) (z' : Slot), (z' = .unset ∨ ∃ w, z' = .val w ∧ w.category = 1) ∧ Stand p l e { frames := 0, locals := 0, cells := 0, slots := 0 } s m #[(.ref b), (.int (Int32.ofNat o)), (.ref d), (.int (Int32.ofNat q)), (.int (Int32.ofNat len))] below meth c T' ([] ++ copyLocs d q w) 0 0 ∧ XT.Put d B' s₁ T' ∧ Laid B B' q (q + w) (fun j => Value.int (lo8 (cv A (o + (j - q))))) ∧ Steps p.tables e below (s₁.setTop (entryFrame m #[(.ref b), (.int (Int32.ofNat o)), (.ref d), (.int (Int32.ofNat q)), (.int (Int32.ofNat len))] 7)) (T'.setTop (mkF m 3 #[.val (.ref b), .val (.int (Int32.ofNat (o + w))), .val (.ref d), .val (.int (Int32.ofNat (q + w))), .val (.int (Int32.ofNat len)), .val (.int (Int32.ofNat w)), z'] [])) := by
    intro r
    induction r with
    | zero =>
      intro i hi z hz Tl Bk Xl pl fl cl
      have hil : i = w := by omega
      subst hil
      exact ⟨Tl, Bk, z, hz, Xl, pl, fl, cl⟩
    | succ r ih =>
      intro i hi z hz Tl Bk Xl pl fl cl
      have all := X0.warmed.alike.symm.trans Xl.warmed.alike
      have hAl := hA0.keep all (pl.other hne hA0.1)
      have hBk := hB0.like all pl.1 fl.1 fl.2.1 fl.2.2.1
      have hlt : q + i < Bk.slots.size := by rw [fl.2.2.1]; omega
      have cc2 : Steps p.tables e below (s₁.setTop (entryFrame m #[(.ref b), (.int (Int32.ofNat o)), (.ref d), (.int (Int32.ofNat q)), (.int (Int32.ofNat len))] 7)) (Tl.setTop (mkF m 31 #[.val (.ref b), .val (.int (Int32.ofNat (o + i))), .val (.ref d), .val (.int (Int32.ofNat (q + i))), .val (.int (Int32.ofNat len)), .val (.int (Int32.ofNat i)), .val (.int (cv A (o + i)))] [(.int ((cv A (o + i)).toInt8.toInt32)), (.int (Int32.ofNat (q + i))), (.ref d)])) := Steps.trans cl (by
        refine XS.iload Xl.here hexec rfl (hb hbytes d3) rfl ?_
        refine XS.iload Xl.here hexec rfl (hb hbytes d5) rfl ?_
        refine XS.icmpNo Xl.here hexec rfl (hb hbytes d7) rfl (ii_ge_f (lt32 (by omega) (by omega))) ?_
        refine XS.aloadN Xl.here hexec rfl (hb hbytes d10) rfl rfl ?_
        refine XS.iloadN Xl.here hexec rfl (hb hbytes d11) rfl ?_
        refine Xl.aget hexec hAl rfl (hA.get (i := o + i) (by omega)) rfl rfl (hb hbytes d12) ?_
        refine XS.istoreS Xl.here hexec rfl (hb hbytes d13) rfl rfl hz ?_
        refine XS.iload Xl.here hexec rfl (hb hbytes d15) rfl ?_
        refine sipushV Xl.here hexec rfl 255 (hb hbytes d17) (by decide) ?_
        refine XS.icmpYes Xl.here hexec rfl (pc0 := 20) rfl (hb hbytes d20) rfl (ii_le_t (hp i (by omega))) (by decide) rfl ?_
        refine XS.aloadN Xl.here hexec rfl (hb hbytes d26) rfl rfl ?_
        refine XS.iloadN Xl.here hexec rfl (hb hbytes d27) rfl ?_
        refine XS.iload Xl.here hexec rfl (hb hbytes d28) rfl ?_
        refine XT.i2b Xl.here hexec rfl (hb hbytes d30) rfl ?_
        exact Steps.refl _)
      obtain ⟨T7, X7, p7, st7⟩ := Xl.aput hexec hBk rfl hlt rfl (fits_lo8 (cv A (o + i))) (g := (mkF m 31 #[.val (.ref b), .val (.int (Int32.ofNat (o + i))), .val (.ref d), .val (.int (Int32.ofNat (q + i))), .val (.int (Int32.ofNat len)), .val (.int (Int32.ofNat i)), .val (.int (cv A (o + i)))] [(.int (lo8 (cv A (o + i)))), (.int (Int32.ofNat (q + i))), (.ref d)])) rfl (rest := []) rfl (hb hbytes d31)
      have cc3 : Steps p.tables e below (s₁.setTop (entryFrame m #[(.ref b), (.int (Int32.ofNat o)), (.ref d), (.int (Int32.ofNat q)), (.int (Int32.ofNat len))] 7)) (T7.setTop (mkF m 3 #[.val (.ref b), .val (.int ((Int32.ofNat (o + i)) + 1)), .val (.ref d), .val (.int ((Int32.ofNat (q + i)) + 1)), .val (.int (Int32.ofNat len)), .val (.int ((Int32.ofNat i) + 1)), .val (.int (cv A (o + i)))] [])) := Steps.trans (cc2.trans (st7 _ (Steps.refl _))) (by
        refine iincV X7.here hexec rfl 1 (hb hbytes d32) (by decide) rfl rfl ?_
        refine iincV X7.here hexec rfl 1 (hb hbytes d35) (by decide) rfl rfl ?_
        refine iincV X7.here hexec rfl 1 (hb hbytes d38) (by decide) rfl rfl ?_
        refine XS.goto X7.here hexec rfl (pc0 := 41) rfl (hb hbytes d41) (by decide) rfl ?_
        exact Steps.refl _)
      have cn : Steps p.tables e below (s₁.setTop (entryFrame m #[(.ref b), (.int (Int32.ofNat o)), (.ref d), (.int (Int32.ofNat q)), (.int (Int32.ofNat len))] 7)) (T7.setTop (mkF m 3 #[.val (.ref b), .val (.int (Int32.ofNat (o + (i + 1)))), .val (.ref d), .val (.int (Int32.ofNat (q + (i + 1)))), .val (.int (Int32.ofNat len)), .val (.int (Int32.ofNat (i + 1))), (.val (.int (cv A (o + i))))] [])) := by
        have := cc3
        rw [succ32, succ32, succ32] at this
        exact this
      exact ih (i + 1) (by omega) _ (Or.inr ⟨_, rfl, rfl⟩) T7 _ (by rw [copyLocs_step, ← List.append_assoc]; exact X7) (pl.trans p7) (fl.step (by omega) hlt (by simp)) cn
  obtain ⟨T9, B9, z9, hz9, X9, p9, f9, g9⟩ := loop w 0 (by omega) .unset (Or.inl rfl) s₁ B (by simpa [copyLocs] using X0) ⟨hB0.1, fun _ _ => rfl, rfl⟩ (Laid.zero _ _ _) cc1
  have al9 := X0.warmed.alike.symm.trans X9.warmed.alike
  have hA9 := hA0.keep al9 (p9.other hne hA0.1)
  have cc4 : Steps p.tables e below (s₁.setTop (entryFrame m #[(.ref b), (.int (Int32.ofNat o)), (.ref d), (.int (Int32.ofNat q)), (.int (Int32.ofNat len))] 7)) (T9.setTop (mkF m 25 #[.val (.ref b), .val (.int (Int32.ofNat (o + w))), .val (.ref d), .val (.int (Int32.ofNat (q + w))), .val (.int (Int32.ofNat len)), .val (.int (Int32.ofNat w)), .val (.int (cv A (o + w)))] [(.int (Int32.ofNat w))])) := Steps.trans g9 (by
    refine XS.iload X9.here hexec rfl (hb hbytes d3) rfl ?_
    refine XS.iload X9.here hexec rfl (hb hbytes d5) rfl ?_
    refine XS.icmpNo X9.here hexec rfl (hb hbytes d7) rfl (ii_ge_f (lt32 (by omega) (by omega))) ?_
    refine XS.aloadN X9.here hexec rfl (hb hbytes d10) rfl rfl ?_
    refine XS.iloadN X9.here hexec rfl (hb hbytes d11) rfl ?_
    refine X9.aget hexec hA9 rfl (hA.get (i := o + w) (by omega)) rfl rfl (hb hbytes d12) ?_
    refine XS.istoreS X9.here hexec rfl (hb hbytes d13) rfl rfl hz9 ?_
    refine XS.iload X9.here hexec rfl (hb hbytes d15) rfl ?_
    refine sipushV X9.here hexec rfl 255 (hb hbytes d17) (by decide) ?_
    refine XS.icmpNo X9.here hexec rfl (hb hbytes d20) rfl (ii_le_f hwd) ?_
    refine XS.iload X9.here hexec rfl (hb hbytes d23) rfl ?_
    exact Steps.refl _)
  exact ⟨T9, some (.int (Int32.ofNat w)), _, _, _, X9, by simp, rfl, rfl, (fun h => by cases h), ⟨rfl, B9, p9.from hh0, f9⟩, fun fs hl => cc4.trans (X9.ireturnOut hexec hret rfl (Or.inl rfl) (hb hbytes d25) hl)⟩
end Cmp5w
/-- two new byte[]s: the second, of 2 * len bytes, is the answer; every old cell is kept -/
def NewW (len : Nat) (f : Nat → Value) (r : Option Value) (s u : State) : Prop := r = some (.ref (s.heap.size + 1)) ∧ ∃ B : Cell, XT.Arr .byte (s.heap.size + 1) B u ∧ B.vm = .none ∧ u.vm.findClass "[B" = some B.cls ∧ B.slots.size = 2 * len ∧ (∀ j, j < 2 * len → B.slots[j]? = some (f j)) ∧ XT.Kept s u ∧ u.heap.size = s.heap.size + 2
theorem NewW.mv {len : Nat} {f : Nat → Value} : ∀ r (U U' V V' : State), U'.heap = U.heap → V.vm.Alike V'.vm → V'.heap = V.heap → NewW len f r U V → NewW len f r U' V' :=
  fun r U U' V V' h1 hal h2 ⟨e0, B, e1, e2, e3, e4, e5, e6, e7⟩ => ⟨by rw [h1]; exact e0, B, by rw [h1]; exact e1.mv hal h2, e2, by rw [hal.findClass]; exact e3, e4, e5, e6.mv h1 h2, by rw [h1, h2]; exact e7⟩
namespace Cmp3w
def yN : MethodName := ⟨"java/lang/StringUTF16", "compress", "([CII)[B"⟩
abbrev yB : ByteArray := jdk_52_method_16_code
theorem d0 : decode yB 0 = .ok (.iload_n 2, 1) := by decide +kernel
theorem d1 : decode yB 1 = .ok (.newarray .byte, 2) := by decide +kernel
theorem d3 : decode yB 3 = .ok (.astore_n 3, 1) := by decide +kernel
theorem d4 : decode yB 4 = .ok (.aload_n 0, 1) := by decide +kernel
theorem d5 : decode yB 5 = .ok (.iload_n 1, 1) := by decide +kernel
theorem d6 : decode yB 6 = .ok (.aload_n 3, 1) := by decide +kernel
theorem d7 : decode yB 7 = .ok (.iconst 0, 1) := by decide +kernel
theorem d8 : decode yB 8 = .ok (.iload_n 2, 1) := by decide +kernel
theorem d9 : decode yB 9 = .ok (.invokestatic 115, 3) := by decide +kernel
theorem d12 : decode yB 12 = .ok (.istore 4, 2) := by decide +kernel
theorem d14 : decode yB 14 = .ok (.iload 4, 2) := by decide +kernel
theorem d16 : decode yB 16 = .ok (.iload_n 2, 1) := by decide +kernel
theorem d17 : decode yB 17 = .ok (.if_icmp .eq 40, 3) := by decide +kernel
theorem d20 : decode yB 20 = .ok (.aload_n 0, 1) := by decide +kernel
theorem d21 : decode yB 21 = .ok (.iload_n 1, 1) := by decide +kernel
theorem d22 : decode yB 22 = .ok (.iload_n 2, 1) := by decide +kernel
theorem d23 : decode yB 23 = .ok (.invokestatic 119, 3) := by decide +kernel
theorem d26 : decode yB 26 = .ok (.astore 5, 2) := by decide +kernel
theorem d28 : decode yB 28 = .ok (.aload 5, 2) := by decide +kernel
theorem d30 : decode yB 30 = .ok (.iload 4, 2) := by decide +kernel
theorem d32 : decode yB 32 = .ok (.invokestatic 71, 3) := by decide +kernel
theorem d35 : decode yB 35 = .ok (.sipush 255, 3) := by decide +kernel
theorem d38 : decode yB 38 = .ok (.if_icmp .gt 16, 3) := by decide +kernel
theorem d54 : decode yB 54 = .ok (.aload 5, 2) := by decide +kernel
theorem d56 : decode yB 56 = .ok (.areturn, 1) := by decide +kernel
def site : List Cond := [.arrayClass .byte, Cmp5w.tab, ToB.tab, GetC.tab] ++ staticW U16 115 Cmp5w.yN ++ staticW U16 119 ToB.yN ++ staticW U16 71 GetC.yN
def tab : Cond := tabOf yN yB 6 (some (.array .byte)) site
def P (b : Addr) (A : Cell) (o len w : Nat) (args : Array Value) (s : State) : Prop := args = #[.ref b, .int (Int32.ofNat o), .int (Int32.ofNat len)] ∧ Ch b A s ∧ o + len ≤ A.slots.size ∧ 2 * len ≤ 536870912 ∧ w < len ∧ (∀ i, i < w → ¬ 255 < cv A (o + i)) ∧ 255 < cv A (o + w) ∧ U3 s
def E (b : Addr) (A : Cell) (o len : Nat) (r : Option Value) (s u : State) : Prop := NewW len (wb A o) r s u
theorem law (l : Launch) (b : Addr) (A : Cell) (o len w : Nat) : Law l yN 3 3 3 44 yB 6 (some (.array .byte)) site (P b A o len w) (E b A o len) [] 2 (len + 2 * len) := by
  refine Law.of_walk (plainFor_of_name (by decide +kernel)) (by decide +kernel) (by decide +kernel) (by decide) (fun _ _ h => by rw [h.1]; rfl) (fun _ U U' hal hh h => ⟨h.1, h.2.1.mv hal hh, h.2.2.1, h.2.2.2.1, h.2.2.2.2.1, h.2.2.2.2.2.1, h.2.2.2.2.2.2.1, h.2.2.2.2.2.2.2.mv hal hh⟩) (fun r U U' V V' h1 hal h2 h => NewW.mv r U U' V V' h1 hal h2 h) ?_
  intro p e s m args below meth c s₁ X0 hexec hbytes hml hret hlk hnm hown hh0 W hP
  obtain ⟨rfl, hA, l1, l2, hw, hp, hwd, u3⟩ := hP
  have c0 : Steps p.tables e below (s₁.setTop (entryFrame m #[(.ref b), (.int (Int32.ofNat o)), (.int (Int32.ofNat len))] 6)) (s₁.setTop (mkF m 0 #[.val (.ref b), .val (.int (Int32.ofNat o)), .val (.int (Int32.ofNat len)), .unset, .unset, .unset] [])) := entry rfl
  have a31 := hA.1.2.2.2
  have cc1 : Steps p.tables e below (s₁.setTop (entryFrame m #[(.ref b), (.int (Int32.ofNat o)), (.int (Int32.ofNat len))] 6)) (s₁.setTop (mkF m 1 #[.val (.ref b), .val (.int (Int32.ofNat o)), .val (.int (Int32.ofNat len)), .unset, .unset, .unset] [(.int (Int32.ofNat len))])) := Steps.trans c0 (by
    refine XS.iloadN X0.here hexec rfl (hb hbytes d0) rfl ?_
    exact Steps.refl _)
  obtain ⟨T3, B3, X3, ba3, bs3, bv3, bh3, bf3, st3⟩ := X0.anew hexec (atype := .byte) (wk W (.arrayClass .byte)) rfl (by show len * 1 ≤ _; omega) (by omega) (g := (mkF m 1 #[.val (.ref b), .val (.int (Int32.ofNat o)), .val (.int (Int32.ofNat len)), .unset, .unset, .unset] [(.int (Int32.ofNat len))])) rfl (hb hbytes d1) (rest := []) rfl (Nat.le_of_ble_eq_true rfl) (by show 0 + len ≤ len + 2 * len; omega)
  rw [hh0] at ba3 st3
  have kp3 : XT.Kept s T3 := (XT.Kept.of_eq hh0).push bh3
  have hA3 := hA.keep X3.warmed.alike (kp3 _ _ hA.1.1)
  have hne : b ≠ s.heap.size := hA.1.ne
  have cc2 : Steps p.tables e below (s₁.setTop (entryFrame m #[(.ref b), (.int (Int32.ofNat o)), (.int (Int32.ofNat len))] 6)) (T3.setTop (mkF m 9 #[.val (.ref b), .val (.int (Int32.ofNat o)), .val (.int (Int32.ofNat len)), .val (.ref s.heap.size), .unset, .unset] [(.int (Int32.ofNat len)), (.int 0), (.ref s.heap.size), (.int (Int32.ofNat o)), (.ref b)])) := Steps.trans (cc1.trans (st3 _ (Steps.refl _))) (by
    refine XS.astoreN X3.here hexec rfl (hb hbytes d3) rfl rfl rfl ?_
    refine XS.aloadN X3.here hexec rfl (hb hbytes d4) rfl rfl ?_
    refine XS.iloadN X3.here hexec rfl (hb hbytes d5) rfl ?_
    refine XS.aloadN X3.here hexec rfl (hb hbytes d6) rfl rfl ?_
    refine iconstV X3.here hexec rfl 0 (hb hbytes d7) (by decide) ?_
    refine XS.iloadN X3.here hexec rfl (hb hbytes d8) rfl ?_
    exact Steps.refl _)
  obtain ⟨v6, T6, X6, E6, g6⟩ := X3.callS hexec (Cmp5w.law l b A s.heap.size B3 o 0 len w) hown (wks W (staticW U16 115 Cmp5w.yN)) (wk W Cmp5w.tab) (W := 0) (Nat.le_of_ble_eq_true rfl) (Nat.le_of_ble_eq_true rfl) (Nat.le_of_ble_eq_true rfl) (by show 0 + len + 0 ≤ len + 2 * len; omega) (g := (mkF m 9 #[.val (.ref b), .val (.int (Int32.ofNat o)), .val (.int (Int32.ofNat len)), .val (.ref s.heap.size), .unset, .unset] [(.int (Int32.ofNat len)), (.int 0), (.ref s.heap.size), (.int (Int32.ofNat o)), (.ref b)])) rfl (by rw [hml]; rfl) cc2 (argsL := [.ref b, .int (Int32.ofNat o), .ref s.heap.size, .int (Int32.ofNat 0), .int (Int32.ofNat len)]) (rest := []) rfl rfl (by show 2 * 0 + 0 ≤ _; decide) (hb hbytes d9) (⟨rfl, hA3, ba3, hne, l1, by rw [bs3]; simp, hw, hp, hwd⟩)
  obtain ⟨rfl, B6, p6, f6⟩ := E6
  have kp6 : XT.Kept s T6 := kp3.put p6 (Nat.le_refl _)
  have hA6 := hA.keep X6.warmed.alike (kp6 _ _ hA.1.1)
  have z6 : T6.heap.size = s.heap.size + 1 := by rw [p6.2.2, bh3, hh0]; simp
  have cc3 : Steps p.tables e below (s₁.setTop (entryFrame m #[(.ref b), (.int (Int32.ofNat o)), (.int (Int32.ofNat len))] 6)) (T6.setTop (mkF m 23 #[.val (.ref b), .val (.int (Int32.ofNat o)), .val (.int (Int32.ofNat len)), .val (.ref s.heap.size), .val (.int (Int32.ofNat w)), .unset] [(.int (Int32.ofNat len)), (.int (Int32.ofNat o)), (.ref b)])) := Steps.trans g6 (by
    refine XS.istore X6.here hexec rfl (hb hbytes d12) rfl rfl ?_
    refine XS.iload X6.here hexec rfl (hb hbytes d14) rfl ?_
    refine XS.iloadN X6.here hexec rfl (hb hbytes d16) rfl ?_
    refine XS.icmpNo X6.here hexec rfl (hb hbytes d17) rfl (ii_eq_f (ne32 (by omega) (by omega) (by omega))) ?_
    refine XS.aloadN X6.here hexec rfl (hb hbytes d20) rfl rfl ?_
    refine XS.iloadN X6.here hexec rfl (hb hbytes d21) rfl ?_
    refine XS.iloadN X6.here hexec rfl (hb hbytes d22) rfl ?_
    exact Steps.refl _)
  obtain ⟨v9, T9, X9, E9, g9⟩ := X6.callS hexec (ToB.law l b A o len) hown (wks W (staticW U16 119 ToB.yN)) (wk W ToB.tab) (W := 0) (Nat.le_of_ble_eq_true rfl) (Nat.le_of_ble_eq_true rfl) (Nat.le_of_ble_eq_true rfl) (by show 0 + len + 0 + 2 * len ≤ len + 2 * len; omega) (g := (mkF m 23 #[.val (.ref b), .val (.int (Int32.ofNat o)), .val (.int (Int32.ofNat len)), .val (.ref s.heap.size), .val (.int (Int32.ofNat w)), .unset] [(.int (Int32.ofNat len)), (.int (Int32.ofNat o)), (.ref b)])) rfl (by rw [hml]; rfl) cc3 (argsL := [.ref b, .int (Int32.ofNat o), .int (Int32.ofNat len)]) (rest := []) rfl rfl (by show 2 * 0 + 0 ≤ _; decide) (hb hbytes d23) (⟨rfl, hA6, l1, l2, u3.keep X6.warmed.alike (StK.kept kp6)⟩)
  obtain ⟨⟨rfl, B9, n1, n2, n3, n4, n5, n6⟩, z9⟩ := E9
  rw [z6] at n1 z9
  have kp9 : XT.Kept s T9 := kp6.trans n6
  have cc4 : Steps p.tables e below (s₁.setTop (entryFrame m #[(.ref b), (.int (Int32.ofNat o)), (.int (Int32.ofNat len))] 6)) (T9.setTop (mkF m 26 #[.val (.ref b), .val (.int (Int32.ofNat o)), .val (.int (Int32.ofNat len)), .val (.ref s.heap.size), .val (.int (Int32.ofNat w)), .unset] [(.ref T6.heap.size)])) := g9
  have cz : Steps p.tables e below (s₁.setTop (entryFrame m #[(.ref b), (.int (Int32.ofNat o)), (.int (Int32.ofNat len))] 6)) (T9.setTop (mkF m 26 #[.val (.ref b), .val (.int (Int32.ofNat o)), .val (.int (Int32.ofNat len)), .val (.ref s.heap.size), .val (.int (Int32.ofNat w)), .unset] [(.ref (s.heap.size + 1))])) := by
    have := cc4
    rw [z6] at this
    exact this
  have cc5 : Steps p.tables e below (s₁.setTop (entryFrame m #[(.ref b), (.int (Int32.ofNat o)), (.int (Int32.ofNat len))] 6)) (T9.setTop (mkF m 32 #[.val (.ref b), .val (.int (Int32.ofNat o)), .val (.int (Int32.ofNat len)), .val (.ref s.heap.size), .val (.int (Int32.ofNat w)), .val (.ref (s.heap.size + 1))] [(.int (Int32.ofNat w)), (.ref (s.heap.size + 1))])) := Steps.trans cz (by
    refine XS.astore X9.here hexec rfl (hb hbytes d26) rfl rfl rfl ?_
    refine XS.aload X9.here hexec rfl (hb hbytes d28) rfl rfl ?_
    refine XS.iload X9.here hexec rfl (hb hbytes d30) rfl ?_
    exact Steps.refl _)
  obtain ⟨v12, T12, X12, E12, g12⟩ := X9.callS hexec (GetC.law l (s.heap.size + 1) B9 w (lo8 (cv A (o + w))) (hi8 (cv A (o + w)))) hown (wks W (staticW U16 71 GetC.yN)) (wk W GetC.tab) (W := 0) (Nat.le_of_ble_eq_true rfl) (Nat.le_of_ble_eq_true rfl) (Nat.le_of_ble_eq_true rfl) (by show 0 + len + 0 + 2 * len + 0 ≤ len + 2 * len; omega) (g := (mkF m 32 #[.val (.ref b), .val (.int (Int32.ofNat o)), .val (.int (Int32.ofNat len)), .val (.ref s.heap.size), .val (.int (Int32.ofNat w)), .val (.ref (s.heap.size + 1))] [(.int (Int32.ofNat w)), (.ref (s.heap.size + 1))])) rfl (by rw [hml]; rfl) cc5 (argsL := [.ref (s.heap.size + 1), .int (Int32.ofNat w)]) (rest := []) rfl rfl (by show 2 * 0 + 0 ≤ _; decide) (hb hbytes d32) (⟨rfl, n1, by rw [n5 _ (by omega), wb_lo], by rw [n5 _ (by omega), wb_hi], u3.keep X9.warmed.alike (StK.kept kp9)⟩)
  obtain ⟨rfl, q12⟩ := E12
  have cc6 : Steps p.tables e below (s₁.setTop (entryFrame m #[(.ref b), (.int (Int32.ofNat o)), (.int (Int32.ofNat len))] 6)) (T12.setTop (mkF m 35 #[.val (.ref b), .val (.int (Int32.ofNat o)), .val (.int (Int32.ofNat len)), .val (.ref s.heap.size), .val (.int (Int32.ofNat w)), .val (.ref (s.heap.size + 1))] [(.int (pairCh (lo8 (cv A (o + w))) (hi8 (cv A (o + w)))))])) := g12
  have cy : Steps p.tables e below (s₁.setTop (entryFrame m #[(.ref b), (.int (Int32.ofNat o)), (.int (Int32.ofNat len))] 6)) (T12.setTop (mkF m 35 #[.val (.ref b), .val (.int (Int32.ofNat o)), .val (.int (Int32.ofNat len)), .val (.ref s.heap.size), .val (.int (Int32.ofNat w)), .val (.ref (s.heap.size + 1))] [(.int (cv A (o + w)))])) := by
    have := cc6
    rw [pair_says (hA.rng (by omega)).1 (hA.rng (by omega)).2] at this
    exact this
  have cc7 : Steps p.tables e below (s₁.setTop (entryFrame m #[(.ref b), (.int (Int32.ofNat o)), (.int (Int32.ofNat len))] 6)) (T12.setTop (mkF m 56 #[.val (.ref b), .val (.int (Int32.ofNat o)), .val (.int (Int32.ofNat len)), .val (.ref s.heap.size), .val (.int (Int32.ofNat w)), .val (.ref (s.heap.size + 1))] [(.ref (s.heap.size + 1))])) := Steps.trans cy (by
    refine sipushV X12.here hexec rfl 255 (hb hbytes d35) (by decide) ?_
    refine XS.icmpYes X12.here hexec rfl (pc0 := 38) rfl (hb hbytes d38) rfl (ii_gt_t hwd) (by decide) rfl ?_
    refine XS.aload X12.here hexec rfl (hb hbytes d54) rfl rfl ?_
    exact Steps.refl _)
  have X13 := X12.wide (L' := []) (cells' := 2) (slots' := len + 2 * len) (fun x hx hlt => by
    simp only [List.nil_append, List.append_nil, copyLocs, List.mem_map, List.mem_range] at hx
    obtain ⟨i, -, rfl⟩ := hx
    exact absurd hlt (Nat.lt_irrefl _)) (by omega) (by omega)
  have al := X9.warmed.alike.symm.trans X12.warmed.alike
  exact ⟨T12, some (.ref (s.heap.size + 1)), _, _, _, X13, rfl, rfl, rfl, (fun h => by cases h), ⟨rfl, B9, n1.mv al q12, n2, by rw [al.findClass]; exact n3, n4, n5, kp9.trans (XT.Kept.of_eq q12), by rw [q12]; exact z9⟩, fun fs hl => cc7.trans (X13.areturnOut hexec rfl hret rfl (hb hbytes d56) hl)⟩
end Cmp3w
theorem top_bit {n : Nat} (h0 : 0 < n) (h1 : n < 2 ^ 30) : lo8 (XT.ushr (Int32.ofNat n - Int32.ofNat (2 * n)) (31 : Int32)) = 1 := by
  have e : XT.ushr (Int32.ofNat n - Int32.ofNat (2 * n)) (31 : Int32) = 1 := by
    apply Int32.toBitVec_inj.mp
    apply BitVec.eq_of_toNat_eq
    show (((BitVec.ofNat 32 n - BitVec.ofNat 32 (2 * n)) >>> 31#32)).toNat = 1
    have e1 : (BitVec.ofNat 32 n).toNat = n := by rw [BitVec.toNat_ofNat]; exact Nat.mod_eq_of_lt (by omega)
    have e2 : (BitVec.ofNat 32 (2 * n)).toNat = 2 * n := by rw [BitVec.toNat_ofNat]; exact Nat.mod_eq_of_lt (by omega)
    rw [BitVec.ushiftRight_eq', BitVec.toNat_ushiftRight, BitVec.toNat_sub, e1, e2]
    show ((2 ^ 32 - 2 * n + n) % 2 ^ 32) >>> 31 = 1
    rw [Nat.mod_eq_of_lt (by omega), Nat.shiftRight_eq_div_pow]
    omega
  rw [e]; decide
namespace CodW
def yN : MethodName := ⟨"java/lang/StringUTF16", "coderFromArrayLen", "([BI)B"⟩
abbrev yB : ByteArray := jdk_52_method_15_code
theorem d0 : decode yB 0 = .ok (.iload_n 1, 1) := by decide +kernel
theorem d1 : decode yB 1 = .ok (.aload_n 0, 1) := by decide +kernel
theorem d2 : decode yB 2 = .ok (.arraylength, 1) := by decide +kernel
theorem d3 : decode yB 3 = .ok (.isub, 1) := by decide +kernel
theorem d4 : decode yB 4 = .ok (.bipush 31, 2) := by decide +kernel
theorem d6 : decode yB 6 = .ok (.iushr, 1) := by decide +kernel
theorem d7 : decode yB 7 = .ok (.i2b, 1) := by decide +kernel
theorem d8 : decode yB 8 = .ok (.ireturn, 1) := by decide +kernel
def site : List Cond := []
def tab : Cond := tabOf yN yB 2 (some .byte) site
def P (d : Addr) (B : Cell) (n : Nat) (args : Array Value) (s : State) : Prop := args = #[.ref d, .int (Int32.ofNat n)] ∧ XT.Arr .byte d B s ∧ 0 < n ∧ n < 2 ^ 30 ∧ B.slots.size = 2 * n
def E (r : Option Value) (s u : State) : Prop := XT.PureE (some (.int 1)) r s u
theorem law (l : Launch) (d : Addr) (B : Cell) (n : Nat) : Law l yN 2 2 0 0 yB 2 (some .byte) site (P d B n) E [] 0 0 := by
  refine Law.of_walk (plainFor_of_name (by decide +kernel)) (by decide +kernel) (by decide +kernel) (by decide) (fun _ _ h => by rw [h.1]; rfl) (fun _ U U' hal hh h => ⟨h.1, h.2.1.mv hal hh, h.2.2⟩) (fun r U U' V V' h1 hal h2 h => XT.PureE.mv r U U' V V' h1 hal h2 h) ?_
  intro p e s m args below meth c s₁ X0 hexec hbytes hml hret hlk hnm hown hh0 W hP
  obtain ⟨rfl, hB, h0, h1, h2⟩ := hP
  have c0 : Steps p.tables e below (s₁.setTop (entryFrame m #[(.ref d), (.int (Int32.ofNat n))] 2)) (s₁.setTop (mkF m 0 #[.val (.ref d), .val (.int (Int32.ofNat n))] [])) := entry rfl
  have hB0 := hB.mv X0.warmed.alike hh0
  have cc1 : Steps p.tables e below (s₁.setTop (entryFrame m #[(.ref d), (.int (Int32.ofNat n))] 2)) (s₁.setTop (mkF m 8 #[.val (.ref d), .val (.int (Int32.ofNat n))] [(.int ((XT.ushr ((Int32.ofNat n) - (Int32.ofNat B.slots.size)) (31 : Int32)).toInt8.toInt32))])) := Steps.trans c0 (by
    refine XS.iloadN X0.here hexec rfl (hb hbytes d0) rfl ?_
    refine XS.aloadN X0.here hexec rfl (hb hbytes d1) rfl rfl ?_
    refine X0.alen hexec hB0 rfl rfl (hb hbytes d2) ?_
    refine XS.isub X0.here hexec rfl (hb hbytes d3) rfl ?_
    refine bipushV X0.here hexec rfl 31 (hb hbytes d4) (by decide) ?_
    refine XT.iushr X0.here hexec rfl (hb hbytes d6) rfl ?_
    refine XT.i2b X0.here hexec rfl (hb hbytes d7) rfl ?_
    exact Steps.refl _)
  have cz : Steps p.tables e below (s₁.setTop (entryFrame m #[(.ref d), (.int (Int32.ofNat n))] 2)) (s₁.setTop (mkF m 8 #[.val (.ref d), .val (.int (Int32.ofNat n))] [(.int 1)])) := by
    have := cc1
    rw [h2] at this
    rw [← top_bit h0 h1]
    exact this
  exact ⟨s₁, some (.int 1), _, _, _, X0, rfl, rfl, rfl, (fun h => by cases h), ⟨rfl, hh0⟩, fun fs hl => cz.trans (X0.ireturnOut hexec hret rfl (Or.inr (Or.inr (Or.inl rfl))) (hb hbytes d8) hl)⟩
end CodW
/-- the String at a is UTF-16 over a new byte[]: the bytes of the len chars of A from o on; every cell but a is kept -/
def GotW (a : Addr) (D : Cell) (fV fC : Field) (A : Cell) (o len : Nat) (r : Option Value) (s u : State) : Prop := r = none ∧ ∃ D' V : Cell, Blank "java/lang/String" a D' u ∧ Same D D' [fV.slot, fC.slot] ∧ D'.slots[fV.slot]? = some (.ref (s.heap.size + 1)) ∧ D'.slots[fC.slot]? = some (.int 1) ∧ XT.Arr .byte (s.heap.size + 1) V u ∧ V.vm = .none ∧ u.vm.findClass "[B" = some V.cls ∧ V.slots.size = 2 * len ∧ (∀ j, j < 2 * len → V.slots[j]? = some (wb A o j)) ∧ (∀ (y : Addr) (c : Cell), y ≠ a → s.heap[y]? = some c → u.heap[y]? = some c) ∧ u.heap.size = s.heap.size + 2
theorem GotW.mv {a : Addr} {D A : Cell} {fV fC : Field} {o len : Nat} : ∀ r (U U' V V' : State), U'.heap = U.heap → V.vm.Alike V'.vm → V'.heap = V.heap → GotW a D fV fC A o len r U V → GotW a D fV fC A o len r U' V' :=
  fun r U U' V V' h1 hal h2 ⟨e0, D', X, a1, a2, a3, a4, a5, a6, a7, a8, a9, a10, a11⟩ => ⟨e0, D', X, a1.mv hal h2, a2, by rw [h1]; exact a3, a4, by rw [h1]; exact a5.mv hal h2, a6, by rw [hal.findClass]; exact a7, a8, a9, by rw [h1, h2]; exact a10, by rw [h1, h2]; exact a11⟩
namespace New4w
def yN : MethodName := ⟨"java/lang/String", "<init>", "([CIILjava/lang/Void;)V"⟩
abbrev yB : ByteArray := jdk_42_method_149_code
theorem d0 : decode yB 0 = .ok (.aload_n 0, 1) := by decide +kernel
theorem d1 : decode yB 1 = .ok (.invokespecial 1, 3) := by decide +kernel
theorem d4 : decode yB 4 = .ok (.iload_n 3, 1) := by decide +kernel
theorem d5 : decode yB 5 = .ok (.ifCond .ne 22, 3) := by decide +kernel
theorem d27 : decode yB 27 = .ok (.getstatic 38, 3) := by decide +kernel
theorem d30 : decode yB 30 = .ok (.ifCond .eq 28, 3) := by decide +kernel
theorem d33 : decode yB 33 = .ok (.aload_n 1, 1) := by decide +kernel
theorem d34 : decode yB 34 = .ok (.iload_n 2, 1) := by decide +kernel
theorem d35 : decode yB 35 = .ok (.iload_n 3, 1) := by decide +kernel
theorem d36 : decode yB 36 = .ok (.invokestatic 177, 3) := by decide +kernel
theorem d39 : decode yB 39 = .ok (.astore 5, 2) := by decide +kernel
theorem d41 : decode yB 41 = .ok (.aload_n 0, 1) := by decide +kernel
theorem d42 : decode yB 42 = .ok (.aload 5, 2) := by decide +kernel
theorem d44 : decode yB 44 = .ok (.iload_n 3, 1) := by decide +kernel
theorem d45 : decode yB 45 = .ok (.invokestatic 47, 3) := by decide +kernel
theorem d48 : decode yB 48 = .ok (.putfield 15, 3) := by decide +kernel
theorem d51 : decode yB 51 = .ok (.aload_n 0, 1) := by decide +kernel
theorem d52 : decode yB 52 = .ok (.aload 5, 2) := by decide +kernel
theorem d54 : decode yB 54 = .ok (.putfield 9, 3) := by decide +kernel
theorem d57 : decode yB 57 = .ok (.return_, 1) := by decide +kernel
def site : List Cond := [.fieldLink "java/lang/String" 38 "java/lang/String" "COMPACT_STRINGS" "Z", Cmp3w.tab, CodW.tab, .laysFinal "java/lang/String" "java/lang/String" "value" "[B", .fieldLink "java/lang/String" 9 "java/lang/String" "value" "[B", .laysFinal "java/lang/String" "java/lang/String" "coder" "B", .fieldLink "java/lang/String" 15 "java/lang/String" "coder" "B"] ++ objW "java/lang/String" 1 ++ staticW "java/lang/String" 177 Cmp3w.yN ++ staticW "java/lang/String" 47 CodW.yN
def tab : Cond := tabOf yN yB 6 none site
def P (a : Addr) (D : Cell) (fV fC : Field) (b : Addr) (A : Cell) (z : Int32) (o len w : Nat) (args : Array Value) (s : State) : Prop := args = #[.ref a, .ref b, .int (Int32.ofNat o), .int (Int32.ofNat len), .null] ∧ Blank "java/lang/String" a D s ∧ Found "java/lang/String" "value" "[B" fV s ∧ Found "java/lang/String" "coder" "B" fC s ∧ Ch b A s ∧ StaticIs s "java/lang/String" "COMPACT_STRINGS" "Z" (.int z) ∧ ¬ z = 0 ∧ o + len ≤ A.slots.size ∧ 2 * len ≤ 536870912 ∧ w < len ∧ (∀ i, i < w → ¬ 255 < cv A (o + i)) ∧ 255 < cv A (o + w) ∧ U3 s
def E (a : Addr) (D : Cell) (fV fC : Field) (A : Cell) (o len : Nat) (r : Option Value) (s u : State) : Prop := GotW a D fV fC A o len r s u
theorem law (l : Launch) (a : Addr) (D : Cell) (fV fC : Field) (b : Addr) (A : Cell) (z : Int32) (o len w : Nat) : Law l yN 5 4 4 61 yB 6 none site (P a D fV fC b A z o len w) (E a D fV fC A o len) [⟨a, fC.slot⟩, ⟨a, fV.slot⟩] 2 (len + 2 * len) := by
  refine Law.of_walk (plainFor_of_name (by decide +kernel)) (by decide +kernel) (by decide +kernel) (by decide) (fun _ _ h => by rw [h.1]; rfl) (fun _ U U' hal hh h => ⟨h.1, h.2.1.mv hal hh, h.2.2.1.al hal, h.2.2.2.1.al hal, h.2.2.2.2.1.mv hal hh, h.2.2.2.2.2.1.there hal hh, h.2.2.2.2.2.2.1, h.2.2.2.2.2.2.2.1, h.2.2.2.2.2.2.2.2.1, h.2.2.2.2.2.2.2.2.2.1, h.2.2.2.2.2.2.2.2.2.2.1, h.2.2.2.2.2.2.2.2.2.2.2.1, h.2.2.2.2.2.2.2.2.2.2.2.2.mv hal hh⟩) (fun r U U' V V' h1 hal h2 h => GotW.mv r U U' V V' h1 hal h2 h) ?_
  intro p e s m args below meth c s₁ X0 hexec hbytes hml hret hlk hnm hown hh0 W hP
  obtain ⟨rfl, hB, f1, f2, hA, s1, hz, l1, l2, hw, hp, hwd, u3⟩ := hP
  have c0 : Steps p.tables e below (s₁.setTop (entryFrame m #[(.ref a), (.ref b), (.int (Int32.ofNat o)), (.int (Int32.ofNat len)), .null] 6)) (s₁.setTop (mkF m 0 #[.val (.ref a), .val (.ref b), .val (.int (Int32.ofNat o)), .val (.int (Int32.ofNat len)), .val .null, .unset] [])) := entry rfl
  have a31 := hA.1.2.2.2
  have cc1 : Steps p.tables e below (s₁.setTop (entryFrame m #[(.ref a), (.ref b), (.int (Int32.ofNat o)), (.int (Int32.ofNat len)), .null] 6)) (s₁.setTop (mkF m 1 #[.val (.ref a), .val (.ref b), .val (.int (Int32.ofNat o)), .val (.int (Int32.ofNat len)), .val .null, .unset] [(.ref a)])) := Steps.trans c0 (by
    refine XS.aloadN X0.here hexec rfl (hb hbytes d0) rfl rfl ?_
    exact Steps.refl _)
  obtain ⟨T3, X3, q3, st3⟩ := X0.oinit hexec hown (wks W (objW "java/lang/String" 1)) (g := (mkF m 1 #[.val (.ref a), .val (.ref b), .val (.int (Int32.ofNat o)), .val (.int (Int32.ofNat len)), .val .null, .unset] [(.ref a)])) rfl (by rw [hml]; rfl) (rest := []) rfl (hb hbytes d1) (W := 0) (by show 2 * 0 + 0 ≤ _; decide) (Nat.le_of_ble_eq_true rfl) (Nat.le_of_ble_eq_true rfl)
  have hh3 := q3.trans hh0
  have cc2 : Steps p.tables e below (s₁.setTop (entryFrame m #[(.ref a), (.ref b), (.int (Int32.ofNat o)), (.int (Int32.ofNat len)), .null] 6)) (T3.setTop (mkF m 27 #[.val (.ref a), .val (.ref b), .val (.int (Int32.ofNat o)), .val (.int (Int32.ofNat len)), .val .null, .unset] [])) := Steps.trans (cc1.trans (st3 _ (Steps.refl _))) (by
    refine XS.iloadN X3.here hexec rfl (hb hbytes d4) rfl ?_
    refine XS.ifYes X3.here hexec rfl (pc0 := 5) rfl (hb hbytes d5) rfl (i0_ne_t (nz32 (by omega) (by omega))) (by decide) rfl ?_
    exact Steps.refl _)
  obtain ⟨T5, X5, q5, st5⟩ := X3.sget hexec hown (wk W (.fieldLink "java/lang/String" 38 "java/lang/String" "COMPACT_STRINGS" "Z")) s1 (fun _ _ h => by rw [hh3]; exact h) (g := (mkF m 27 #[.val (.ref a), .val (.ref b), .val (.int (Int32.ofNat o)), .val (.int (Int32.ofNat len)), .val .null, .unset] [])) rfl (hb hbytes d27)
  have hh5 := q5.trans hh3
  have cc3 : Steps p.tables e below (s₁.setTop (entryFrame m #[(.ref a), (.ref b), (.int (Int32.ofNat o)), (.int (Int32.ofNat len)), .null] 6)) (T5.setTop (mkF m 36 #[.val (.ref a), .val (.ref b), .val (.int (Int32.ofNat o)), .val (.int (Int32.ofNat len)), .val .null, .unset] [(.int (Int32.ofNat len)), (.int (Int32.ofNat o)), (.ref b)])) := Steps.trans (cc2.trans (st5 _ (Steps.refl _))) (by
    refine XS.ifNo X5.here hexec rfl (hb hbytes d30) rfl (i0_eq_f hz) ?_
    refine XS.aloadN X5.here hexec rfl (hb hbytes d33) rfl rfl ?_
    refine XS.iloadN X5.here hexec rfl (hb hbytes d34) rfl ?_
    refine XS.iloadN X5.here hexec rfl (hb hbytes d35) rfl ?_
    exact Steps.refl _)
  obtain ⟨v8, T8, X8, E8, g8⟩ := X5.callS hexec (Cmp3w.law l b A o len w) hown (wks W (staticW "java/lang/String" 177 Cmp3w.yN)) (wk W Cmp3w.tab) (W := 0) (Nat.le_of_ble_eq_true rfl) (Nat.le_of_ble_eq_true rfl) (Nat.le_refl _) (by show 0 + (len + 2 * len) ≤ len + 2 * len; omega) (g := (mkF m 36 #[.val (.ref a), .val (.ref b), .val (.int (Int32.ofNat o)), .val (.int (Int32.ofNat len)), .val .null, .unset] [(.int (Int32.ofNat len)), (.int (Int32.ofNat o)), (.ref b)])) rfl (by rw [hml]; rfl) cc3 (argsL := [.ref b, .int (Int32.ofNat o), .int (Int32.ofNat len)]) (rest := []) rfl rfl (by show 2 * 0 + 0 ≤ _; decide) (hb hbytes d36) (⟨rfl, hA.mv X5.warmed.alike hh5, l1, l2, hw, hp, hwd, u3.mv X5.warmed.alike hh5⟩)
  obtain ⟨rfl, N, n1, n2, n3, n4, n5, n6, z8⟩ := NewW.mv _ T5 s _ _ hh5.symm (Vm.Alike.refl _) rfl E8
  have hB1 := hB.keep X8.warmed.alike (n6 _ _ hB.1)
  have hlt : a < s.heap.size := (Array.getElem?_eq_some_iff.mp hB.1).1
  have hne : s.heap.size + 1 ≠ a := Nat.ne_of_gt (Nat.lt_succ_of_lt hlt)
  have cc4 : Steps p.tables e below (s₁.setTop (entryFrame m #[(.ref a), (.ref b), (.int (Int32.ofNat o)), (.int (Int32.ofNat len)), .null] 6)) (T8.setTop (mkF m 45 #[.val (.ref a), .val (.ref b), .val (.int (Int32.ofNat o)), .val (.int (Int32.ofNat len)), .val .null, .val (.ref (s.heap.size + 1))] [(.int (Int32.ofNat len)), (.ref (s.heap.size + 1)), (.ref a)])) := Steps.trans g8 (by
    refine XS.astore X8.here hexec rfl (hb hbytes d39) rfl rfl rfl ?_
    refine XS.aloadN X8.here hexec rfl (hb hbytes d41) rfl rfl ?_
    refine XS.aload X8.here hexec rfl (hb hbytes d42) rfl rfl ?_
    refine XS.iloadN X8.here hexec rfl (hb hbytes d44) rfl ?_
    exact Steps.refl _)
  obtain ⟨v11, T11, X11, E11, g11⟩ := X8.callS hexec (CodW.law l (s.heap.size + 1) N len) hown (wks W (staticW "java/lang/String" 47 CodW.yN)) (wk W CodW.tab) (W := 1) (Nat.le_of_ble_eq_true rfl) (Nat.le_of_ble_eq_true rfl) (Nat.le_refl _) (by show 0 + (len + 2 * len) + 0 ≤ len + 2 * len; omega) (g := (mkF m 45 #[.val (.ref a), .val (.ref b), .val (.int (Int32.ofNat o)), .val (.int (Int32.ofNat len)), .val .null, .val (.ref (s.heap.size + 1))] [(.int (Int32.ofNat len)), (.ref (s.heap.size + 1)), (.ref a)])) rfl (by rw [hml]; rfl) cc4 (argsL := [.ref (s.heap.size + 1), .int (Int32.ofNat len)]) (rest := [.ref a]) rfl rfl (by show 2 * 0 + (1 + 0) ≤ _; decide) (hb hbytes d45) (⟨rfl, n1, by omega, by omega, n4⟩)
  obtain ⟨rfl, q11⟩ := E11
  have hB11 := hB1.mv (X8.warmed.alike.symm.trans X11.warmed.alike) q11
  have cc5 : Steps p.tables e below (s₁.setTop (entryFrame m #[(.ref a), (.ref b), (.int (Int32.ofNat o)), (.int (Int32.ofNat len)), .null] 6)) (T11.setTop (mkF m 48 #[.val (.ref a), .val (.ref b), .val (.int (Int32.ofNat o)), .val (.int (Int32.ofNat len)), .val .null, .val (.ref (s.heap.size + 1))] [(.int 1), (.ref a)])) := g11
  obtain ⟨T13, X13, p13, bl13, sl13, st13⟩ := X11.finit hexec hown (wk W (.fieldLink "java/lang/String" 15 "java/lang/String" "coder" "B")) (Or.inr ⟨_, (wk W (.laysFinal "java/lang/String" "java/lang/String" "coder" "B"))⟩) (Or.inl ⟨rfl, hnm⟩) f2 (Or.inl rfl) hB11 (t := .byte) (by decide +kernel) rfl (g := (mkF m 48 #[.val (.ref a), .val (.ref b), .val (.int (Int32.ofNat o)), .val (.int (Int32.ofNat len)), .val .null, .val (.ref (s.heap.size + 1))] [(.int 1), (.ref a)])) rfl (rest := []) rfl (hb hbytes d48)
  have cc6 : Steps p.tables e below (s₁.setTop (entryFrame m #[(.ref a), (.ref b), (.int (Int32.ofNat o)), (.int (Int32.ofNat len)), .null] 6)) (T13.setTop (mkF m 54 #[.val (.ref a), .val (.ref b), .val (.int (Int32.ofNat o)), .val (.int (Int32.ofNat len)), .val .null, .val (.ref (s.heap.size + 1))] [(.ref (s.heap.size + 1)), (.ref a)])) := Steps.trans (cc5.trans (st13 _ (Steps.refl _))) (by
    refine XS.aloadN X13.here hexec rfl (hb hbytes d51) rfl rfl ?_
    refine XS.aload X13.here hexec rfl (hb hbytes d52) rfl rfl ?_
    exact Steps.refl _)
  obtain ⟨T15, X15, p15, bl15, sl15, st15⟩ := X13.finit hexec hown (wk W (.fieldLink "java/lang/String" 9 "java/lang/String" "value" "[B")) (Or.inr ⟨_, (wk W (.laysFinal "java/lang/String" "java/lang/String" "value" "[B"))⟩) (Or.inl ⟨rfl, hnm⟩) f1 (Or.inl rfl) bl13 (t := (.array .byte)) (by decide +kernel) rfl (g := (mkF m 54 #[.val (.ref a), .val (.ref b), .val (.int (Int32.ofNat o)), .val (.int (Int32.ofNat len)), .val .null, .val (.ref (s.heap.size + 1))] [(.ref (s.heap.size + 1)), (.ref a)])) rfl (rest := []) rfl (hb hbytes d54)
  have cc7 : Steps p.tables e below (s₁.setTop (entryFrame m #[(.ref a), (.ref b), (.int (Int32.ofNat o)), (.int (Int32.ofNat len)), .null] 6)) (T15.setTop (mkF m 57 #[.val (.ref a), .val (.ref b), .val (.int (Int32.ofNat o)), .val (.int (Int32.ofNat len)), .val .null, .val (.ref (s.heap.size + 1))] [])) := (cc6.trans (st15 _ (Steps.refl _)))
  have ap := apart (Or.inr ⟨_, (wk W (.laysFinal "java/lang/String" "java/lang/String" "value" "[B"))⟩) (Or.inr ⟨_, (wk W (.laysFinal "java/lang/String" "java/lang/String" "coder" "B"))⟩) f1 f2 (t₁ := .array .byte) (t₂ := .byte) (by decide +kernel) (by decide +kernel) (by decide)
  have al := X8.warmed.alike.symm.trans X15.warmed.alike
  have n7 : T11.heap[s.heap.size + 1]? = some N := by rw [q11]; exact n1.1
  exact ⟨T15, none, _, _, _, X15, by simp, rfl, by omega, (fun _ => rfl), ⟨rfl, _, N, bl15, ((Same.refl D _).set _ (by simp)).set _ (by simp), sl15, (Cell.slots_setSlot_ne _ ap).trans sl13, n1.keep al (p15.other hne (p13.other hne n7)), n2, by rw [al.findClass]; exact n3, n4, n5, fun y c h1 h2 => p15.other h1 (p13.other h1 (by rw [q11]; exact n6 y c h2)), by rw [p15.2.2, p13.2.2, q11]; exact z8⟩, fun fs hl => cc7.trans (X15.returnOut hexec hret (hb hbytes d57) hl)⟩
end New4w
namespace New1w
def yN : MethodName := ⟨"java/lang/String", "<init>", "([C)V"⟩
abbrev yB : ByteArray := jdk_42_method_3_code
theorem d0 : decode yB 0 = .ok (.aload_n 0, 1) := by decide +kernel
theorem d1 : decode yB 1 = .ok (.aload_n 1, 1) := by decide +kernel
theorem d2 : decode yB 2 = .ok (.iconst 0, 1) := by decide +kernel
theorem d3 : decode yB 3 = .ok (.aload_n 1, 1) := by decide +kernel
theorem d4 : decode yB 4 = .ok (.arraylength, 1) := by decide +kernel
theorem d5 : decode yB 5 = .ok (.aconst_null, 1) := by decide +kernel
theorem d6 : decode yB 6 = .ok (.invokespecial 27, 3) := by decide +kernel
theorem d9 : decode yB 9 = .ok (.return_, 1) := by decide +kernel
def site : List Cond := [New4w.tab] ++ initW "java/lang/String" 27 New4w.yN
def tab : Cond := tabOf yN yB 2 none site
def P (a : Addr) (D : Cell) (fV fC : Field) (b : Addr) (A : Cell) (z : Int32) (w : Nat) (args : Array Value) (s : State) : Prop := args = #[.ref a, .ref b] ∧ Blank "java/lang/String" a D s ∧ Found "java/lang/String" "value" "[B" fV s ∧ Found "java/lang/String" "coder" "B" fC s ∧ Ch b A s ∧ StaticIs s "java/lang/String" "COMPACT_STRINGS" "Z" (.int z) ∧ ¬ z = 0 ∧ 2 * A.slots.size ≤ 536870912 ∧ w < A.slots.size ∧ (∀ i, i < w → ¬ 255 < cv A i) ∧ 255 < cv A w ∧ U3 s
def E (a : Addr) (D : Cell) (fV fC : Field) (A : Cell) (r : Option Value) (s u : State) : Prop := GotW a D fV fC A 0 A.slots.size r s u
theorem law (l : Launch) (a : Addr) (D : Cell) (fV fC : Field) (b : Addr) (A : Cell) (z : Int32) (w : Nat) : Law l yN 2 1 5 78 yB 2 none site (P a D fV fC b A z w) (E a D fV fC A) [⟨a, fC.slot⟩, ⟨a, fV.slot⟩] 2 (A.slots.size + 2 * A.slots.size) := by
  refine Law.of_walk (plainFor_of_name (by decide +kernel)) (by decide +kernel) (by decide +kernel) (by decide) (fun _ _ h => by rw [h.1]; rfl) (fun _ U U' hal hh h => ⟨h.1, h.2.1.mv hal hh, h.2.2.1.al hal, h.2.2.2.1.al hal, h.2.2.2.2.1.mv hal hh, h.2.2.2.2.2.1.there hal hh, h.2.2.2.2.2.2.1, h.2.2.2.2.2.2.2.1, h.2.2.2.2.2.2.2.2.1, h.2.2.2.2.2.2.2.2.2.1, h.2.2.2.2.2.2.2.2.2.2.1, h.2.2.2.2.2.2.2.2.2.2.2.mv hal hh⟩) (fun r U U' V V' h1 hal h2 h => GotW.mv r U U' V V' h1 hal h2 h) ?_
  intro p e s m args below meth c s₁ X0 hexec hbytes hml hret hlk hnm hown hh0 W hP
  obtain ⟨rfl, hB, f1, f2, hA, s1, hz, l2, hw, hp, hwd, u3⟩ := hP
  have c0 : Steps p.tables e below (s₁.setTop (entryFrame m #[(.ref a), (.ref b)] 2)) (s₁.setTop (mkF m 0 #[.val (.ref a), .val (.ref b)] [])) := entry rfl
  have cc1 : Steps p.tables e below (s₁.setTop (entryFrame m #[(.ref a), (.ref b)] 2)) (s₁.setTop (mkF m 6 #[.val (.ref a), .val (.ref b)] [.null, (.int (Int32.ofNat A.slots.size)), (.int 0), (.ref b), (.ref a)])) := Steps.trans c0 (by
    refine XS.aloadN X0.here hexec rfl (hb hbytes d0) rfl rfl ?_
    refine XS.aloadN X0.here hexec rfl (hb hbytes d1) rfl rfl ?_
    refine iconstV X0.here hexec rfl 0 (hb hbytes d2) (by decide) ?_
    refine XS.aloadN X0.here hexec rfl (hb hbytes d3) rfl rfl ?_
    refine X0.alen hexec (hA.1.mv X0.warmed.alike hh0) rfl rfl (hb hbytes d4) ?_
    refine XS.aconstNull X0.here hexec rfl (hb hbytes d5) ?_
    exact Steps.refl _)
  obtain ⟨v3, T3, X3, E3, g3⟩ := X0.callN hexec (New4w.law l a D fV fC b A z 0 A.slots.size w) rfl hown (wks W (initW "java/lang/String" 27 New4w.yN)) (wk W New4w.tab) (W := 0) (Nat.le_of_ble_eq_true rfl) (Nat.le_of_ble_eq_true rfl) (Nat.le_refl _) (by show 0 + (A.slots.size + 2 * A.slots.size) ≤ A.slots.size + 2 * A.slots.size; omega) (g := (mkF m 6 #[.val (.ref a), .val (.ref b)] [.null, (.int (Int32.ofNat A.slots.size)), (.int 0), (.ref b), (.ref a)])) rfl (by rw [hml]; rfl) cc1 (argsL := [.ref b, .int (Int32.ofNat 0), .int (Int32.ofNat A.slots.size), .null]) (rest := []) rfl rfl (by show 2 * 0 + 0 ≤ _; decide) (hb hbytes d6) (⟨rfl, hB.mv X0.warmed.alike hh0, f1.al X0.warmed.alike, f2.al X0.warmed.alike, hA.mv X0.warmed.alike hh0, s1.there X0.warmed.alike hh0, hz, by omega, l2, hw, fun i hi => by rw [Nat.zero_add]; exact hp i hi, by rw [Nat.zero_add]; exact hwd, u3.mv X0.warmed.alike hh0⟩)
  have e0 := GotW.mv _ s₁ s _ _ hh0.symm (Vm.Alike.refl _) rfl E3
  obtain rfl := e0.1
  have cc2 : Steps p.tables e below (s₁.setTop (entryFrame m #[(.ref a), (.ref b)] 2)) (T3.setTop (mkF m 9 #[.val (.ref a), .val (.ref b)] [])) := g3
  exact ⟨T3, none, _, _, _, X3, by simp, by omega, by omega, (fun _ => rfl), e0, fun fs hl => cc2.trans (X3.returnOut hexec hret (hb hbytes d9) hl)⟩
end New1w
end StrChars
end Jvm.Pilot.@@N@@
namespace Jvm.Pilot.@@N@@
namespace StrChars.Road
open Jvm Sem ClassFile Op Lib Jvm.Stand Jvm.Free Jvm.Free.XT
open Jvm.Lib.Cold (StaticIs)
/-- every table word that New1w's law asks, flat -/
abbrev wordsW : List Jvm.Cond := [.code New1w.yN New1w.yB 2 none, .initialized ST, .methodLink ST 27 New4w.yN, .instanceMethod New4w.yN,
  .code New4w.yN New4w.yB 6 none, .fieldLink ST 38 ST "COMPACT_STRINGS" "Z", .laysFinal ST ST "value" "[B", .fieldLink ST 9 ST "value" "[B", .laysFinal ST ST "coder" "B", .fieldLink ST 15 ST "coder" "B",
  .methodLink ST 1 Lib.objectInit, .instanceMethod Lib.objectInit, .code Lib.objectInit ⟨#[0xb1]⟩ 1 none, .methodLink ST 177 Cmp3w.yN, .static Cmp3w.yN, .methodLink ST 47 CodW.yN, .static CodW.yN,
  .code Cmp3w.yN Cmp3w.yB 6 (some (.array .byte)), .initialized U16, .arrayClass .byte, .methodLink U16 115 Cmp5w.yN, .static Cmp5w.yN, .code Cmp5w.yN Cmp5w.yB 7 (some .int), .code CodW.yN CodW.yB 2 (some .byte),
  .methodLink U16 119 ToB.yN, .static ToB.yN, .code ToB.yN ToB.yB 5 (some (.array .byte)), .methodLink U16 107 NBF.yN, .static NBF.yN, .code NBF.yN NBF.yB 1 (some (.array .byte)), .methodLink U16 11 NBL.yN, .static NBL.yN, .code NBL.yN NBL.yB 1 (some .int), .constant U16 20 1073741823,
  .methodLink U16 111 PutC.yN, .static PutC.yN, .code PutC.yN PutC.yB 3 none, .methodLink U16 71 GetC.yN, .static GetC.yN, .code GetC.yN GetC.yB 2 (some .char),
  .fieldLink U16 44 U16 "$assertionsDisabled" "Z", .fieldLink U16 59 U16 "HI_BYTE_SHIFT" "I", .fieldLink U16 63 U16 "LO_BYTE_SHIFT" "I"]
theorem consW {a : Array Value} {s : State} {c : Jvm.Cond} {L : List Jvm.Cond} (h0 : c.before a s = true) (h : ∀ w ∈ L, w.before a s = true) : ∀ w ∈ c :: L, w.before a s = true := fun w hw => (List.mem_cons.mp hw).elim (fun e => e ▸ h0) (h w)
theorem tabW_of {a : Array Value} {s : State} (h : ∀ w ∈ wordsW, w.before a s = true) : New1w.tab.before a s = true := by
  have h5 : Cmp5w.tab.before a s = true := unparts (wk h (.code Cmp5w.yN Cmp5w.yB 7 (some .int))) (wks h (.initialized Cmp5w.yN.cls :: Cmp5w.site))
  have hc : CodW.tab.before a s = true := unparts (wk h (.code CodW.yN CodW.yB 2 (some .byte))) (wks h (.initialized CodW.yN.cls :: CodW.site))
  have hl : NBL.tab.before a s = true := unparts (wk h (.code NBL.yN NBL.yB 1 (some .int))) (wks h (.initialized NBL.yN.cls :: NBL.site))
  have hp : PutC.tab.before a s = true := unparts (wk h (.code PutC.yN PutC.yB 3 none)) (wks h (.initialized PutC.yN.cls :: PutC.site))
  have hg : GetC.tab.before a s = true := unparts (wk h (.code GetC.yN GetC.yB 2 (some .char))) (wks h (.initialized GetC.yN.cls :: GetC.site))
  have q1 := consW hl h
  have hf : NBF.tab.before a s = true := unparts (wk q1 (.code NBF.yN NBF.yB 1 (some (.array .byte)))) (wks q1 (.initialized NBF.yN.cls :: NBF.site))
  have q2 := consW hf (consW hp h)
  have ht : ToB.tab.before a s = true := unparts (wk q2 (.code ToB.yN ToB.yB 5 (some (.array .byte)))) (wks q2 (.initialized ToB.yN.cls :: ToB.site))
  have q3 := consW h5 (consW ht (consW hg h))
  have h3 : Cmp3w.tab.before a s = true := unparts (wk q3 (.code Cmp3w.yN Cmp3w.yB 6 (some (.array .byte)))) (wks q3 (.initialized Cmp3w.yN.cls :: Cmp3w.site))
  have q4 := consW h3 (consW hc h)
  have h4 : New4w.tab.before a s = true := unparts (wk q4 (.code New4w.yN New4w.yB 6 none)) (wks q4 (.initialized New4w.yN.cls :: New4w.site))
  have q5 := consW h4 h
  exact unparts (wk q5 (.code New1w.yN New1w.yB 2 none)) (wks q5 (.initialized New1w.yN.cls :: New1w.site))
theorem movedW {Z s : State} {a0 args : Array Value} (hZ : Z.Warmed39 s.vm) (hw : ∀ d ∈ wordsW, d.before a0 Z = true) : ∀ d ∈ wordsW, d.before args s = true := fun d hd => by
  have q := hw d hd
  have t : ∀ d ∈ wordsW, d = .arrayClass .byte ∨ (d.onTables && d.keepsFace) = true := by decide +kernel
  rcases t d hd with rfl | t
  · exact RoadKit.mvA hZ q
  · exact RoadKit.mv hZ q t
theorem sta_S {Z U : State} (al : Z.vm.Alike U.vm) {C n d : String} {v : Value} (S : RoadKit.Sta Z U.heap C n d v) : StS U C n d v := by
  obtain ⟨cfS, iS, kS, fS, st, cS, t1, t2, t3, t4, t5, t6, t7⟩ := S
  exact StS.mv (s := { Z with heap := U.heap }) ⟨cfS, iS, kS, fS, st, cS, t1, t2, t3, t4, t5, t6, t7⟩ al rfl
/-- the three statics, over the tables of the start -/
def U3Z (Z : State) (h : Heap) : Prop := RoadKit.Sta Z h U16 "$assertionsDisabled" "Z" (.int 1) ∧ RoadKit.Sta Z h U16 "HI_BYTE_SHIFT" "I" (.int 0) ∧ RoadKit.Sta Z h U16 "LO_BYTE_SHIFT" "I" (.int 8)
theorem U3Z.ext {Z : State} {h h' : Heap} (F : U3Z Z h) (E : RoadKit.Ext h h') : U3Z Z h' := ⟨F.1.ext E, F.2.1.ext E, F.2.2.ext E⟩
theorem U3Z.u3 {Z U : State} (al : Z.vm.Alike U.vm) (F : U3Z Z U.heap) : U3 U := ⟨sta_S al F.1, sta_S al F.2.1, sta_S al F.2.2⟩
/-- WHAT COMES BACK: x is a String of the chars cs, in either coding -/
def QT (Z : State) (x : Addr) (cs : List Int32) (h : Heap) (n0 : Nat) (v : Option Value) (h' : Heap) (L : List Loc) : Prop := v = none ∧ RoadKit.Fr n0 L ∧ RoadKit.Keep h h' [x] ∧ RoadKit.Exa Z h' x ST ∧
  ∃ (cd N2 : Int32) (vs : List Value) (t : Addr) (kb : ClassId), CodA cs cd N2 vs ∧ RoadKit.Fld Z h' x ST "coder" "B" (.int cd) ∧ n0 ≤ t ∧ h.size ≤ t ∧ ¬ t = x ∧ RoadKit.Fld Z h' x ST "value" "[B" (.ref t) ∧ RoadKit.Arv Z h' t kb .byte N2 vs (.int 0)
theorem first_wide : ∀ (cs : List Int32), (∃ c ∈ cs, 255 < c) → ∃ w, w < cs.length ∧ 255 < cs.getD w 0 ∧ ∀ i, i < w → ¬ 255 < cs.getD i 0
  | [], ⟨_, h, _⟩ => by cases h
  | c :: cs, h => by
    by_cases hc : 255 < c
    · exact ⟨0, by simp, by simpa using hc, fun i hi => absurd hi (Nat.not_lt_zero i)⟩
    · have h' : ∃ d ∈ cs, 255 < d := by
        obtain ⟨d, hd, hw⟩ := h
        rcases List.mem_cons.mp hd with rfl | hd
        · exact absurd hw hc
        · exact ⟨d, hd, hw⟩
      obtain ⟨w, h1, h2, h3⟩ := first_wide cs h'
      refine ⟨w + 1, by simpa using h1, by simpa using h2, fun i hi => ?_⟩
      cases i with
      | zero => simpa using hc
      | succ i => simpa using h3 i (by omega)
theorem wb_wide (A : Cell) (cs : List Int32) (hcv : ∀ i, i < cs.length → cv A i = cs.getD i 0) (d : Value) : ∀ j, j < 2 * cs.length → wb A 0 j = (wideBytes cs).getD j d := fun j hj => by
  obtain ⟨i, hi | hi⟩ : ∃ i, j = 2 * i ∨ j = 2 * i + 1 := ⟨j / 2, by omega⟩
  · subst hi
    rw [wb_lo, Nat.zero_add, hcv i (by omega), wide_lo d cs i (by omega)]
  · subst hi
    rw [wb_hi, Nat.zero_add, hcv i (by omega), wide_hi d cs i (by omega)]
theorem fits_wide (cs : List Int32) : ∀ j, fits .byte ((wideBytes cs).getD j (.int 0)) = true := fun j => by
  by_cases hj : j < 2 * cs.length
  · obtain ⟨i, hi | hi⟩ : ∃ i, j = 2 * i ∨ j = 2 * i + 1 := ⟨j / 2, by omega⟩
    · subst hi; rw [wide_lo _ cs i (by omega)]; exact fits_lo8 _
    · subst hi; rw [wide_hi _ cs i (by omega)]; exact fits_lo8 _
  · have hl : ∀ l : List Int32, (wideBytes l).length = 2 * l.length := fun l => by
      induction l with
      | nil => rfl
      | cons c l ih => simp only [wideBytes, List.length_cons, ih]; omega
    rw [List.getD_eq_getElem?_getD, List.getElem?_eq_none (by rw [hl]; omega)]; rfl
/-- **new String(chars) AT A CALL, SOME CHAR ABOVE 255** -/
theorem backW {p : Program} {l : Launch} {e : Env} {R : Room} {s : State} {args : Array Value} {below : List Frame} {len W : Nat} {Z : State} {a0 : Array Value} {h : Heap} (hZ : Z.Warmed39 s.vm) (hw : ∀ d ∈ wordsW, d.before a0 Z = true) {kI : Nat} (wi : (Jvm.Cond.instantiable ST kI).before a0 Z = true)
    {x b : Addr} {kC : ClassId} {cs : List Int32} {d v0 c0 : Value} {z N : Int32} {n n0 : Nat} (hx0 : n0 ≤ x) (hh0 : n0 ≤ h.size) (E : RoadKit.Exa Z h x ST) (V : RoadKit.Fld Z h x ST "value" "[B" v0) (C : RoadKit.Fld Z h x ST "coder" "B" c0) (K : RoadKit.Arv Z h b kC .char N (cs.map Value.int) d) (S : RoadKit.Sta Z h ST "COMPACT_STRINGS" "Z" (.int z)) (hz : ¬ z = 0) (S3 : U3Z Z h)
    (hn : cs.length = n) (hN : N = Int32.ofNat n) (l2 : n ≤ 4000) (hp : ∃ c ∈ cs, 255 < c) (hfr : 6 ≤ R.frames) (hlo : W + 91 ≤ R.locals) :
    Back l R p e below s args (⟨"java/lang/String", "<init>", "([C)V"⟩ : MethodName) len W (fun P a => a = #[.ref x, .ref b] ∧ P.U.heap = h ∧ P.cells + 2 ≤ R.cells ∧ P.slots + 3 * n ≤ R.slots)
      (fun P _ v B => ∃ L, QT Z x cs h n0 v B.U.heap L ∧ B.locs = P.locs ++ L ∧ B.cells = P.cells + 2 ∧ B.slots = P.slots + 3 * n) := by
  subst hn hN
  intro m meth c P g ig mk a X hg hsize hdg hW hn hp'
  obtain ⟨rfl, rfl, r1, r2⟩ := hp'
  have al : Z.vm.Alike P.U.vm := hZ.alike.trans X.warmed.alike
  obtain ⟨D, cfV, kV, iV, fV, hD, gV, stV, knV, obV, asV, slV⟩ := id V
  obtain ⟨D', cfC, kC', iC, fC, hD', gC, stC, -, -, asC, slC⟩ := id C
  cases hD.symm.trans hD'
  obtain ⟨D2, kD, e1, e2, e3, e4, e5⟩ := id E
  cases hD.symm.trans e1
  obtain ⟨c2, k2, i1, i2, i3, -⟩ := Cond.instantiable_spec wi
  cases e2.symm.trans i1
  cases e3.symm.trans i2
  obtain ⟨kU, u1, u2⟩ := al.2.2 _ _ e3
  have hB : Blank ST x D P.U := ⟨hD, ⟨knV, fun q hq => by rw [hq] at obV; cases obV⟩, by rw [al.findClass]; exact e2, kU, u1, by rw [u2]; exact i3, by rw [u2]; exact e5 i3⟩
  have F1 : Found ST "value" "[B" fV P.U := ⟨SBG.found_only al ⟨cfV, kV, iV, gV⟩, stV⟩
  have F2 : Found ST "coder" "B" fC P.U := ⟨SBG.found_only al ⟨cfC, kC', iC, gC⟩, stC⟩
  obtain ⟨A, K1, K2, K3, K4, K5, K6⟩ := K
  rw [n32 (by omega)] at K3
  have hat : ∀ (i : Nat) (hi : i < cs.length), A.slots[i]? = some (.int cs[i]) := fun i hi => by rw [K5 i (by omega)]; simp [List.getD_eq_getElem?_getD, hi]
  have hcv : ∀ (i : Nat), i < cs.length → cv A i = cs.getD i 0 := fun i hi => by unfold cv; rw [hat i hi]; simp [List.getD_eq_getElem?_getD, hi]
  have hty : Typed .char A := fun i v hv => by
    have hi : i < A.slots.size := (Array.getElem?_eq_some_iff.mp hv).1
    have q := K5 i hi
    rw [hv] at q
    rw [Option.some.inj q]
    exact K6 i hi
  have hA : Ch b A P.U := ⟨⟨K1.1, State.isArrayOf_alike al K1.2.1, K1.2.2, by omega⟩, hty⟩
  have hS : StaticIs P.U ST "COMPACT_STRINGS" "Z" (.int z) := by
    obtain ⟨cfS, iS, kS, fS, st, cS, t1, t2, t3, t4, t5, t6, t7⟩ := S
    exact StaticIs.there (s := { Z with heap := P.U.heap }) ⟨cfS, iS, kS, fS, st, cS, t1, t2, t3, t4, t5, (fun q => by rw [q] at t6; cases t6), t7⟩ al rfl
  obtain ⟨w, w1, w2, w3⟩ := first_wide cs hp
  obtain ⟨v, B, X', ⟨⟨hv, E', V', q1, q2, q3, q4, q5, q6, q7, q8, q9, q10, q11⟩, hl, hc, hs⟩, st⟩ := (New1w.law l x D fV fC b A z w).pays (tabW_of (movedW hZ hw)) hfr (by omega) m meth c P g ig mk _ X hg hsize hdg hW hn ⟨r1, by rw [K3]; omega, rfl, hB, F1, F2, hA, hS, hz, by omega, by omega, fun i hi => by rw [hcv i (by omega)]; exact w3 i hi, by rw [hcv w (by omega)]; exact w2, S3.u3 al⟩
  have al' : Z.vm.Alike B.U.vm := hZ.alike.trans X'.warmed.alike
  have hsz : E'.slots.size = D.slots.size := by
    obtain ⟨-, -, -, kB, w1, w2, w3⟩ := q1
    obtain ⟨kB', y1, y2⟩ := al'.2.2 _ _ e3
    rw [q2.2.1] at w1
    cases w1.symm.trans y1
    rw [w3, e5 i3, y2]
  refine ⟨v, B, X', ⟨_, ⟨hv, ?_, ⟨by omega, fun y cy hy hn' => q10 y cy (by simpa using hn') hy, fun y cy hy => ?_⟩, ⟨E', _, q1.1, by rw [q2.2.1]; exact e2, by rw [q2.2.1]; exact e3, by rw [q2.1]; exact obV, fun _ => by rw [hsz]; exact e5 i3⟩,
    1, Int32.ofNat (2 * cs.length), wideBytes cs, P.U.heap.size + 1, V'.cls, Or.inr ⟨rfl, rfl, rfl, hp⟩, ⟨E', cfC, kC', iC, fC, q1.1, gC, stC, by rw [q2.1]; exact knV, by rw [q2.1]; exact obV, by rw [q2.2.1]; exact asC, q4⟩, by omega, by omega, ?_,
    ⟨E', cfV, kV, iV, fV, q1.1, gV, stV, by rw [q2.1]; exact knV, by rw [q2.1]; exact obV, by rw [q2.2.1]; exact asV, q3⟩, ⟨V', ⟨q5.1, State.isArrayOf_alike al'.symm q5.2.1, q5.2.2.1⟩, rfl, by rw [q8, K3, n32 (by omega)], Int32.ofNat_not_neg (by omega), fun j hj => ?_, fun j hj => fits_wide cs j⟩⟩, hl, hc, by rw [hs, K3]; omega⟩, st⟩
  · intro y hy
    simp only [List.mem_cons, List.not_mem_nil, or_false] at hy
    rcases hy with rfl | rfl <;> exact hx0
  · by_cases q : y = x
    · subst q
      cases hD.symm.trans hy
      exact ⟨E', q1.1, q2.2.1, q2.1, hsz⟩
    · exact ⟨cy, q10 y cy q hy, rfl, rfl, rfl⟩
  · exact fun e => absurd (Array.getElem?_eq_some_iff.mp hD).1 (by rw [← e]; exact Nat.not_lt.mpr (Nat.le_succ _))
  · rw [q9 j (by omega), wb_wide A cs hcv (.int 0) j (by omega)]
/-- **new String(chars) AT A CALL, ANY CHARS**, not empty -/
theorem backT {p : Program} {l : Launch} {e : Env} {R : Room} {s : State} {args : Array Value} {below : List Frame} {len W : Nat} {Z : State} {a0 : Array Value} {h : Heap} (hZ : Z.Warmed39 s.vm) (hw : ∀ d ∈ words, d.before a0 Z = true) (hww : ∀ d ∈ wordsW, d.before a0 Z = true) {kI : Nat} (wi : (Jvm.Cond.instantiable ST kI).before a0 Z = true)
    {x b : Addr} {kC : ClassId} {cs : List Int32} {d v0 c0 : Value} {z N : Int32} {n n0 : Nat} (hx0 : n0 ≤ x) (hh0 : n0 ≤ h.size) (E : RoadKit.Exa Z h x ST) (V : RoadKit.Fld Z h x ST "value" "[B" v0) (C : RoadKit.Fld Z h x ST "coder" "B" c0) (K : RoadKit.Arv Z h b kC .char N (cs.map Value.int) d) (S : RoadKit.Sta Z h ST "COMPACT_STRINGS" "Z" (.int z)) (hz : ¬ z = 0) (S3 : U3Z Z h)
    (hn : cs.length = n) (hN : N = Int32.ofNat n) (l0 : 0 < n) (l2 : n ≤ 4000) (hp : ∀ c ∈ cs, ¬ c < 0) (hfr : 6 ≤ R.frames) (hlo : W + 91 ≤ R.locals) :
    Back l R p e below s args (⟨"java/lang/String", "<init>", "([C)V"⟩ : MethodName) len W (fun P a => a = #[.ref x, .ref b] ∧ P.U.heap = h ∧ P.cells + 2 ≤ R.cells ∧ P.slots + 3 * n ≤ R.slots)
      (fun P _ v B => ∃ L, QT Z x cs h n0 v B.U.heap L ∧ B.locs = P.locs ++ L ∧ B.cells = P.cells + 2 ∧ B.slots = P.slots + 3 * n) := by
  by_cases hwide : ∃ c ∈ cs, 255 < c
  · exact backW hZ hww wi hx0 hh0 E V C K S hz S3 hn hN l2 hwide hfr hlo
  · have hlat : ∀ c ∈ cs, ¬ (255 : Int32) < c := fun c hc q => hwide ⟨c, hc, q⟩
    have B0 := backV (p := p) (l := l) (e := e) (R := R) (s := s) (args := args) (below := below) (len := len) (W := W) hZ hw wi (bs := cs.map (fun c => c.toInt8.toInt32)) hx0 hh0 E V C K S hz hn hN l0 l2 (fun c hc => ⟨hp c hc, hlat c hc⟩) rfl (by omega) (by omega)
    intro m meth c P g ig mk a X hg hsize hdg hW hn' hp'
    obtain ⟨v, B, X', ⟨L, ⟨q1, q2, q3, q4, q5, t, kb, q6, q7, q8, q9, q10⟩, hl, hc, hs⟩, st⟩ := B0 m meth c P g ig mk a X hg hsize hdg hW hn' ⟨hp'.1, hp'.2.1, by omega, by omega⟩
    subst hn hN
    refine ⟨v, ⟨B.U, B.locs, P.cells + 2, P.slots + 3 * cs.length⟩, X'.wide (fun _ hx _ => hx) (by show B.cells ≤ P.cells + 2; omega) (by show B.slots ≤ P.slots + 3 * cs.length; omega), ⟨L, ⟨q1, q2, q3, q4, 0, _, _, t, kb, ?_, q5, q6, q7, q8, q9, q10⟩, hl, rfl, rfl⟩, st⟩
    exact Or.inl ⟨rfl, rfl, by rw [List.map_map]; rfl, hlat⟩
end StrChars.Road
end Jvm.Pilot.@@N@@
namespace Jvm.Pilot.@@N@@
open Jvm Jvm.ClassFile Sem Op Lib Jvm.Free Jvm.Free.XT Jvm.Stand Jvm.LawKit Jvm.RoadKit Bundle Jvm.Pilot.@@N@@.Jvm.D
theorem own_d {c : Code} {code : ByteArray} (h : c.code = code) {pc : Nat} {r : Except DecodeError (Instr × Nat)} (h2 : decode code pc = r) : decode c.code pc = r := h ▸ h2
theorem own_w {Z : State} {a0 : Array Value} (hw : ∀ d ∈ tables_1, d.before a0 Z = true) (i : Nat) {d : Jvm.Cond} (h : tables_1[i]? = some d) : d.before a0 Z = true := hw _ (List.mem_of_getElem? h)
abbrev oS (p : Program) (e : Env) (b : List Frame) (S T : State) (g : JFrame) : Prop := Steps p.tables e b S (T.setTop g)
abbrev sI (x : Int32) : Slot := .val (.int x)
abbrev sR (x : Addr) : Slot := .val (.ref x)
abbrev rM0 : Room := { frames := 1, cells := 4, slots := 8, locals := 12 }
abbrev kM0 : ByteArray := jdk_42_method_149_code
abbrev yM0 : MethodName := ⟨"java/lang/String", "<init>", "([CIILjava/lang/Void;)V"⟩
theorem own_pn0 : plainName "java/lang/String" = true := by first | (simp [plainName, overriddenIn]; done) | decide +kernel
abbrev rM1 : Room := { frames := 2, cells := 4, slots := 8, locals := 29 }
theorem own_pd0 : parseMethodDescriptor "([CIILjava/lang/Void;)V" = some ⟨[(.array .char), .int, .int, (.object "java/lang/Void")], none⟩ := by decide +kernel
abbrev kM1 : ByteArray := jdk_42_method_3_code
abbrev yM1 : MethodName := ⟨"java/lang/String", "<init>", "([C)V"⟩
abbrev rM2 : Room := { frames := 0, cells := 0, slots := 0, locals := 0 }
abbrev kM2 : ByteArray := jdk_42_method_152_code
abbrev yM2 : MethodName := ⟨"java/lang/String", "coder", "()B"⟩
abbrev kM3 : ByteArray := jdk_68_method_68_code
abbrev yM3 : MethodName := ⟨"java/lang/AbstractStringBuilder", "isLatin1", "()Z"⟩
theorem own_pn1 : plainName "java/lang/AbstractStringBuilder" = true := by first | (simp [plainName, overriddenIn]; done) | decide +kernel
abbrev rM3 : Room := { frames := 1, cells := 1, slots := 16, locals := 12 }
abbrev kM4 : ByteArray := jdk_68_method_2_code
abbrev yM4 : MethodName := ⟨"java/lang/AbstractStringBuilder", "<init>", "(I)V"⟩
abbrev rM4 : Room := { frames := 2, cells := 1, slots := 16, locals := 25 }
theorem own_pd1 : parseMethodDescriptor "(I)V" = some ⟨[.int], none⟩ := by decide +kernel
abbrev kM5 : ByteArray := jdk_67_method_1_code
abbrev yM5 : MethodName := ⟨"java/lang/StringBuilder", "<init>", "()V"⟩
theorem own_pn2 : plainName "java/lang/StringBuilder" = true := by first | (simp [plainName, overriddenIn]; done) | decide +kernel
abbrev kM6 : ByteArray := jdk_68_method_9_code
abbrev yM6 : MethodName := ⟨"java/lang/AbstractStringBuilder", "ensureCapacityInternal", "(I)V"⟩
abbrev kM7 : ByteArray := jdk_52_method_3_code
abbrev yM7 : MethodName := ⟨"java/lang/StringUTF16", "newBytesLength", "(I)I"⟩
theorem own_pn3 : plainName "java/lang/StringUTF16" = true := by first | (simp [plainName, overriddenIn]; done) | decide +kernel
abbrev rM5 : Room := { frames := 1, cells := 1, slots := 32, locals := 13 }
theorem own_pd2 : parseMethodDescriptor "(I)I" = some ⟨[.int], some .int⟩ := by decide +kernel
abbrev kM8 : ByteArray := jdk_52_method_2_code
abbrev yM8 : MethodName := ⟨"java/lang/StringUTF16", "newBytesFor", "(I)[B"⟩
abbrev kM9 : ByteArray := jdk_52_method_6_code
abbrev yM9 : MethodName := ⟨"java/lang/StringUTF16", "length", "([B)I"⟩
abbrev kM10 : ByteArray := jdk_41_method_13_code
abbrev yM10 : MethodName := ⟨"jdk/internal/util/Preconditions", "checkFromIndexSize", "(IIILjava/util/function/BiFunction;)I"⟩
theorem own_pn4 : plainName "jdk/internal/util/Preconditions" = true := by first | (simp [plainName, overriddenIn]; done) | decide +kernel
abbrev rM6 : Room := { frames := 1, cells := 0, slots := 0, locals := 16 }
theorem own_pd3 : parseMethodDescriptor "(IIILjava/util/function/BiFunction;)I" = some ⟨[.int, .int, .int, (.object "java/util/function/BiFunction")], some .int⟩ := by decide +kernel
abbrev kM11 : ByteArray := jdk_42_method_157_code
abbrev yM11 : MethodName := ⟨"java/lang/String", "checkBoundsOffCount", "(III)I"⟩
abbrev rM7 : Room := { frames := 2, cells := 0, slots := 0, locals := 32 }
theorem own_pd4 : parseMethodDescriptor "([B)I" = some ⟨[(.array .byte)], some .int⟩ := by decide +kernel
theorem own_pd5 : parseMethodDescriptor "(III)I" = some ⟨[.int, .int, .int], some .int⟩ := by decide +kernel
abbrev kM12 : ByteArray := jdk_52_method_94_code
abbrev yM12 : MethodName := ⟨"java/lang/StringUTF16", "checkBoundsOffCount", "(II[B)V"⟩
abbrev kM13 : ByteArray := jdk_52_method_4_code
abbrev yM13 : MethodName := ⟨"java/lang/StringUTF16", "putChar", "([BII)V"⟩
abbrev rM8 : Room := { frames := 3, cells := 0, slots := 0, locals := 60 }
theorem own_pd6 : parseMethodDescriptor "(II[B)V" = some ⟨[.int, .int, (.array .byte)], none⟩ := by decide +kernel
theorem own_pd7 : parseMethodDescriptor "([BII)V" = some ⟨[(.array .byte), .int, .int], none⟩ := by decide +kernel
abbrev kM14 : ByteArray := jdk_52_method_86_code
abbrev yM14 : MethodName := ⟨"java/lang/StringUTF16", "inflate", "([BI[BII)V"⟩
abbrev rM9 : Room := { frames := 4, cells := 0, slots := 0, locals := 80 }
theorem own_pd8 : parseMethodDescriptor "([BI[BII)V" = some ⟨[(.array .byte), .int, (.array .byte), .int, .int], none⟩ := by decide +kernel
abbrev kM15 : ByteArray := jdk_43_method_50_code
abbrev yM15 : MethodName := ⟨"java/lang/StringLatin1", "inflate", "([BI[BII)V"⟩
theorem own_pn5 : plainName "java/lang/StringLatin1" = true := by first | (simp [plainName, overriddenIn]; done) | decide +kernel
abbrev rM10 : Room := { frames := 5, cells := 1, slots := 32, locals := 100 }
theorem own_pd9 : parseMethodDescriptor "()Z" = some ⟨[], some .boolean⟩ := by decide +kernel
theorem own_pd10 : parseMethodDescriptor "(I)[B" = some ⟨[.int], some (.array .byte)⟩ := by decide +kernel
abbrev kM16 : ByteArray := jdk_68_method_11_code
abbrev yM16 : MethodName := ⟨"java/lang/AbstractStringBuilder", "inflate", "()V"⟩
abbrev rM11 : Room := { frames := 1, cells := 0, slots := 0, locals := 14 }
abbrev rM12 : Room := { frames := 2, cells := 0, slots := 0, locals := 30 }
theorem own_pd11 : parseMethodDescriptor "()B" = some ⟨[], some .byte⟩ := by decide +kernel
abbrev kM17 : ByteArray := jdk_68_method_71_code
abbrev yM17 : MethodName := ⟨"java/lang/AbstractStringBuilder", "inflateIfNeededFor", "(Ljava/lang/String;)V"⟩
theorem own_pd12 : parseMethodDescriptor "()V" = some ⟨[], none⟩ := by decide +kernel
abbrev rM13 : Room := { frames := 6, cells := 1, slots := 32, locals := 118 }
abbrev rM14 : Room := { frames := 1, cells := 0, slots := 0, locals := 40 }
abbrev kM18 : ByteArray := jdk_42_method_147_code
abbrev yM18 : MethodName := ⟨"java/lang/String", "getBytes", "([BIB)V"⟩
abbrev rM15 : Room := { frames := 5, cells := 0, slots := 0, locals := 100 }
abbrev rM16 : Room := { frames := 7, cells := 0, slots := 0, locals := 140 }
theorem own_pd13 : parseMethodDescriptor "(Ljava/lang/String;)V" = some ⟨[(.object "java/lang/String")], none⟩ := by decide +kernel
theorem own_pd14 : parseMethodDescriptor "([BIB)V" = some ⟨[(.array .byte), .int, .byte], none⟩ := by decide +kernel
abbrev kM19 : ByteArray := jdk_68_method_73_code
abbrev yM19 : MethodName := ⟨"java/lang/AbstractStringBuilder", "putStringAt", "(ILjava/lang/String;)V"⟩
abbrev rM17 : Room := { frames := 8, cells := 0, slots := 0, locals := 158 }
abbrev yM20 : MethodName := ⟨"java/lang/String", "length", "()I"⟩
theorem own_pd15 : parseMethodDescriptor "()I" = some ⟨[], some .int⟩ := by decide +kernel
theorem own_pd16 : parseMethodDescriptor "(ILjava/lang/String;)V" = some ⟨[.int, (.object "java/lang/String")], none⟩ := by decide +kernel
abbrev kM20 : ByteArray := jdk_68_method_22_code
abbrev yM21 : MethodName := ⟨"java/lang/AbstractStringBuilder", "append", "(Ljava/lang/String;)Ljava/lang/AbstractStringBuilder;"⟩
abbrev rM18 : Room := { frames := 9, cells := 0, slots := 0, locals := 175 }
theorem own_pd17 : parseMethodDescriptor "(Ljava/lang/String;)Ljava/lang/AbstractStringBuilder;" = some ⟨[(.object "java/lang/String")], some (.object "java/lang/AbstractStringBuilder")⟩ := by decide +kernel
abbrev kM21 : ByteArray := jdk_67_method_7_code
abbrev yM22 : MethodName := ⟨"java/lang/StringBuilder", "append", "(Ljava/lang/String;)Ljava/lang/StringBuilder;"⟩
abbrev rM19 : Room := { frames := 7, cells := 1, slots := 32, locals := 140 }
abbrev rM20 : Room := { frames := 8, cells := 1, slots := 32, locals := 158 }
abbrev rM21 : Room := { frames := 9, cells := 1, slots := 32, locals := 175 }
abbrev kM22 : ByteArray := jdk_68_method_64_code
abbrev yM23 : MethodName := ⟨"java/lang/AbstractStringBuilder", "getValue", "()[B"⟩
abbrev kM23 : ByteArray := jdk_68_method_6_code
abbrev yM24 : MethodName := ⟨"java/lang/AbstractStringBuilder", "length", "()I"⟩
abbrev rM22 : Room := { frames := 1, cells := 0, slots := 0, locals := 12 }
abbrev kM24 : ByteArray := jdk_67_method_93_code
abbrev yM25 : MethodName := ⟨"java/lang/StringBuilder", "length", "()I"⟩
abbrev kM25 : ByteArray := jdk_65_method_131_code
abbrev yM26 : MethodName := ⟨"java/util/Arrays", "checkLength", "(II)V"⟩
theorem own_pn6 : plainName "java/util/Arrays" = true := by first | (simp [plainName, overriddenIn]; done) | decide +kernel
abbrev kM26 : ByteArray := jdk_29_method_69_code
abbrev yM27 : MethodName := ⟨"java/lang/Math", "min", "(II)I"⟩
abbrev rM23 : Room := { frames := 1, cells := 1, slots := 16, locals := 40 }
theorem own_pd18 : parseMethodDescriptor "(II)V" = some ⟨[.int, .int], none⟩ := by decide +kernel
theorem own_pd19 : parseMethodDescriptor "(II)I" = some ⟨[.int, .int], some .int⟩ := by decide +kernel
abbrev kM27 : ByteArray := jdk_65_method_133_code
abbrev yM28 : MethodName := ⟨"java/util/Arrays", "copyOfRangeByte", "([BII)[B"⟩
abbrev rM24 : Room := { frames := 2, cells := 1, slots := 16, locals := 56 }
theorem own_pd20 : parseMethodDescriptor "([BII)[B" = some ⟨[(.array .byte), .int, .int], some (.array .byte)⟩ := by decide +kernel
abbrev kM28 : ByteArray := jdk_65_method_132_code
abbrev yM29 : MethodName := ⟨"java/util/Arrays", "copyOfRange", "([BII)[B"⟩
abbrev rM25 : Room := { frames := 3, cells := 1, slots := 16, locals := 76 }
theorem own_pd21 : parseMethodDescriptor "()[B" = some ⟨[], some (.array .byte)⟩ := by decide +kernel
abbrev kM29 : ByteArray := jdk_42_method_150_code
abbrev yM30 : MethodName := ⟨"java/lang/String", "<init>", "(Ljava/lang/AbstractStringBuilder;Ljava/lang/Void;)V"⟩
abbrev rM26 : Room := { frames := 4, cells := 1, slots := 16, locals := 92 }
theorem own_pd22 : parseMethodDescriptor "(Ljava/lang/AbstractStringBuilder;Ljava/lang/Void;)V" = some ⟨[(.object "java/lang/AbstractStringBuilder"), (.object "java/lang/Void")], none⟩ := by decide +kernel
abbrev kM30 : ByteArray := jdk_42_method_53_code
abbrev yM31 : MethodName := ⟨"java/lang/String", "<init>", "(Ljava/lang/StringBuilder;)V"⟩
abbrev rM27 : Room := { frames := 5, cells := 2, slots := 20, locals := 108 }
theorem own_pd23 : parseMethodDescriptor "(Ljava/lang/StringBuilder;)V" = some ⟨[(.object "java/lang/StringBuilder")], none⟩ := by decide +kernel
abbrev kM31 : ByteArray := jdk_67_method_42_code
abbrev yM32 : MethodName := ⟨"java/lang/StringBuilder", "toString", "()Ljava/lang/String;"⟩
abbrev rM28 : Room := { frames := 1, cells := 1, slots := 32, locals := 40 }
abbrev rM29 : Room := { frames := 2, cells := 1, slots := 32, locals := 56 }
abbrev rM30 : Room := { frames := 3, cells := 1, slots := 32, locals := 76 }
abbrev rM31 : Room := { frames := 4, cells := 1, slots := 32, locals := 92 }
abbrev rM32 : Room := { frames := 5, cells := 2, slots := 36, locals := 108 }
abbrev kM32 : ByteArray := jdk_52_method_5_code
abbrev yM33 : MethodName := ⟨"java/lang/StringUTF16", "getChar", "([BI)C"⟩
abbrev kM33 : ByteArray := jdk_42_method_154_code
abbrev yM34 : MethodName := ⟨"java/lang/String", "isLatin1", "()Z"⟩
abbrev kM34 : ByteArray := jdk_41_method_11_code
abbrev yM35 : MethodName := ⟨"jdk/internal/util/Preconditions", "checkIndex", "(IILjava/util/function/BiFunction;)I"⟩
abbrev rM33 : Room := { frames := 1, cells := 0, slots := 0, locals := 15 }
theorem own_pd24 : parseMethodDescriptor "(IILjava/util/function/BiFunction;)I" = some ⟨[.int, .int, (.object "java/util/function/BiFunction")], some .int⟩ := by decide +kernel
abbrev kM35 : ByteArray := jdk_42_method_155_code
abbrev yM36 : MethodName := ⟨"java/lang/String", "checkIndex", "(II)V"⟩
abbrev kM36 : ByteArray := jdk_52_method_91_code
abbrev yM37 : MethodName := ⟨"java/lang/StringUTF16", "checkIndex", "(I[B)V"⟩
abbrev rM34 : Room := { frames := 3, cells := 0, slots := 0, locals := 45 }
theorem own_pd25 : parseMethodDescriptor "(I[B)V" = some ⟨[.int, (.array .byte)], none⟩ := by decide +kernel
theorem own_pd26 : parseMethodDescriptor "([BI)C" = some ⟨[(.array .byte), .int], some .char⟩ := by decide +kernel
abbrev kM37 : ByteArray := jdk_52_method_83_code
abbrev yM38 : MethodName := ⟨"java/lang/StringUTF16", "charAt", "([BI)C"⟩
abbrev kM38 : ByteArray := jdk_43_method_2_code
abbrev yM39 : MethodName := ⟨"java/lang/StringLatin1", "charAt", "([BI)C"⟩
abbrev rM35 : Room := { frames := 4, cells := 0, slots := 0, locals := 60 }
abbrev kM39 : ByteArray := jdk_42_method_56_code
abbrev yM40 : MethodName := ⟨"java/lang/String", "charAt", "(I)C"⟩
abbrev rM36 : Room := { frames := 6, cells := 6, slots := 24, locals := 110 }
theorem own_pd27 : parseMethodDescriptor "([C)V" = some ⟨[(.array .char)], none⟩ := by decide +kernel
abbrev kM40 : ByteArray := method_2_code
abbrev yM41 : MethodName := ⟨"com/example/chronoforge/chronoforge/design/PrecedenceToStringPinLaw", "mk", "(ICC)Ljava/lang/String;"⟩
theorem own_pn7 : plainName "com/example/chronoforge/chronoforge/design/PrecedenceToStringPinLaw" = true := by first | (simp [plainName, overriddenIn]; done) | decide +kernel
abbrev kM41 : ByteArray := jdk_30_method_1_code
abbrev yM42 : MethodName := ⟨"java/lang/Record", "<init>", "()V"⟩
theorem own_pn8 : plainName "java/lang/Record" = true := by first | (simp [plainName, overriddenIn]; done) | decide +kernel
abbrev rM37 : Room := { frames := 2, cells := 0, slots := 0, locals := 26 }
abbrev kM42 : ByteArray := prog_40_method_1_code
abbrev yM43 : MethodName := ⟨"com/example/chronoforge/chronoforge/design/Precedence", "<init>", "(Ljava/lang/String;Ljava/lang/String;)V"⟩
theorem own_pn9 : plainName "com/example/chronoforge/chronoforge/design/Precedence" = true := by first | (simp [plainName, overriddenIn]; done) | decide +kernel
abbrev rM38 : Room := { frames := 10, cells := 12, slots := 200, locals := 200 }
theorem own_pd28 : parseMethodDescriptor "(Ljava/lang/String;)Ljava/lang/StringBuilder;" = some ⟨[(.object "java/lang/String")], some (.object "java/lang/StringBuilder")⟩ := by decide +kernel
theorem own_pd29 : parseMethodDescriptor "()Ljava/lang/String;" = some ⟨[], some (.object "java/lang/String")⟩ := by decide +kernel
abbrev kM43 : ByteArray := prog_40_method_2_code
abbrev yM44 : MethodName := ⟨"com/example/chronoforge/chronoforge/design/Precedence", "toString", "()Ljava/lang/String;"⟩
theorem own_pd30 : parseMethodDescriptor "(ICC)Ljava/lang/String;" = some ⟨[.int, .char, .char], some (.object "java/lang/String")⟩ := by decide +kernel
theorem own_pd31 : parseMethodDescriptor "(Ljava/lang/String;Ljava/lang/String;)V" = some ⟨[(.object "java/lang/String"), (.object "java/lang/String")], none⟩ := by decide +kernel
theorem own_pd32 : parseMethodDescriptor "(I)C" = some ⟨[.int], some .char⟩ := by decide +kernel
abbrev EL : List (String × Nat) := [("com/example/chronoforge/chronoforge/design/Precedence", 23), ("java/lang/String", 7)]
theorem own_EW {Z : State} {a0 : Array Value} (hw : ∀ d ∈ tables_1, d.before a0 Z = true) : EW Z a0 EL := (EW.cons (hw _ (List.mem_of_getElem? (i := 124) rfl)) (by decide +kernel) (EW.cons (hw _ (List.mem_of_getElem? (i := 35) rfl)) (by decide +kernel) EW.nil))
theorem own_arv_eq {Z : State} {h : Heap} {a : Addr} {k : ClassId} {ty : FieldType} {z : Int32} {vs vs' : List Value} {dv : Value} (F : Arv Z h a k ty z vs dv) (e : vs = vs') : Arv Z h a k ty z vs' dv := e ▸ F
/-- the bytes of Latin-1 chars -/
abbrev own_by (cs : List Int32) : List Value := (cs.map fun c => c.toInt8.toInt32).map Value.int
/-- x is a Latin-1 String of the chars cs -/
def own_Lat (Z : State) (h : Heap) (x : Addr) (cs : List Int32) : Prop := Exa Z h x "java/lang/String" ∧ Fld Z h x "java/lang/String" "coder" "B" (.int (0 : Int32)) ∧ (∀ c ∈ cs, ¬ c < 0 ∧ ¬ (255 : Int32) < c) ∧ cs.length ≤ 4000 ∧ ∃ (t : Addr) (kb : ClassId), Fld Z h x "java/lang/String" "value" "[B" (.ref t) ∧ Arv Z h t kb .byte (Int32.ofNat cs.length) (own_by cs) (.int (0 : Int32))
theorem own_Lat.keep0 {Z : State} {h h' : Heap} {x : Addr} {cs : List Int32} (H : own_Lat Z h x cs) (K : Keep h h' []) : own_Lat Z h' x cs := by
  obtain ⟨E, C, p, l, t, kb, V, A⟩ := H
  exact ⟨E.keep K, C.keep K nin0, p, l, t, kb, V.keep K nin0, A.keep K nin0⟩
theorem own_up (cs : List Int32) (h : ∀ c ∈ cs, ¬ c < 0 ∧ ¬ (255 : Int32) < c) : ∀ c ∈ cs, ¬ c < 0 ∧ ¬ (65535 : Int32) < c := fun c hc => ⟨(h c hc).1, fun q => (h c hc).2 (by rw [Int32.lt_iff_toInt_lt] at q ⊢; have e1 : (65535 : Int32).toInt = 65535 := rfl; have e2 : (255 : Int32).toInt = 255 := rfl; omega)⟩
/-- x is a String of the chars cs, in either coding -/
def own_Str (Z : State) (h : Heap) (x : Addr) (cs : List Int32) : Prop := Exa Z h x "java/lang/String" ∧ (∀ c ∈ cs, ¬ c < 0 ∧ ¬ (65535 : Int32) < c) ∧ cs.length ≤ 4000 ∧ ∃ (cd N2 : Int32) (vs : List Value) (t : Addr) (kb : ClassId), StrChars.Road.CodA cs cd N2 vs ∧ Fld Z h x "java/lang/String" "coder" "B" (.int cd) ∧ Fld Z h x "java/lang/String" "value" "[B" (.ref t) ∧ Arv Z h t kb .byte N2 vs (.int (0 : Int32))
theorem own_Str.keep0 {Z : State} {h h' : Heap} {x : Addr} {cs : List Int32} (H : own_Str Z h x cs) (K : Keep h h' []) : own_Str Z h' x cs := by
  obtain ⟨E, p, l, cd, N2, vs, t, kb, c, C, V, A⟩ := H
  exact ⟨E.keep K, p, l, cd, N2, vs, t, kb, c, C.keep K nin0, V.keep K nin0, A.keep K nin0⟩
theorem own_sameM {Z : State} {a0 : Array Value} {C : String} {y u z : MethodName} (wi : (Jvm.Cond.instanceMethod y).before a0 Z = true) (ws : (Jvm.Cond.selects C u z).before a0 Z = true) (hz : z.cls = y.cls) (hy : y.cls ≠ "java/lang/invoke/MethodHandle" ∧ y.cls ≠ "java/lang/invoke/VarHandle") : (Jvm.Cond.sameMethod y.cls y.cls y.name y.desc).before a0 Z = true := by
  obtain ⟨mk, methM, hnamed, hmethM, -, -⟩ := Cond.instanceMethod_spec wi
  obtain ⟨c2, r2, m2, q1, q2, q3, q4, kP, hkP, hkPi⟩ := Cond.selects_spec ws
  have h1 := findClass_of_methodNamed hnamed
  have h2 := findClass_of_methodNamed q3
  rw [hz, h1] at h2
  rw [← Option.some.inj h2] at hkP
  have h3 := State.methodFound?_of_named hnamed hy
  simp [Cond.before, Cond.holds, Cond.value, h1, h3, hnamed, hkP, hkPi]
theorem own_selP {Z s : State} {a0 args : Array Value} {C : String} {y : MethodName} (hZ : Z.Warmed39 s.vm) (ws : (Jvm.Cond.selects C y y).before a0 Z = true) (wp : (Jvm.Cond.privateMethod y).before a0 Z = true) (wi : (Jvm.Cond.instanceMethod y).before a0 Z = true) (hy : y.cls ≠ "java/lang/invoke/MethodHandle" ∧ y.cls ≠ "java/lang/invoke/VarHandle") : (Jvm.Cond.selects y.cls y y).before args s = true := by
  have wi' : (Jvm.Cond.instanceMethod y).before args s = true := mvT hZ wi
  have ws' : (Jvm.Cond.selects C y y).before args s = true := mvT hZ ws
  obtain ⟨mk, methM, hnamed, hmethM, -, -⟩ := Cond.instanceMethod_spec wi'
  obtain ⟨c2, r2, m2, q1, q2, q3, q4, kP, hkP, hkPi⟩ := Cond.selects_spec ws'
  cases hnamed.symm.trans q3
  have h1 := findClass_of_methodNamed hnamed
  have h3 := State.methodFound?_of_named hnamed hy
  have hp := Cond.privateMethod_at (mvP hZ wp (args := args)) mk methM hnamed hmethM
  have h4 : selectMethod {} s.vm mk.cls mk = .method mk := selectMethod_private hmethM hp
  simp [Cond.before, Cond.holds, Cond.value, h1, h3, hnamed, h4, hkP, hkPi]
theorem own_nf {Z s : State} {a0 : Array Value} {C : String} {y u z : MethodName} (hZ : Z.Warmed39 s.vm) (ws : (Jvm.Cond.selects C u z).before a0 Z = true) (hz : z.cls = y.cls) : NotFace s y := fun r0 h0 => by
  have ws' : (Jvm.Cond.selects C u z).before #[] s = true := mvT hZ ws
  obtain ⟨c2, r2, m2, q1, q2, q3, q4, kP, hkP, hkPi⟩ := Cond.selects_spec ws'
  have h1 := findClass_of_methodNamed h0
  have h2 := findClass_of_methodNamed q3
  rw [hz, h1] at h2
  rw [← Option.some.inj h2] at hkP
  exact ⟨kP, hkP, hkPi⟩
theorem own_char (x : Int32) : ¬ nar .char x < 0 ∧ ¬ (65535 : Int32) < nar .char x := by
  have f := fits_nar_char x
  simp only [fits, Bool.and_eq_true, decide_eq_true_eq] at f
  exact ⟨Int32.not_lt.mpr f.1, Int32.not_lt.mpr f.2⟩
theorem own_narc {x : Int32} (h : ¬ x < 0 ∧ ¬ (65535 : Int32) < x) : nar .char x = x := by
  have q : narrow .char (.int x) = .int x := StrChars.narrow_ch h.1 h.2
  have q2 : narrow .char (.int x) = .int (nar .char x) := rfl
  rw [q2] at q
  exact Value.int.inj q
theorem own_i2c (x : Int32) : ¬ x.toUInt32.toUInt16.toUInt32.toInt32 < 0 ∧ ¬ (65535 : Int32) < x.toUInt32.toUInt16.toUInt32.toInt32 := own_char x
theorem own_r3 (y : Int32) (h : y = 0 ∨ y = 1 ∨ y = 2 ∨ y = 3) : y - y / 3 * 3 = 0 ∨ y - y / 3 * 3 = 1 ∨ y - y / 3 * 3 = 2 := by
  rcases h with rfl | rfl | rfl | rfl <;> decide
theorem own_and3 (x : Int32) : (x &&& (3 : Int32)) = 0 ∨ (x &&& (3 : Int32)) = 1 ∨ (x &&& (3 : Int32)) = 2 ∨ (x &&& (3 : Int32)) = 3 := by
  have t : ∀ k : Fin 4, Int32.ofNat k.val = 0 ∨ Int32.ofNat k.val = 1 ∨ Int32.ofNat k.val = 2 ∨ Int32.ofNat k.val = 3 := by decide +kernel
  have h : (x &&& 3).toBitVec.toNat < 4 := by
    simp only [Int32.toBitVec_and, BitVec.toNat_and]
    exact Nat.lt_succ_of_le Nat.and_le_right
  have e : (x &&& 3) = Int32.ofNat (x &&& 3).toBitVec.toNat := by
    apply Int32.toBitVec_inj.mp
    show _ = BitVec.ofNat 32 _
    rw [BitVec.ofNat_toNat]; simp
  rw [e]
  exact t ⟨_, h⟩
theorem own_ofLat {Z : State} {h : Heap} {x : Addr} {cs : List Int32} (H : own_Lat Z h x cs) : own_Str Z h x cs := by
  obtain ⟨E, C, p, l, t, kb, V, A⟩ := H
  exact ⟨E, own_up _ p, l, 0, _, _, t, kb, StrChars.Road.codOf rfl (fun c hc => (p c hc).2), C, V, A⟩
theorem own_safe_null {Z : State} {EL : List (String × Nat)} {vm : Vm} {h : Heap} {x : Addr} {a0 : Array Value} {kI : Nat} (hal : Z.vm.Alike vm) (wi : (Jvm.Cond.instantiable "java/lang/String" kI).before a0 Z = true) (E : Exa Z h x "java/lang/String") (F : Fld Z h x "java/lang/String" "value" "[B" .null) : Safe Z EL vm h x := fun B => by
  obtain ⟨p, -, u, a, -, q, -, G, hx⟩ := B
  obtain ⟨cS, ⟨⟨s1, s2, s3, ⟨cv, kv, iv, s4, s4'⟩, ⟨cc, kc, ic, s5, s5'⟩, s6, s7, s8, s9, s10, s11, s12, -⟩, -⟩, -⟩ := G
  rcases hx with rfl | rfl
  · obtain ⟨cell, cf, k, i, f, h1, h2, -, -, -, -, h7⟩ := F
    cases h1.symm.trans s1
    obtain ⟨k3, e3, -⟩ := State.fieldFound?_setVm (s := Z) hal h2
    have e4 := (show (Wst Z vm h).fieldFound? "java/lang/String" "value" "[B" = _ from e3).symm.trans s4
    simp only [Option.some.injEq, Prod.mk.injEq] at e4
    rw [e4.2.2.2, s8] at h7
    simp at h7
  · obtain ⟨cell, k, h1, h2, h3, -, -⟩ := E
    cases h1.symm.trans s10
    obtain ⟨c2, k2, i1, i2, i3, -⟩ := Cond.instantiable_spec wi
    cases h2.symm.trans i1
    cases h3.symm.trans i2
    obtain ⟨-, k9, hk9, comp, hkind9⟩ := s11
    obtain ⟨k', hk', ek⟩ := hal.2.2 _ _ h3
    cases (show vm.classes[_]? = some k9 from hk9).symm.trans hk'
    rw [ek, i3] at hkind9
    cases hkind9
theorem d0_0 : decode kM0 0 = .ok (.aload_n 0, 1) := by decide +kernel
theorem d0_1 : decode kM0 1 = .ok (.invokespecial 1, 3) := by decide +kernel
theorem d0_4 : decode kM0 4 = .ok (.iload_n 3, 1) := by decide +kernel
theorem d0_5 : decode kM0 5 = .ok (.ifCond .ne 22, 3) := by decide +kernel
theorem d0_8 : decode kM0 8 = .ok (.aload_n 0, 1) := by decide +kernel
theorem d0_9 : decode kM0 9 = .ok (.ldc 7, 2) := by decide +kernel
theorem d0_11 : decode kM0 11 = .ok (.getfield 9, 3) := by decide +kernel
theorem d0_14 : decode kM0 14 = .ok (.putfield 9, 3) := by decide +kernel
theorem d0_17 : decode kM0 17 = .ok (.aload_n 0, 1) := by decide +kernel
theorem d0_18 : decode kM0 18 = .ok (.ldc 7, 2) := by decide +kernel
theorem d0_20 : decode kM0 20 = .ok (.getfield 15, 3) := by decide +kernel
theorem d0_23 : decode kM0 23 = .ok (.putfield 15, 3) := by decide +kernel
theorem d0_26 : decode kM0 26 = .ok (.return_, 1) := by decide +kernel
def Q_own_new4e (Z : State) (x b : Addr) (h0 : Heap) (n0 : Nat) (v : Option Value) (h : Heap) (L : List Loc) : Prop := v = none ∧ Fr n0 L ∧ Keep h0 h [x] ∧ Exa Z h x "java/lang/String" ∧ Fld Z h x "java/lang/String" "coder" "B" (.int (0 : Int32)) ∧ ∃ (t : Addr) (kb : ClassId), t ≠ x ∧ t < h.size ∧ Fld Z h x "java/lang/String" "value" "[B" (.ref t) ∧ Arv Z h t kb .byte (0 : Int32) [] (.int (0 : Int32))
set_option maxRecDepth 65536 in
set_option maxHeartbeats 40000000 in
theorem own_new4e (l : Launch) (Z : State) (a0 : Array Value) (hw : ∀ d ∈ tables_1, d.before a0 Z = true) (x b : Addr) (h0 : Heap) (n0 : Nat) (Z0 : n0 ≤ h0.size) (E : Exa Z h0 x "java/lang/String") (V : Fld Z h0 x "java/lang/String" "value" "[B" .null) (C : Fld Z h0 x "java/lang/String" "coder" "B" (.int (0 : Int32))) (gx : n0 ≤ x) :
    MetFree l yM0 (head1 [Jvm.Cond.code yM0 jdk_42_method_149_code 6 none] rM0) (fun a_ U_ => a_ = #[(.ref x), (.ref b), (.int 0), (.int 0), .null] ∧ Z.Warmed39 U_.vm ∧ U_.heap = h0 ∧ CHv Z EL U_.vm h0) (fun _ _ _ _ _ => True) (fun _ U_ o_ V_ => ∃ v_ L_, o_ = .returned v_ ∧ Q_own_new4e Z x b h0 n0 v_ V_.heap L_ ∧ CHr Z EL U_.vm U_.heap V_.vm V_.heap ∧ ReturnedEndW U_ o_ V_ L_ rM0.cells rM0.slots) := by
  refine MetFree.of_bodySF (plainFor_of_name own_pn0) hisR ?_
  intro p e s m args below meth c s₁ Bd hml0 hP hK
  obtain ⟨rfl, hZ, hh, hCH⟩ := hP
  have hx := Bd.exec
  have hby := Bd.bytes
  have dB := @own_d c _ hby
  have hml : c.maxLocals = 6 := hml0
  have hown : s.vm.findClass "java/lang/String" = some m.cls := findClass_of_methodNamed Bd.named
  have hnm := (name_of_methodNamed Bd.named Bd.method).1
  have X0 : Stand p l e rM0 (s.setVm s.vm) m #[(.ref x), (.ref b), (.int 0), (.int 0), .null] below meth c s₁ [] 0 0 := Stand.of_body Bd
  have e0 : s₁.heap = h0 := by rw [← hh, Bd.state]; rfl
  have N0 := Fr.nil n0
  have KK0 := Keep.refl h0 [x]
  have C0 := CHr.refl hCH
  have hS0 : s.Since s.vm 0 := (State.WarmedH.refl s).since 0
  have hk0 : 0 ≤ h0.size := Nat.zero_le _
  have hEL : EW Z a0 EL := own_EW hw
  have cc0 : Steps p.tables e below (s₁.setTop (entryFrame m #[(.ref x), (.ref b), (.int 0), (.int 0), .null] 6)) (s₁.setTop (mkF m 0 #[sR x, sR b, sI 0, sI 0, .val .null, .unset] [])) := XT.entry rfl
  obtain ⟨S0', hS0'⟩ : ∃ S, S = (s₁.setTop (entryFrame m #[(.ref x), (.ref b), (.int 0), (.int 0), .null] 6)) := ⟨_, rfl⟩
  rw [← hS0'] at cc0
  have w_6 := own_w hw 6 rfl
  have w_31 := own_w hw 31 rfl
  have w_32 := own_w hw 32 rfl
  have w_33 := own_w hw 33 rfl
  have w_34 := own_w hw 34 rfl
  have w_35 := own_w hw 35 rfl
  have sx := own_safe_null (EL := EL) hZ.alike w_6 E V
  have cc21 : oS p e below S0' s₁ (mkF m 1 #[sR x, sR b, sI 0, sI 0, .val .null, .unset] [(.ref x)]) := Steps.trans cc0 (by
    refine XS.aloadN X0.here hx rfl (dB d0_0) rfl rfl ?_
    exact Steps.refl _)
  obtain ⟨T22, X22, e22, st22⟩ := initO X0 hx hZ hown (own_w hw 16 rfl) (own_w hw 17 rfl) (own_w hw 18 rfl) e0 (g := (mkF m 1 #[sR x, sR b, sI 0, sI 0, .val .null, .unset] [(.ref x)])) rfl (by rw [hml]; rfl) rfl (dB d0_1) (by decide) (W := 0) (by show 2 * 0 + _ ≤ _; exact Nat.le_of_eq rfl) (by decide)
  have cc23 : oS p e below S0' T22 (mkF m 9 #[sR x, sR b, sI 0, sI 0, .val .null, .unset] [(.ref x)]) := Steps.trans (cc21.trans (st22 _ (Steps.refl _))) (by
    refine XS.iloadN X22.here hx rfl (dB d0_4) rfl ?_
    refine XS.ifNo X22.here hx rfl (dB d0_5) rfl (i0_ne_f rfl) ?_
    refine XS.aloadN X22.here hx rfl (dB d0_8) rfl rfl ?_
    exact Steps.refl _)
  obtain ⟨q1, T24, h24, k24, t1, kb24, X24, e24, E24, hS24, hk24, hZ24, hown24, Ex24, Fc24, Fv24, Ar24, lta24, ltb24, CH24, -, sfn24, st24⟩ := ldcCH X22 hx hZ hown w_35 (fun a ha => hw a ((by decide +kernel : ∀ a ∈ Bundle.stringAtoms, a ∈ tables_1) a ha)) e22 hS0 hk0 hEL (by decide +kernel) C0.1 (vs := []) (z := 0) (by decide +kernel) (by decide) (by decide) (g := (mkF m 9 #[sR x, sR b, sI 0, sI 0, .val .null, .unset] [(.ref x)])) rfl (dB d0_9) (n := 0) (by decide) (by decide) (by decide) (by decide)
  have K24 := (Keep.refl h0 ([] : List Addr)).ext E24
  have C24 := C0.trans CH24
  have KK1 : Keep h0 h24 [x] := KK0.trans K24 all0
  have Zs1 : n0 ≤ h24.size := Nat.le_trans Z0 K24.1
  have sf25 := CH24.safe E.lt sx
  have lt26 := Nat.lt_of_lt_of_le E.lt K24.1
  have nl24_x := sfn24 _ sf25
  have cc27 : oS p e below S0' T24 (mkF m 11 #[sR x, sR b, sI 0, sI 0, .val .null, .unset] [(.ref q1), (.ref x)]) := (cc23.trans (st24 _ (Steps.refl _)))
  obtain ⟨T28, X28, e28, st28⟩ := getF X24 hx hZ24 hown24 (host := "") (Or.inl w_33) Via.refl e24 Fv24 (g := (mkF m 11 #[sR x, sR b, sI 0, sI 0, .val .null, .unset] [(.ref q1), (.ref x)])) rfl rfl (dB d0_11)
  have cc30 : oS p e below S0' T28 (mkF m 14 #[sR x, sR b, sI 0, sI 0, .val .null, .unset] [(.ref t1), (.ref x)]) := (cc27.trans (st28 _ (Steps.refl _)))
  have fa29 : Fld Z h24 x "java/lang/String" "value" "[B" .null := (V.keep K24 nin0)
  have fa31 : Exa Z h24 x "java/lang/String" := (E.keep K24)
  obtain ⟨T32, h32, X32, e32, W32, st32⟩ := putF X28 hx hZ24 hown24 (host := "") (Or.inl w_33) Via.refl e28 fa29 fa31 (Or.inr ⟨w_34, rfl, hnm⟩) w_6 (ty := (.array .byte)) (by decide) rfl rfl (g := (mkF m 14 #[sR x, sR b, sI 0, sI 0, .val .null, .unset] [(.ref t1), (.ref x)])) rfl rfl (dB d0_14)
  have K32 := Keep.of_wr W32
  have N32 := Fr.snoc X32 N0 gx
  have D33 := CHr.wr W32 sf25 C24.1
  have C34 := C24.trans D33
  have KK2 : Keep h0 h32 [x] := KK1.trans K32 (allS (Or.inl (List.mem_of_getElem? (i := 0) rfl)) all0)
  have Zs2 : n0 ≤ h32.size := Nat.le_trans Zs1 K32.1
  have cc35 : oS p e below S0' T32 (mkF m 18 #[sR x, sR b, sI 0, sI 0, .val .null, .unset] [(.ref x)]) := Steps.trans (cc30.trans (st32 _ (Steps.refl _))) (by
    refine XS.aloadN X32.here hx rfl (dB d0_17) rfl rfl ?_
    exact Steps.refl _)
  obtain ⟨q2, T36, h36, k36, t2, kb36, X36, e36, E36, hS36, hk36, hZ36, hown36, Ex36, Fc36, Fv36, Ar36, lta36, ltb36, CH36, -, sfn36, st36⟩ := ldcCH X32 hx hZ24 hown24 w_35 (fun a ha => hw a ((by decide +kernel : ∀ a ∈ Bundle.stringAtoms, a ∈ tables_1) a ha)) e32 hS24 (Nat.le_trans hk24 K32.1) hEL (by decide +kernel) C34.1 (vs := []) (z := 0) (by decide +kernel) (by decide) (by decide) (g := (mkF m 18 #[sR x, sR b, sI 0, sI 0, .val .null, .unset] [(.ref x)])) rfl (dB d0_18) (n := 0) (by decide) (by decide) (by decide) (by decide)
  have K36 := (Keep.refl h32 ([] : List Addr)).ext E36
  have C36 := C34.trans CH36
  have KK3 : Keep h0 h36 [x] := KK2.trans K36 all0
  have Zs3 : n0 ≤ h36.size := Nat.le_trans Zs2 K36.1
  have sf37 := D33.safe lt26 sf25
  have lt38 := Nat.lt_of_lt_of_le lt26 K32.1
  have sf39 := CH36.safe lt38 sf37
  have lt40 := Nat.lt_of_lt_of_le lt38 K36.1
  have nl36_x := sfn36 _ sf39
  have cc41 : oS p e below S0' T36 (mkF m 20 #[sR x, sR b, sI 0, sI 0, .val .null, .unset] [(.ref q2), (.ref x)]) := (cc35.trans (st36 _ (Steps.refl _)))
  obtain ⟨T42, X42, e42, st42⟩ := getF X36 hx hZ36 hown36 (host := "") (Or.inl w_31) Via.refl e36 Fc36 (g := (mkF m 20 #[sR x, sR b, sI 0, sI 0, .val .null, .unset] [(.ref q2), (.ref x)])) rfl rfl (dB d0_20)
  have cc44 : oS p e below S0' T42 (mkF m 23 #[sR x, sR b, sI 0, sI 0, .val .null, .unset] [(.int (0 : Int32)), (.ref x)]) := (cc41.trans (st42 _ (Steps.refl _)))
  have fa43 : Fld Z h36 x "java/lang/String" "coder" "B" (.int (0 : Int32)) := (((C.keep K24 nin0).other W32 (Or.inr (slot_ne (Or.inr w_32) (Or.inr w_34) (by decide) (t := .byte) (t' := (.array .byte)) (by decide) (by decide)))).keep K36 nin0)
  have fa45 : Exa Z h36 x "java/lang/String" := ((fa31.keep K32).keep K36)
  obtain ⟨T46, h46, X46, e46, W46, st46⟩ := putFN X42 hx hZ36 hown36 w_31 Via.refl e42 fa43 fa45 (Or.inr ⟨w_32, rfl, hnm⟩) w_6 (ty := .byte) (v' := (.int (0 : Int32))) (by decide) rfl rfl (g := (mkF m 23 #[sR x, sR b, sI 0, sI 0, .val .null, .unset] [(.int (0 : Int32)), (.ref x)])) rfl rfl (dB d0_23)
  have K46 := Keep.of_wr W46
  have N46 := Fr.snoc X46 N32 gx
  have D47 := CHr.wr W46 sf39 C36.1
  have C48 := C36.trans D47
  have KK4 : Keep h0 h46 [x] := KK3.trans K46 (allS (Or.inl (List.mem_of_getElem? (i := 0) rfl)) all0)
  have Zs4 : n0 ≤ h46.size := Nat.le_trans Zs3 K46.1
  have cc50 : oS p e below S0' T46 (mkF m 26 #[sR x, sR b, sI 0, sI 0, .val .null, .unset] []) := (cc44.trans (st46 _ (Steps.refl _)))
  have fa49 : Exa Z h46 x "java/lang/String" := (fa45.keep K46)
  have fa51 : Fld Z h46 x "java/lang/String" "value" "[B" (.ref t1) := (((Fld.same W32 fa29).keep K36 nin0).other W46 (Or.inr (slot_ne (Or.inr w_34) (Or.inr w_32) (by decide) (t := (.array .byte)) (t' := .byte) (by decide) (by decide))))
  have fa52 : Arv Z h46 t1 kb24 .byte (0 : Int32) ([]) (.int (0 : Int32)) := (((Ar24.keep K32 (ninS (Ne.symm nl24_x.2) nin0)).keep K36 nin0).keep K46 (ninS (Ne.symm nl24_x.2) nin0))
  have cE := cc50
  rw [hS0'] at cE
  obtain ⟨fs, hr_, hrun, hended, hE⟩ := X46.leaveW hS36 (by rw [e46]; exact (Nat.le_trans hk36 K46.1)) (v := none) (fun _ => rfl)
  have CE := C48.trans (CHv.at X46 hZ36 hEL C48.1)
  refine ⟨_, _, cE.trans (X46.returnOut hx Bd.returns (dB d0_26) hr_), hrun, hended, _, _, rfl, ?_, ?_, hE.1, hE.2.1, hE.2.2.1, hE.2.2.2.mono (by first | decide | omega) (by first | decide | omega)⟩
  · show Q_own_new4e Z x b h0 n0 _ T46.heap _
    rw [e46]
    exact ⟨rfl, N46, KK4, fa49, (Fld.same W46 fa43), t1, _, Ne.symm nl24_x.2, fa52.lt, fa51, fa52⟩
  · rw [hh]
    show CHr Z EL s.vm h0 T46.vm T46.heap
    rw [e46]
    exact CE
theorem d1_0 : decode kM1 0 = .ok (.aload_n 0, 1) := by decide +kernel
theorem d1_1 : decode kM1 1 = .ok (.aload_n 1, 1) := by decide +kernel
theorem d1_2 : decode kM1 2 = .ok (.iconst 0, 1) := by decide +kernel
theorem d1_3 : decode kM1 3 = .ok (.aload_n 1, 1) := by decide +kernel
theorem d1_4 : decode kM1 4 = .ok (.arraylength, 1) := by decide +kernel
theorem d1_5 : decode kM1 5 = .ok (.aconst_null, 1) := by decide +kernel
theorem d1_6 : decode kM1 6 = .ok (.invokespecial 27, 3) := by decide +kernel
theorem d1_9 : decode kM1 9 = .ok (.return_, 1) := by decide +kernel
def Q_own_new1e (Z : State) (x b : Addr) (kc : ClassId) (h0 : Heap) (n0 : Nat) (v : Option Value) (h : Heap) (L : List Loc) : Prop := v = none ∧ Fr n0 L ∧ Keep h0 h [x] ∧ Exa Z h x "java/lang/String" ∧ Fld Z h x "java/lang/String" "coder" "B" (.int (0 : Int32)) ∧ ∃ (t : Addr) (kb : ClassId), t ≠ x ∧ t < h.size ∧ Fld Z h x "java/lang/String" "value" "[B" (.ref t) ∧ Arv Z h t kb .byte (0 : Int32) [] (.int (0 : Int32))
set_option maxRecDepth 65536 in
set_option maxHeartbeats 40000000 in
theorem own_new1e (l : Launch) (Z : State) (a0 : Array Value) (hw : ∀ d ∈ tables_1, d.before a0 Z = true) (x b : Addr) (kc : ClassId) (h0 : Heap) (n0 : Nat) (Z0 : n0 ≤ h0.size) (E : Exa Z h0 x "java/lang/String") (V : Fld Z h0 x "java/lang/String" "value" "[B" .null) (C : Fld Z h0 x "java/lang/String" "coder" "B" (.int (0 : Int32))) (gx : n0 ≤ x) (K : Arv Z h0 b kc .char (0 : Int32) [] (.int (0 : Int32))) :
    MetFree l yM1 (head1 [Jvm.Cond.code yM1 jdk_42_method_3_code 2 none] rM1) (fun a_ U_ => a_ = #[(.ref x), (.ref b)] ∧ Z.Warmed39 U_.vm ∧ U_.heap = h0 ∧ CHv Z EL U_.vm h0) (fun _ _ _ _ _ => True) (fun _ U_ o_ V_ => ∃ v_ L_, o_ = .returned v_ ∧ Q_own_new1e Z x b kc h0 n0 v_ V_.heap L_ ∧ CHr Z EL U_.vm U_.heap V_.vm V_.heap ∧ ReturnedEndW U_ o_ V_ L_ rM1.cells rM1.slots) := by
  refine MetFree.of_bodySF (plainFor_of_name own_pn0) hisR ?_
  intro p e s m args below meth c s₁ Bd hml0 hP hK
  obtain ⟨rfl, hZ, hh, hCH⟩ := hP
  have hx := Bd.exec
  have hby := Bd.bytes
  have dB := @own_d c _ hby
  have hml : c.maxLocals = 2 := hml0
  have hown : s.vm.findClass "java/lang/String" = some m.cls := findClass_of_methodNamed Bd.named
  have hnm := (name_of_methodNamed Bd.named Bd.method).1
  have X0 : Stand p l e rM1 (s.setVm s.vm) m #[(.ref x), (.ref b)] below meth c s₁ [] 0 0 := Stand.of_body Bd
  have e0 : s₁.heap = h0 := by rw [← hh, Bd.state]; rfl
  have N0 := Fr.nil n0
  have KK0 := Keep.refl h0 [x]
  have C0 := CHr.refl hCH
  have hS0 : s.Since s.vm 0 := (State.WarmedH.refl s).since 0
  have hk0 : 0 ≤ h0.size := Nat.zero_le _
  have hEL : EW Z a0 EL := own_EW hw
  have cc0 : Steps p.tables e below (s₁.setTop (entryFrame m #[(.ref x), (.ref b)] 2)) (s₁.setTop (mkF m 0 #[sR x, sR b] [])) := XT.entry rfl
  obtain ⟨S0', hS0'⟩ : ∃ S, S = (s₁.setTop (entryFrame m #[(.ref x), (.ref b)] 2)) := ⟨_, rfl⟩
  rw [← hS0'] at cc0
  have w_15 := own_w hw 15 rfl
  have cc21 : oS p e below S0' s₁ (mkF m 4 #[sR x, sR b] [(.ref b), (.int 0), (.ref b), (.ref x)]) := Steps.trans cc0 (by
    refine XS.aloadN X0.here hx rfl (dB d1_0) rfl rfl ?_
    refine XS.aloadN X0.here hx rfl (dB d1_1) rfl rfl ?_
    refine iconstV X0.here hx rfl 0 (dB d1_2) (by decide) ?_
    refine XS.aloadN X0.here hx rfl (dB d1_3) rfl rfl ?_
    exact Steps.refl _)
  obtain ⟨clu22, Aru22, -, Su22, Ngu22, -, -⟩ := id K
  have cl_u22 := X0.arraylength hx (by rw [e0]; exact Aru22.1) (State.isArrayOf_alike (hZ).alike Aru22.2.1) (g := (mkF m 4 #[sR x, sR b] [(.ref b), (.int 0), (.ref b), (.ref x)])) rfl rfl (dB d1_4) _ (Steps.refl _)
  rw [len_of Su22 Ngu22] at cl_u22
  have cc23 : oS p e below S0' s₁ (mkF m 6 #[sR x, sR b] [.null, (.int (0 : Int32)), (.int 0), (.ref b), (.ref x)]) := Steps.trans (Steps.trans cc21 cl_u22) (by
    refine XS.aconstNull X0.here hx rfl (dB d1_5) ?_
    exact Steps.refl _)
  obtain ⟨_, _, ⟨T24, L24, k24, n24⟩, -, X24, hs24, gr24, ⟨Lc24, hQ24, l24, y24, z24, CH24⟩, st24⟩ := X0.specialBackS hx (y := yM0) rfl hown (mvT hZ (own_w hw 12 rfl)) (mvT hZ (own_w hw 13 rfl)) (mvT hZ w_15) (by decide) (backOfSH (W := 0) (own_new4e l Z a0 hw x b h0 n0 Z0 E V C gx) hZ w_15 (own_w hw 7 rfl) (by decide) (by decide) hEL C0.1) (g := (mkF m 6 #[sR x, sR b] [.null, (.int (0 : Int32)), (.int 0), (.ref b), (.ref x)])) rfl (by rw [hml]; rfl) (Steps.refl _) (a := x) (argsL := [(.ref b), (.int 0), (.int (0 : Int32)), .null]) (rest := []) (lenOf own_pd0 rfl) rfl (Nat.le_of_eq rfl) (dB d1_6) (fun _ _ => ⟨rfl, e0, Nat.le_of_ble_eq_true rfl, Nat.le_of_ble_eq_true rfl⟩)
  dsimp only [Pt.U, Pt.locs, Pt.cells, Pt.slots] at X24 l24 y24 z24 st24 hQ24 hs24 gr24 CH24
  subst l24 y24 z24
  obtain ⟨rfl, Nq24, Kq24, Eq24, Cq24, t, kb, q124, q224, Vq24, Aq24⟩ := hQ24
  obtain ⟨Xr24, hS24, hZ24, hown24⟩ := rebS hS0 (by rw [e0]; exact hk0) X24 hs24 gr24 hZ hown
  have hk24 : T24.heap.size ≤ T24.heap.size := Nat.le_refl _
  have C24 := C0.trans CH24
  have N24 := Fr.app N0 Nq24
  have KK1 : Keep h0 T24.heap [x] := KK0.trans Kq24 (allS (Or.inl (List.mem_of_getElem? (i := 0) rfl)) all0)
  have Zs1 : n0 ≤ T24.heap.size := Nat.le_trans Z0 Kq24.1
  have e24 : T24.heap = T24.heap := rfl
  have cc25 : oS p e below S0' T24 (mkF m 9 #[sR x, sR b] []) := (Steps.trans cc23 st24)
  have cE := cc25
  rw [hS0'] at cE
  obtain ⟨fs, hr_, hrun, hended, hE⟩ := Xr24.leaveW hS24 (by rw [e24]; exact hk24) (v := none) (fun _ => rfl)
  have CE := C24.trans (CHv.at Xr24 hZ24 hEL C24.1)
  refine ⟨_, _, cE.trans (Xr24.returnOut hx Bd.returns (dB d1_9) hr_), hrun, hended, _, _, rfl, ?_, ?_, hE.1, hE.2.1, hE.2.2.1, hE.2.2.2.mono (by first | decide | omega) (by first | decide | omega)⟩
  · show Q_own_new1e Z x b kc h0 n0 _ T24.heap _
    rw [e24]
    exact ⟨rfl, N24, KK1, Eq24, Cq24, t, kb, q124, q224, Vq24, Aq24⟩
  · rw [hh]
    show CHr Z EL s.vm h0 T24.vm T24.heap
    rw [e24]
    exact CE
theorem own_ne_arv {Z : State} {h : Heap} {a t : Addr} {C : String} {k : ClassId} {ty : FieldType} {n : Int32} {vs : List Value} {dv : Value} {a0 : Array Value} {kk : Nat} (E : Exa Z h a C) (wi : (Jvm.Cond.instantiable C kk).before a0 Z = true) (A : Arv Z h t k ty n vs dv) : a ≠ t := by
  obtain ⟨c, A1, -⟩ := A
  exact ne_arr E wi A1
theorem own_take (bs : List Int32) : (List.range bs.length).map (fun i => (own_by bs).getD (0 + i) (.int (0 : Int32))) = own_by bs := by
  apply List.ext_getElem
  · simp
  · intro i h1 h2
    simp at h1
    simp [List.getD_eq_getElem?_getD, h1]
theorem own_by_app (bs cs : List Int32) : own_by (bs ++ cs) = own_by bs ++ own_by cs := by simp
theorem own_by_len (bs : List Int32) : (own_by bs).length = bs.length := by simp
/-- x is a UTF-16 String of the chars cs -/
def own_Wid (Z : State) (h : Heap) (x : Addr) (cs : List Int32) : Prop := Exa Z h x "java/lang/String" ∧ Fld Z h x "java/lang/String" "coder" "B" (.int (1 : Int32)) ∧ (∀ c ∈ cs, ¬ c < 0 ∧ ¬ (65535 : Int32) < c) ∧ cs.length ≤ 4000 ∧ (∃ c ∈ cs, (255 : Int32) < c) ∧ ∃ (t : Addr) (kb : ClassId), Fld Z h x "java/lang/String" "value" "[B" (.ref t) ∧ Arv Z h t kb .byte (Int32.ofNat (2 * cs.length)) (StrChars.Road.wideBytes cs) (.int (0 : Int32))
theorem own_Wid.keep0 {Z : State} {h h' : Heap} {x : Addr} {cs : List Int32} (H : own_Wid Z h x cs) (K : Keep h h' []) : own_Wid Z h' x cs := by
  obtain ⟨E, C, p, l, w, t, kb, V, A⟩ := H
  exact ⟨E.keep K, C.keep K nin0, p, l, w, t, kb, V.keep K nin0, A.keep K nin0⟩
theorem own_split {Z : State} {h : Heap} {x : Addr} {cs : List Int32} (H : own_Str Z h x cs) : own_Lat Z h x cs ∨ own_Wid Z h x cs := by
  obtain ⟨E, p, l, cd, N2, vs, t, kb, cod, C, V, A⟩ := H
  rcases cod with ⟨rfl, rfl, rfl, hb⟩ | ⟨rfl, rfl, rfl, hb⟩
  · exact Or.inl ⟨E, C, fun c hc => ⟨(p c hc).1, hb c hc⟩, l, t, kb, V, own_arv_eq A (by simp [own_by, List.map_map, Function.comp_def, StrChars.lo8])⟩
  · exact Or.inr ⟨E, C, p, l, hb, t, kb, V, A⟩
theorem own_ofWid {Z : State} {h : Heap} {x : Addr} {cs : List Int32} (H : own_Wid Z h x cs) : own_Str Z h x cs := by
  obtain ⟨E, C, p, l, w, t, kb, V, A⟩ := H
  exact ⟨E, p, l, 1, _, _, t, kb, Or.inr ⟨rfl, rfl, rfl, w⟩, C, V, A⟩
theorem own_i2c_id {c : Int32} (h : ¬ c < 0 ∧ ¬ (65535 : Int32) < c) : c.toUInt32.toUInt16.toUInt32.toInt32 = c := own_narc h
theorem own_wb_app : ∀ (cs ds : List Int32), StrChars.Road.wideBytes (cs ++ ds) = StrChars.Road.wideBytes cs ++ StrChars.Road.wideBytes ds
  | [], ds => rfl
  | c :: cs, ds => by show _ :: _ :: StrChars.Road.wideBytes (cs ++ ds) = _ :: _ :: (_ ++ _); rw [own_wb_app cs ds]
theorem own_wb_len : ∀ (cs : List Int32), (StrChars.Road.wideBytes cs).length = 2 * cs.length
  | [] => rfl
  | c :: cs => by show (StrChars.Road.wideBytes cs).length + 1 + 1 = 2 * (cs.length + 1); rw [own_wb_len cs]; omega
theorem own_set2 (vs : List Value) (n : Nat) (hn : vs.length = n) (a b c d : Value) : ((vs ++ [c, d]).set n a).set (n + 1) b = vs ++ [a, b] := by
  subst hn
  rw [List.set_append_right _ _ (Nat.le_refl _), Nat.sub_self, List.set_append_right _ _ (Nat.le_succ _)]
  simp
theorem own_cfb (a b : Nat) (h : a + b ≤ 16) : ¬ (((16 : Int32) ||| Int32.ofNat a) ||| Int32.ofNat b) < 0 ∧ ¬ ((16 : Int32) - Int32.ofNat a) < Int32.ofNat b := (by decide +kernel : ∀ a b : Fin 17, a.val + b.val ≤ 16 → ¬ (((16 : Int32) ||| Int32.ofNat a.val) ||| Int32.ofNat b.val) < 0 ∧ ¬ ((16 : Int32) - Int32.ofNat a.val) < Int32.ofNat b.val) ⟨a, by omega⟩ ⟨b, by omega⟩ h
theorem own_nb (x : Int32) : nar .byte (x.toInt8.toInt32) = x.toInt8.toInt32 := by simp [nar]
theorem own_wtake (bs : List Int32) : (List.range (2 * bs.length)).map (fun i => (StrChars.Road.wideBytes bs).getD (0 + i) (.int (0 : Int32))) = StrChars.Road.wideBytes bs := by
  apply List.ext_getElem
  · simp [own_wb_len]
  · intro i h1 h2
    simp at h1
    have h3 : i < (StrChars.Road.wideBytes bs).length := by rw [own_wb_len]; exact h1
    simp [List.getD_eq_getElem?_getD, List.getElem?_eq_getElem h3]
theorem own_wcopy (bs cs : List Int32) (hl : bs.length + cs.length ≤ 16) : List.take (2 * bs.length) (StrChars.Road.wideBytes bs ++ List.replicate (32 - 2 * bs.length) (.int (0 : Int32))) ++ StrChars.Road.wideBytes cs ++ List.drop (2 * bs.length + 2 * cs.length) (StrChars.Road.wideBytes bs ++ List.replicate (32 - 2 * bs.length) (.int (0 : Int32))) = StrChars.Road.wideBytes (bs ++ cs) ++ List.replicate (32 - 2 * bs.length - 2 * cs.length) (.int (0 : Int32)) := by
  have h1 : List.take (2 * bs.length) (StrChars.Road.wideBytes bs ++ List.replicate (32 - 2 * bs.length) (Value.int (0 : Int32))) = StrChars.Road.wideBytes bs := by
    rw [List.take_append_of_le_length (by rw [own_wb_len]; exact Nat.le_refl _), List.take_of_length_le (by rw [own_wb_len]; exact Nat.le_refl _)]
  have h2 : List.drop (2 * bs.length + 2 * cs.length) (StrChars.Road.wideBytes bs ++ List.replicate (32 - 2 * bs.length) (Value.int (0 : Int32))) = List.replicate (32 - 2 * bs.length - 2 * cs.length) (Value.int (0 : Int32)) := by
    rw [List.drop_append, List.drop_of_length_le (by rw [own_wb_len]; omega), own_wb_len, List.drop_replicate]
    simp
  rw [h1, h2, own_wb_app]
theorem own_capw {n : Nat} (h : n ≤ 16) : ¬ (0 : Int32) < Int32.ofNat n - ((32 : Int32) >>> ((1 : Int32) &&& 31)) := by
  have t : ∀ k : Fin 17, ¬ (0 : Int32) < Int32.ofNat k.val - ((32 : Int32) >>> ((1 : Int32) &&& 31)) := by decide +kernel
  exact t ⟨n, by omega⟩
theorem d2_0 : decode kM2 0 = .ok (.getstatic 38, 3) := by decide +kernel
theorem d2_3 : decode kM2 3 = .ok (.ifCond .eq 10, 3) := by decide +kernel
theorem d2_6 : decode kM2 6 = .ok (.aload_n 0, 1) := by decide +kernel
theorem d2_7 : decode kM2 7 = .ok (.getfield 15, 3) := by decide +kernel
theorem d2_10 : decode kM2 10 = .ok (.goto 4, 3) := by decide +kernel
theorem d2_14 : decode kM2 14 = .ok (.ireturn, 1) := by decide +kernel
def Q_own_cod0 (Z : State) (x : Addr) (z : Int32) (h0 : Heap) (n0 : Nat) (v : Option Value) (h : Heap) (L : List Loc) : Prop := v = some (.int 0) ∧ Fr n0 L ∧ h = h0
set_option maxRecDepth 65536 in
set_option maxHeartbeats 40000000 in
theorem own_cod0 (l : Launch) (Z : State) (a0 : Array Value) (hw : ∀ d ∈ tables_1, d.before a0 Z = true) (x : Addr) (z : Int32) (h0 : Heap) (n0 : Nat) (Z0 : n0 ≤ h0.size) (X00 : Old Z n0 h0) (O2 : Sta Z Z.heap "java/lang/String" "COMPACT_STRINGS" "Z" (.int z)) (P5 : ¬ z = 0) (C : Fld Z h0 x "java/lang/String" "coder" "B" (.int (0 : Int32))) :
    MetFree l yM2 (head1 [Jvm.Cond.code yM2 jdk_42_method_152_code 1 (some .byte)] rM2) (fun a_ U_ => a_ = #[(.ref x)] ∧ Z.Warmed39 U_.vm ∧ U_.heap = h0) (fun _ _ _ _ _ => True) (fun _ U_ o_ V_ => ∃ v_ L_, o_ = .returned v_ ∧ Q_own_cod0 Z x z h0 n0 v_ V_.heap L_ ∧ FrameEnd U_ o_ V_ L_ rM2.cells rM2.slots) := by
  refine MetFree.of_bodySF (plainFor_of_name own_pn0) hisR ?_
  intro p e s m args below meth c s₁ Bd hml0 hP hK
  obtain ⟨rfl, hZ, hh⟩ := hP
  have hx := Bd.exec
  have hby := Bd.bytes
  have dB := @own_d c _ hby
  have hml : c.maxLocals = 1 := hml0
  have hown : s.vm.findClass "java/lang/String" = some m.cls := findClass_of_methodNamed Bd.named
  have hnm := (name_of_methodNamed Bd.named Bd.method).1
  have X0 : Stand p l e rM2 s m #[(.ref x)] below meth c s₁ [] 0 0 := Stand.of_body Bd
  have e0 : s₁.heap = h0 := by rw [← hh, Bd.state]; rfl
  have N0 := Fr.nil n0
  have KK0 := Keep.refl h0 ([] : List Addr)
  have cc0 : Steps p.tables e below (s₁.setTop (entryFrame m #[(.ref x)] 1)) (s₁.setTop (mkF m 0 #[sR x] [])) := XT.entry rfl
  obtain ⟨S0', hS0'⟩ : ∃ S, S = (s₁.setTop (entryFrame m #[(.ref x)] 1)) := ⟨_, rfl⟩
  rw [← hS0'] at cc0
  obtain ⟨T21, X21, e21, st21⟩ := getS2 X0 hx hZ hown (host := "") (Or.inl (own_w hw 19 rfl)) Via.refl e0 (O2.ext X00.2) (g := (mkF m 0 #[sR x] [])) rfl (dB d2_0)
  have cc22 : oS p e below S0' T21 (mkF m 7 #[sR x] [(.ref x)]) := Steps.trans (cc0.trans (st21 _ (Steps.refl _))) (by
    refine XS.ifNo X21.here hx rfl (dB d2_3) rfl (i0_eq_f P5) ?_
    refine XS.aloadN X21.here hx rfl (dB d2_6) rfl rfl ?_
    exact Steps.refl _)
  obtain ⟨T23, X23, e23, st23⟩ := getF X21 hx hZ hown (host := "") (Or.inl (own_w hw 31 rfl)) Via.refl e21 C (g := (mkF m 7 #[sR x] [(.ref x)])) rfl rfl (dB d2_7)
  have cc24 : oS p e below S0' T23 (mkF m 14 #[sR x] [(.int (0 : Int32))]) := Steps.trans (cc22.trans (st23 _ (Steps.refl _))) (by
    refine XS.goto X23.here hx rfl (pc0 := 10) rfl (dB d2_10) (by decide) rfl ?_
    exact Steps.refl _)
  have cE := cc24
  rw [hS0'] at cE
  obtain ⟨fs, hr_, hrun, hended, hW, hsame⟩ := X23.leave (v := some (.int (0 : Int32))) (fun h => by rw [Bd.returns] at h; cases h)
  refine ⟨_, _, cE.trans (X23.ireturnOut hx Bd.returns (rfl) (by simp) (dB d2_14) hr_), hrun, hended, _, _, rfl, ?_, ⟨_, rfl⟩, hW, hsame.mono (by first | decide | omega) (by first | decide | omega)⟩
  show Q_own_cod0 Z x z h0 n0 _ T23.heap _
  rw [e23]
  exact ⟨rfl, N0, rfl⟩
theorem d3_0 : decode kM3 0 = .ok (.getstatic 18, 3) := by decide +kernel
theorem d3_3 : decode kM3 3 = .ok (.ifCond .eq 14, 3) := by decide +kernel
theorem d3_6 : decode kM3 6 = .ok (.aload_n 0, 1) := by decide +kernel
theorem d3_7 : decode kM3 7 = .ok (.getfield 22, 3) := by decide +kernel
theorem d3_10 : decode kM3 10 = .ok (.ifCond .ne 7, 3) := by decide +kernel
theorem d3_13 : decode kM3 13 = .ok (.iconst 1, 1) := by decide +kernel
theorem d3_14 : decode kM3 14 = .ok (.goto 4, 3) := by decide +kernel
theorem d3_18 : decode kM3 18 = .ok (.ireturn, 1) := by decide +kernel
def Q_own_sil0 (Z : State) (b : Addr) (z : Int32) (h0 : Heap) (n0 : Nat) (v : Option Value) (h : Heap) (L : List Loc) : Prop := v = some (.int 1) ∧ Fr n0 L ∧ h = h0
set_option maxRecDepth 65536 in
set_option maxHeartbeats 40000000 in
theorem own_sil0 (l : Launch) (Z : State) (a0 : Array Value) (hw : ∀ d ∈ tables_1, d.before a0 Z = true) (b : Addr) (z : Int32) (h0 : Heap) (n0 : Nat) (Z0 : n0 ≤ h0.size) (X00 : Old Z n0 h0) (O2 : Sta Z Z.heap "java/lang/String" "COMPACT_STRINGS" "Z" (.int z)) (P5 : ¬ z = 0) (C : Fld Z h0 b "java/lang/AbstractStringBuilder" "coder" "B" (.int (0 : Int32))) :
    MetFree l yM3 (head1 [Jvm.Cond.code yM3 jdk_68_method_68_code 1 (some .boolean)] rM2) (fun a_ U_ => a_ = #[(.ref b)] ∧ Z.Warmed39 U_.vm ∧ U_.heap = h0) (fun _ _ _ _ _ => True) (fun _ U_ o_ V_ => ∃ v_ L_, o_ = .returned v_ ∧ Q_own_sil0 Z b z h0 n0 v_ V_.heap L_ ∧ FrameEnd U_ o_ V_ L_ rM2.cells rM2.slots) := by
  refine MetFree.of_bodySF (plainFor_of_name own_pn1) hisR ?_
  intro p e s m args below meth c s₁ Bd hml0 hP hK
  obtain ⟨rfl, hZ, hh⟩ := hP
  have hx := Bd.exec
  have hby := Bd.bytes
  have dB := @own_d c _ hby
  have hml : c.maxLocals = 1 := hml0
  have hown : s.vm.findClass "java/lang/AbstractStringBuilder" = some m.cls := findClass_of_methodNamed Bd.named
  have hnm := (name_of_methodNamed Bd.named Bd.method).1
  have X0 : Stand p l e rM2 s m #[(.ref b)] below meth c s₁ [] 0 0 := Stand.of_body Bd
  have e0 : s₁.heap = h0 := by rw [← hh, Bd.state]; rfl
  have N0 := Fr.nil n0
  have KK0 := Keep.refl h0 ([] : List Addr)
  have cc0 : Steps p.tables e below (s₁.setTop (entryFrame m #[(.ref b)] 1)) (s₁.setTop (mkF m 0 #[sR b] [])) := XT.entry rfl
  obtain ⟨S0', hS0'⟩ : ∃ S, S = (s₁.setTop (entryFrame m #[(.ref b)] 1)) := ⟨_, rfl⟩
  rw [← hS0'] at cc0
  obtain ⟨T21, X21, e21, st21⟩ := getS2 X0 hx hZ hown (host := "") (Or.inl (own_w hw 72 rfl)) Via.refl e0 (O2.ext X00.2) (g := (mkF m 0 #[sR b] [])) rfl (dB d3_0)
  have cc22 : oS p e below S0' T21 (mkF m 7 #[sR b] [(.ref b)]) := Steps.trans (cc0.trans (st21 _ (Steps.refl _))) (by
    refine XS.ifNo X21.here hx rfl (dB d3_3) rfl (i0_eq_f P5) ?_
    refine XS.aloadN X21.here hx rfl (dB d3_6) rfl rfl ?_
    exact Steps.refl _)
  obtain ⟨T23, X23, e23, st23⟩ := getF X21 hx hZ hown (host := "") (Or.inl (own_w hw 75 rfl)) Via.refl e21 C (g := (mkF m 7 #[sR b] [(.ref b)])) rfl rfl (dB d3_7)
  have cc24 : oS p e below S0' T23 (mkF m 18 #[sR b] [(.int 1)]) := Steps.trans (cc22.trans (st23 _ (Steps.refl _))) (by
    refine XS.ifNo X23.here hx rfl (dB d3_10) rfl (i0_ne_f rfl) ?_
    refine iconstV X23.here hx rfl 1 (dB d3_13) (by decide) ?_
    refine XS.goto X23.here hx rfl (pc0 := 14) rfl (dB d3_14) (by decide) rfl ?_
    exact Steps.refl _)
  have cE := cc24
  rw [hS0'] at cE
  obtain ⟨fs, hr_, hrun, hended, hW, hsame⟩ := X23.leave (v := some (.int 1)) (fun h => by rw [Bd.returns] at h; cases h)
  refine ⟨_, _, cE.trans (X23.ireturnOut hx Bd.returns (rfl) (by simp) (dB d3_18) hr_), hrun, hended, _, _, rfl, ?_, ⟨_, rfl⟩, hW, hsame.mono (by first | decide | omega) (by first | decide | omega)⟩
  show Q_own_sil0 Z b z h0 n0 _ T23.heap _
  rw [e23]
  exact ⟨rfl, N0, rfl⟩
def Q_own_cod1 (Z : State) (x : Addr) (z : Int32) (h0 : Heap) (n0 : Nat) (v : Option Value) (h : Heap) (L : List Loc) : Prop := v = some (.int 1) ∧ Fr n0 L ∧ h = h0
set_option maxRecDepth 65536 in
set_option maxHeartbeats 40000000 in
theorem own_cod1 (l : Launch) (Z : State) (a0 : Array Value) (hw : ∀ d ∈ tables_1, d.before a0 Z = true) (x : Addr) (z : Int32) (h0 : Heap) (n0 : Nat) (Z0 : n0 ≤ h0.size) (X00 : Old Z n0 h0) (O2 : Sta Z Z.heap "java/lang/String" "COMPACT_STRINGS" "Z" (.int z)) (P5 : ¬ z = 0) (C : Fld Z h0 x "java/lang/String" "coder" "B" (.int (1 : Int32))) :
    MetFree l yM2 (head1 [Jvm.Cond.code yM2 jdk_42_method_152_code 1 (some .byte)] rM2) (fun a_ U_ => a_ = #[(.ref x)] ∧ Z.Warmed39 U_.vm ∧ U_.heap = h0) (fun _ _ _ _ _ => True) (fun _ U_ o_ V_ => ∃ v_ L_, o_ = .returned v_ ∧ Q_own_cod1 Z x z h0 n0 v_ V_.heap L_ ∧ FrameEnd U_ o_ V_ L_ rM2.cells rM2.slots) := by
  refine MetFree.of_bodySF (plainFor_of_name own_pn0) hisR ?_
  intro p e s m args below meth c s₁ Bd hml0 hP hK
  obtain ⟨rfl, hZ, hh⟩ := hP
  have hx := Bd.exec
  have hby := Bd.bytes
  have dB := @own_d c _ hby
  have hml : c.maxLocals = 1 := hml0
  have hown : s.vm.findClass "java/lang/String" = some m.cls := findClass_of_methodNamed Bd.named
  have hnm := (name_of_methodNamed Bd.named Bd.method).1
  have X0 : Stand p l e rM2 s m #[(.ref x)] below meth c s₁ [] 0 0 := Stand.of_body Bd
  have e0 : s₁.heap = h0 := by rw [← hh, Bd.state]; rfl
  have N0 := Fr.nil n0
  have KK0 := Keep.refl h0 ([] : List Addr)
  have cc0 : Steps p.tables e below (s₁.setTop (entryFrame m #[(.ref x)] 1)) (s₁.setTop (mkF m 0 #[sR x] [])) := XT.entry rfl
  obtain ⟨S0', hS0'⟩ : ∃ S, S = (s₁.setTop (entryFrame m #[(.ref x)] 1)) := ⟨_, rfl⟩
  rw [← hS0'] at cc0
  obtain ⟨T21, X21, e21, st21⟩ := getS2 X0 hx hZ hown (host := "") (Or.inl (own_w hw 19 rfl)) Via.refl e0 (O2.ext X00.2) (g := (mkF m 0 #[sR x] [])) rfl (dB d2_0)
  have cc22 : oS p e below S0' T21 (mkF m 7 #[sR x] [(.ref x)]) := Steps.trans (cc0.trans (st21 _ (Steps.refl _))) (by
    refine XS.ifNo X21.here hx rfl (dB d2_3) rfl (i0_eq_f P5) ?_
    refine XS.aloadN X21.here hx rfl (dB d2_6) rfl rfl ?_
    exact Steps.refl _)
  obtain ⟨T23, X23, e23, st23⟩ := getF X21 hx hZ hown (host := "") (Or.inl (own_w hw 31 rfl)) Via.refl e21 C (g := (mkF m 7 #[sR x] [(.ref x)])) rfl rfl (dB d2_7)
  have cc24 : oS p e below S0' T23 (mkF m 14 #[sR x] [(.int (1 : Int32))]) := Steps.trans (cc22.trans (st23 _ (Steps.refl _))) (by
    refine XS.goto X23.here hx rfl (pc0 := 10) rfl (dB d2_10) (by decide) rfl ?_
    exact Steps.refl _)
  have cE := cc24
  rw [hS0'] at cE
  obtain ⟨fs, hr_, hrun, hended, hW, hsame⟩ := X23.leave (v := some (.int (1 : Int32))) (fun h => by rw [Bd.returns] at h; cases h)
  refine ⟨_, _, cE.trans (X23.ireturnOut hx Bd.returns (rfl) (by simp) (dB d2_14) hr_), hrun, hended, _, _, rfl, ?_, ⟨_, rfl⟩, hW, hsame.mono (by first | decide | omega) (by first | decide | omega)⟩
  show Q_own_cod1 Z x z h0 n0 _ T23.heap _
  rw [e23]
  exact ⟨rfl, N0, rfl⟩
theorem d3_17 : decode kM3 17 = .ok (.iconst 0, 1) := by decide +kernel
def Q_own_sil1 (Z : State) (b : Addr) (z : Int32) (h0 : Heap) (n0 : Nat) (v : Option Value) (h : Heap) (L : List Loc) : Prop := v = some (.int 0) ∧ Fr n0 L ∧ h = h0
set_option maxRecDepth 65536 in
set_option maxHeartbeats 40000000 in
theorem own_sil1 (l : Launch) (Z : State) (a0 : Array Value) (hw : ∀ d ∈ tables_1, d.before a0 Z = true) (b : Addr) (z : Int32) (h0 : Heap) (n0 : Nat) (Z0 : n0 ≤ h0.size) (X00 : Old Z n0 h0) (O2 : Sta Z Z.heap "java/lang/String" "COMPACT_STRINGS" "Z" (.int z)) (P5 : ¬ z = 0) (C : Fld Z h0 b "java/lang/AbstractStringBuilder" "coder" "B" (.int (1 : Int32))) :
    MetFree l yM3 (head1 [Jvm.Cond.code yM3 jdk_68_method_68_code 1 (some .boolean)] rM2) (fun a_ U_ => a_ = #[(.ref b)] ∧ Z.Warmed39 U_.vm ∧ U_.heap = h0) (fun _ _ _ _ _ => True) (fun _ U_ o_ V_ => ∃ v_ L_, o_ = .returned v_ ∧ Q_own_sil1 Z b z h0 n0 v_ V_.heap L_ ∧ FrameEnd U_ o_ V_ L_ rM2.cells rM2.slots) := by
  refine MetFree.of_bodySF (plainFor_of_name own_pn1) hisR ?_
  intro p e s m args below meth c s₁ Bd hml0 hP hK
  obtain ⟨rfl, hZ, hh⟩ := hP
  have hx := Bd.exec
  have hby := Bd.bytes
  have dB := @own_d c _ hby
  have hml : c.maxLocals = 1 := hml0
  have hown : s.vm.findClass "java/lang/AbstractStringBuilder" = some m.cls := findClass_of_methodNamed Bd.named
  have hnm := (name_of_methodNamed Bd.named Bd.method).1
  have X0 : Stand p l e rM2 s m #[(.ref b)] below meth c s₁ [] 0 0 := Stand.of_body Bd
  have e0 : s₁.heap = h0 := by rw [← hh, Bd.state]; rfl
  have N0 := Fr.nil n0
  have KK0 := Keep.refl h0 ([] : List Addr)
  have cc0 : Steps p.tables e below (s₁.setTop (entryFrame m #[(.ref b)] 1)) (s₁.setTop (mkF m 0 #[sR b] [])) := XT.entry rfl
  obtain ⟨S0', hS0'⟩ : ∃ S, S = (s₁.setTop (entryFrame m #[(.ref b)] 1)) := ⟨_, rfl⟩
  rw [← hS0'] at cc0
  obtain ⟨T21, X21, e21, st21⟩ := getS2 X0 hx hZ hown (host := "") (Or.inl (own_w hw 72 rfl)) Via.refl e0 (O2.ext X00.2) (g := (mkF m 0 #[sR b] [])) rfl (dB d3_0)
  have cc22 : oS p e below S0' T21 (mkF m 7 #[sR b] [(.ref b)]) := Steps.trans (cc0.trans (st21 _ (Steps.refl _))) (by
    refine XS.ifNo X21.here hx rfl (dB d3_3) rfl (i0_eq_f P5) ?_
    refine XS.aloadN X21.here hx rfl (dB d3_6) rfl rfl ?_
    exact Steps.refl _)
  obtain ⟨T23, X23, e23, st23⟩ := getF X21 hx hZ hown (host := "") (Or.inl (own_w hw 75 rfl)) Via.refl e21 C (g := (mkF m 7 #[sR b] [(.ref b)])) rfl rfl (dB d3_7)
  have cc24 : oS p e below S0' T23 (mkF m 18 #[sR b] [(.int 0)]) := Steps.trans (cc22.trans (st23 _ (Steps.refl _))) (by
    refine XS.ifYes X23.here hx rfl (pc0 := 10) rfl (dB d3_10) rfl (i0_ne_t (by decide)) (by decide) rfl ?_
    refine iconstV X23.here hx rfl 0 (dB d3_17) (by decide) ?_
    exact Steps.refl _)
  have cE := cc24
  rw [hS0'] at cE
  obtain ⟨fs, hr_, hrun, hended, hW, hsame⟩ := X23.leave (v := some (.int 0)) (fun h => by rw [Bd.returns] at h; cases h)
  refine ⟨_, _, cE.trans (X23.ireturnOut hx Bd.returns (rfl) (by simp) (dB d3_18) hr_), hrun, hended, _, _, rfl, ?_, ⟨_, rfl⟩, hW, hsame.mono (by first | decide | omega) (by first | decide | omega)⟩
  show Q_own_sil1 Z b z h0 n0 _ T23.heap _
  rw [e23]
  exact ⟨rfl, N0, rfl⟩
theorem d4_0 : decode kM4 0 = .ok (.aload_n 0, 1) := by decide +kernel
theorem d4_1 : decode kM4 1 = .ok (.invokespecial 3, 3) := by decide +kernel
theorem d4_4 : decode kM4 4 = .ok (.getstatic 18, 3) := by decide +kernel
theorem d4_7 : decode kM4 7 = .ok (.ifCond .eq 18, 3) := by decide +kernel
theorem d4_10 : decode kM4 10 = .ok (.aload_n 0, 1) := by decide +kernel
theorem d4_11 : decode kM4 11 = .ok (.iload_n 1, 1) := by decide +kernel
theorem d4_12 : decode kM4 12 = .ok (.newarray .byte, 2) := by decide +kernel
theorem d4_14 : decode kM4 14 = .ok (.putfield 15, 3) := by decide +kernel
theorem d4_17 : decode kM4 17 = .ok (.aload_n 0, 1) := by decide +kernel
theorem d4_18 : decode kM4 18 = .ok (.iconst 0, 1) := by decide +kernel
theorem d4_19 : decode kM4 19 = .ok (.putfield 22, 3) := by decide +kernel
theorem d4_22 : decode kM4 22 = .ok (.goto 16, 3) := by decide +kernel
theorem d4_38 : decode kM4 38 = .ok (.return_, 1) := by decide +kernel
def Q_own_asb0 (Z : State) (b : Addr) (z : Int32) (h0 : Heap) (n0 : Nat) (v : Option Value) (h : Heap) (L : List Loc) : Prop := ∃ (t : Addr) (kt : ClassId), v = none ∧ Fr n0 L ∧ Keep h0 h [b] ∧ h0.size ≤ t ∧ Fld Z h b "java/lang/AbstractStringBuilder" "coder" "B" (.int (0 : Int32)) ∧ Fld Z h b "java/lang/AbstractStringBuilder" "count" "I" (.int (Int32.ofNat ([] : List Int32).length)) ∧ Fld Z h b "java/lang/AbstractStringBuilder" "value" "[B" (.ref t) ∧ Fld Z h b "java/lang/AbstractStringBuilder" "maybeLatin1" "Z" (.int (0 : Int32)) ∧ Arv Z h t kt .byte (16 : Int32) (own_by ([] : List Int32)) (.int (0 : Int32))
set_option maxRecDepth 65536 in
set_option maxHeartbeats 40000000 in
theorem own_asb0 (l : Launch) (Z : State) (a0 : Array Value) (hw : ∀ d ∈ tables_1, d.before a0 Z = true) (b : Addr) (z : Int32) (h0 : Heap) (n0 : Nat) (Z0 : n0 ≤ h0.size) (X00 : Old Z n0 h0) (O2 : Sta Z Z.heap "java/lang/String" "COMPACT_STRINGS" "Z" (.int z)) (P5 : ¬ z = 0) (E : Exa Z h0 b "java/lang/StringBuilder") (C : Fld Z h0 b "java/lang/AbstractStringBuilder" "coder" "B" (.int (0 : Int32))) (N : Fld Z h0 b "java/lang/AbstractStringBuilder" "count" "I" (.int (0 : Int32))) (V : Fld Z h0 b "java/lang/AbstractStringBuilder" "value" "[B" .null) (M : Fld Z h0 b "java/lang/AbstractStringBuilder" "maybeLatin1" "Z" (.int (0 : Int32))) (gb : n0 ≤ b) :
    MetFree l yM4 (head1 [Jvm.Cond.code yM4 jdk_68_method_2_code 2 none] rM3) (fun a_ U_ => a_ = #[(.ref b), (.int 16)] ∧ Z.Warmed39 U_.vm ∧ U_.heap = h0) (fun _ _ _ _ _ => True) (fun _ U_ o_ V_ => ∃ v_ L_, o_ = .returned v_ ∧ Q_own_asb0 Z b z h0 n0 v_ V_.heap L_ ∧ FrameEnd U_ o_ V_ L_ rM3.cells rM3.slots) := by
  refine MetFree.of_bodySF (plainFor_of_name own_pn1) hisR ?_
  intro p e s m args below meth c s₁ Bd hml0 hP hK
  obtain ⟨rfl, hZ, hh⟩ := hP
  have hx := Bd.exec
  have hby := Bd.bytes
  have dB := @own_d c _ hby
  have hml : c.maxLocals = 2 := hml0
  have hown : s.vm.findClass "java/lang/AbstractStringBuilder" = some m.cls := findClass_of_methodNamed Bd.named
  have hnm := (name_of_methodNamed Bd.named Bd.method).1
  have X0 : Stand p l e rM3 s m #[(.ref b), (.int 16)] below meth c s₁ [] 0 0 := Stand.of_body Bd
  have e0 : s₁.heap = h0 := by rw [← hh, Bd.state]; rfl
  have N0 := Fr.nil n0
  have KK0 := Keep.refl h0 [b]
  have cc0 : Steps p.tables e below (s₁.setTop (entryFrame m #[(.ref b), (.int 16)] 2)) (s₁.setTop (mkF m 0 #[sR b, sI 16] [])) := XT.entry rfl
  obtain ⟨S0', hS0'⟩ : ∃ S, S = (s₁.setTop (entryFrame m #[(.ref b), (.int 16)] 2)) := ⟨_, rfl⟩
  rw [← hS0'] at cc0
  have w_60 := own_w hw 60 rfl
  have w_74 := own_w hw 74 rfl
  have w_76 := own_w hw 76 rfl
  have w_98 := own_w hw 98 rfl
  have w_239 := own_w hw 239 rfl
  have cc21 : oS p e below S0' s₁ (mkF m 1 #[sR b, sI 16] [(.ref b)]) := Steps.trans cc0 (by
    refine XS.aloadN X0.here hx rfl (dB d4_0) rfl rfl ?_
    exact Steps.refl _)
  obtain ⟨T22, X22, e22, st22⟩ := initO X0 hx hZ hown (own_w hw 71 rfl) (own_w hw 17 rfl) (own_w hw 18 rfl) e0 (g := (mkF m 1 #[sR b, sI 16] [(.ref b)])) rfl (by rw [hml]; rfl) rfl (dB d4_1) (by decide) (W := 0) (by show 2 * 0 + _ ≤ _; exact Nat.le_of_eq rfl) (by decide)
  have cc23 : oS p e below S0' T22 (mkF m 4 #[sR b, sI 16] []) := (cc21.trans (st22 _ (Steps.refl _)))
  obtain ⟨T24, X24, e24, st24⟩ := getS2 X22 hx hZ hown (host := "") (Or.inl (own_w hw 72 rfl)) Via.refl e22 (O2.ext X00.2) (g := (mkF m 4 #[sR b, sI 16] [])) rfl (dB d4_4)
  have cc25 : oS p e below S0' T24 (mkF m 12 #[sR b, sI 16] [(.int 16), (.ref b)]) := Steps.trans (cc23.trans (st24 _ (Steps.refl _))) (by
    refine XS.ifNo X24.here hx rfl (dB d4_7) rfl (i0_eq_f P5) ?_
    refine XS.aloadN X24.here hx rfl (dB d4_10) rfl rfl ?_
    refine XS.iloadN X24.here hx rfl (dB d4_11) rfl ?_
    exact Steps.refl _)
  obtain ⟨T26, h26, k26, X26, e26, E26, A26, st26⟩ := newP X24 hx hZ (aty := .byte) (own_w hw 24 rfl) e24 (g := (mkF m 12 #[sR b, sI 16] [(.int 16), (.ref b)])) rfl (dB d4_12) rfl (by decide) (cap := 16) (by decide) (by decide) (by decide) (by decide)
  obtain ⟨t, g_t⟩ : ∃ z, z = h0.size := ⟨_, rfl⟩
  rw [← g_t] at A26 st26
  have K26 := (Keep.refl h0 ([] : List Addr)).ext E26
  have b_t : h0.size ≤ t := (Nat.le_of_eq g_t.symm)
  have gn_t : n0 ≤ t := Nat.le_trans Z0 b_t
  have s0_t : h0.size ≤ t := Nat.le_trans KK0.1 b_t
  have ne_b_t : b ≠ t := Nat.ne_of_lt (Nat.lt_of_lt_of_le E.lt b_t)
  have KK1 : Keep h0 h26 [b] := KK0.trans K26 all0
  have Zs1 : n0 ≤ h26.size := Nat.le_trans Z0 K26.1
  have cc28 : oS p e below S0' T26 (mkF m 14 #[sR b, sI 16] [(.ref t), (.ref b)]) := (cc25.trans (st26 _ (Steps.refl _)))
  have fa27 : Fld Z h26 b "java/lang/AbstractStringBuilder" "value" "[B" .null := (V.keep K26 nin0)
  have fa29 : Exa Z h26 b "java/lang/StringBuilder" := (E.keep K26)
  obtain ⟨T30, h30, X30, e30, W30, st30⟩ := putF X26 hx hZ hown (host := "") (Or.inl (own_w hw 73 rfl)) Via.refl e26 fa27 fa29 (Or.inl w_74) w_60 (ty := (.array .byte)) (by decide) rfl rfl (g := (mkF m 14 #[sR b, sI 16] [(.ref t), (.ref b)])) rfl rfl (dB d4_14)
  have K30 := Keep.of_wr W30
  have N30 := Fr.snoc X30 N0 gb
  have KK2 : Keep h0 h30 [b] := KK1.trans K30 (allS (Or.inl (List.mem_of_getElem? (i := 0) rfl)) all0)
  have Zs2 : n0 ≤ h30.size := Nat.le_trans Zs1 K30.1
  have cc32 : oS p e below S0' T30 (mkF m 19 #[sR b, sI 16] [(.int 0), (.ref b)]) := Steps.trans (cc28.trans (st30 _ (Steps.refl _))) (by
    refine XS.aloadN X30.here hx rfl (dB d4_17) rfl rfl ?_
    refine iconstV X30.here hx rfl 0 (dB d4_18) (by decide) ?_
    exact Steps.refl _)
  have fa31 : Fld Z h30 b "java/lang/AbstractStringBuilder" "coder" "B" (.int (0 : Int32)) := ((C.keep K26 nin0).other W30 (Or.inr (slot_ne (Or.inl w_76) (Or.inl w_74) (by decide) (t := .byte) (t' := (.array .byte)) (by decide) (by decide))))
  have fa33 : Exa Z h30 b "java/lang/StringBuilder" := (fa29.keep K30)
  obtain ⟨T34, h34, X34, e34, W34, st34⟩ := putFN X30 hx hZ hown (own_w hw 75 rfl) Via.refl e30 fa31 fa33 (Or.inl w_76) w_60 (ty := .byte) (v' := (.int (0 : Int32))) (by decide) rfl rfl (g := (mkF m 19 #[sR b, sI 16] [(.int 0), (.ref b)])) rfl rfl (dB d4_19)
  have K34 := Keep.of_wr W34
  have N34 := Fr.snoc X34 N30 gb
  have KK3 : Keep h0 h34 [b] := KK2.trans K34 (allS (Or.inl (List.mem_of_getElem? (i := 0) rfl)) all0)
  have Zs3 : n0 ≤ h34.size := Nat.le_trans Zs2 K34.1
  have cc36 : oS p e below S0' T34 (mkF m 38 #[sR b, sI 16] []) := Steps.trans (cc32.trans (st34 _ (Steps.refl _))) (by
    refine XS.goto X34.here hx rfl (pc0 := 22) rfl (dB d4_22) (by decide) rfl ?_
    exact Steps.refl _)
  have fa35 : Fld Z h34 b "java/lang/AbstractStringBuilder" "count" "I" (.int (0 : Int32)) := (((N.keep K26 nin0).other W30 (Or.inr (slot_ne (Or.inl w_98) (Or.inl w_74) (by decide) (t := .int) (t' := (.array .byte)) (by decide) (by decide)))).other W34 (Or.inr (slot_ne (Or.inl w_98) (Or.inl w_76) (by decide) (t := .int) (t' := .byte) (by decide) (by decide))))
  have fa37 : Fld Z h34 b "java/lang/AbstractStringBuilder" "value" "[B" (.ref t) := ((Fld.same W30 fa27).other W34 (Or.inr (slot_ne (Or.inl w_74) (Or.inl w_76) (by decide) (t := (.array .byte)) (t' := .byte) (by decide) (by decide))))
  have fa38 : Fld Z h34 b "java/lang/AbstractStringBuilder" "maybeLatin1" "Z" (.int (0 : Int32)) := (((M.keep K26 nin0).other W30 (Or.inr (slot_ne (Or.inl w_239) (Or.inl w_74) (by decide) (t := .boolean) (t' := (.array .byte)) (by decide) (by decide)))).other W34 (Or.inr (slot_ne (Or.inl w_239) (Or.inl w_76) (by decide) (t := .boolean) (t' := .byte) (by decide) (by decide))))
  have fa39 : Arv Z h34 t k26 .byte (16 : Int32) ([]) (.int (0 : Int32)) := (((Arv.new A26 (by decide)).keep K30 (ninS (Ne.symm ne_b_t) nin0)).keep K34 (ninS (Ne.symm ne_b_t) nin0))
  have cE := cc36
  rw [hS0'] at cE
  obtain ⟨fs, hr_, hrun, hended, hW, hsame⟩ := X34.leave (v := none) (fun _ => rfl)
  refine ⟨_, _, cE.trans (X34.returnOut hx Bd.returns (dB d4_38) hr_), hrun, hended, _, _, rfl, ?_, ⟨_, rfl⟩, hW, hsame.mono (by first | decide | omega) (by first | decide | omega)⟩
  show Q_own_asb0 Z b z h0 n0 _ T34.heap _
  rw [e34]
  exact ⟨t, _, rfl, N34, KK3, s0_t, (Fld.same W34 fa31), fa35, fa37, fa38, fa39⟩
theorem d5_0 : decode kM5 0 = .ok (.aload_n 0, 1) := by decide +kernel
theorem d5_1 : decode kM5 1 = .ok (.bipush 16, 2) := by decide +kernel
theorem d5_3 : decode kM5 3 = .ok (.invokespecial 1, 3) := by decide +kernel
theorem d5_6 : decode kM5 6 = .ok (.return_, 1) := by decide +kernel
def Q_own_sb0 (Z : State) (b : Addr) (z : Int32) (h0 : Heap) (n0 : Nat) (v : Option Value) (h : Heap) (L : List Loc) : Prop := ∃ (t : Addr) (kt : ClassId), v = none ∧ Fr n0 L ∧ Keep h0 h [b] ∧ h0.size ≤ t ∧ Fld Z h b "java/lang/AbstractStringBuilder" "coder" "B" (.int (0 : Int32)) ∧ Fld Z h b "java/lang/AbstractStringBuilder" "count" "I" (.int (Int32.ofNat ([] : List Int32).length)) ∧ Fld Z h b "java/lang/AbstractStringBuilder" "value" "[B" (.ref t) ∧ Fld Z h b "java/lang/AbstractStringBuilder" "maybeLatin1" "Z" (.int (0 : Int32)) ∧ Arv Z h t kt .byte (16 : Int32) (own_by ([] : List Int32)) (.int (0 : Int32))
set_option maxRecDepth 65536 in
set_option maxHeartbeats 40000000 in
theorem own_sb0 (l : Launch) (Z : State) (a0 : Array Value) (hw : ∀ d ∈ tables_1, d.before a0 Z = true) (b : Addr) (z : Int32) (h0 : Heap) (n0 : Nat) (Z0 : n0 ≤ h0.size) (X00 : Old Z n0 h0) (O2 : Sta Z Z.heap "java/lang/String" "COMPACT_STRINGS" "Z" (.int z)) (P5 : ¬ z = 0) (E : Exa Z h0 b "java/lang/StringBuilder") (C : Fld Z h0 b "java/lang/AbstractStringBuilder" "coder" "B" (.int (0 : Int32))) (N : Fld Z h0 b "java/lang/AbstractStringBuilder" "count" "I" (.int (0 : Int32))) (V : Fld Z h0 b "java/lang/AbstractStringBuilder" "value" "[B" .null) (M : Fld Z h0 b "java/lang/AbstractStringBuilder" "maybeLatin1" "Z" (.int (0 : Int32))) (gb : n0 ≤ b) :
    MetFree l yM5 (head1 [Jvm.Cond.code yM5 jdk_67_method_1_code 1 none] rM4) (fun a_ U_ => a_ = #[(.ref b)] ∧ Z.Warmed39 U_.vm ∧ U_.heap = h0) (fun _ _ _ _ _ => True) (fun _ U_ o_ V_ => ∃ v_ L_, o_ = .returned v_ ∧ Q_own_sb0 Z b z h0 n0 v_ V_.heap L_ ∧ FrameEnd U_ o_ V_ L_ rM4.cells rM4.slots) := by
  refine MetFree.of_bodySF (plainFor_of_name own_pn2) hisR ?_
  intro p e s m args below meth c s₁ Bd hml0 hP hK
  obtain ⟨rfl, hZ, hh⟩ := hP
  have hx := Bd.exec
  have hby := Bd.bytes
  have dB := @own_d c _ hby
  have hml : c.maxLocals = 1 := hml0
  have hown : s.vm.findClass "java/lang/StringBuilder" = some m.cls := findClass_of_methodNamed Bd.named
  have hnm := (name_of_methodNamed Bd.named Bd.method).1
  have X0 : Stand p l e rM4 s m #[(.ref b)] below meth c s₁ [] 0 0 := Stand.of_body Bd
  have e0 : s₁.heap = h0 := by rw [← hh, Bd.state]; rfl
  have N0 := Fr.nil n0
  have KK0 := Keep.refl h0 [b]
  have cc0 : Steps p.tables e below (s₁.setTop (entryFrame m #[(.ref b)] 1)) (s₁.setTop (mkF m 0 #[sR b] [])) := XT.entry rfl
  obtain ⟨S0', hS0'⟩ : ∃ S, S = (s₁.setTop (entryFrame m #[(.ref b)] 1)) := ⟨_, rfl⟩
  rw [← hS0'] at cc0
  have w_70 := own_w hw 70 rfl
  have cc21 : oS p e below S0' s₁ (mkF m 3 #[sR b] [(.int 16), (.ref b)]) := Steps.trans cc0 (by
    refine XS.aloadN X0.here hx rfl (dB d5_0) rfl rfl ?_
    refine bipushV X0.here hx rfl 16 (dB d5_1) (by decide) ?_
    exact Steps.refl _)
  obtain ⟨_, _, ⟨T22, L22, k22, n22⟩, -, X22, ⟨Lc22, hQ22, l22, y22, z22⟩, st22⟩ := X0.specialBack hx (y := yM4) rfl hown (mvT hZ (own_w hw 65 rfl)) (mvT hZ (own_w hw 66 rfl)) (mvT hZ w_70) (by decide) (backOf (W := 0) (own_asb0 l Z a0 hw b z h0 n0 Z0 X00 O2 P5 E C N V M gb) hZ w_70 (own_w hw 69 rfl) (by decide) (by decide)) (g := (mkF m 3 #[sR b] [(.int 16), (.ref b)])) rfl (by rw [hml]; rfl) (Steps.refl _) (a := b) (argsL := [(.int 16)]) (rest := []) (lenOf own_pd1 rfl) rfl (Nat.le_of_eq rfl) (dB d5_3) (fun _ _ => ⟨rfl, e0, Nat.le_of_ble_eq_true rfl, Nat.le_of_ble_eq_true rfl⟩)
  dsimp only [Pt.U, Pt.locs, Pt.cells, Pt.slots] at X22 l22 y22 z22 st22 hQ22
  subst l22 y22 z22
  obtain ⟨t, kt, rfl, Nq22, Kq22, s0q22, f122, f222, f322, f422, f522⟩ := hQ22
  have N22 := Fr.app N0 Nq22
  have KK1 : Keep h0 T22.heap [b] := KK0.trans Kq22 (allS (Or.inl (List.mem_of_getElem? (i := 0) rfl)) all0)
  have Zs1 : n0 ≤ T22.heap.size := Nat.le_trans Z0 Kq22.1
  have e22 : T22.heap = T22.heap := rfl
  have cc23 : oS p e below S0' T22 (mkF m 6 #[sR b] []) := (Steps.trans cc21 st22)
  have cE := cc23
  rw [hS0'] at cE
  obtain ⟨fs, hr_, hrun, hended, hW, hsame⟩ := X22.leave (v := none) (fun _ => rfl)
  refine ⟨_, _, cE.trans (X22.returnOut hx Bd.returns (dB d5_6) hr_), hrun, hended, _, _, rfl, ?_, ⟨_, rfl⟩, hW, hsame.mono (by first | decide | omega) (by first | decide | omega)⟩
  show Q_own_sb0 Z b z h0 n0 _ T22.heap _
  rw [e22]
  exact ⟨t, kt, rfl, N22, KK1, s0q22, f122, f222, f322, f422, f522⟩
theorem own_cap {n : Nat} (h : n ≤ 16) : ¬ (0 : Int32) < Int32.ofNat n - ((16 : Int32) >>> ((0 : Int32) &&& 31)) := by
  have t : ∀ k : Fin 17, ¬ (0 : Int32) < Int32.ofNat k.val - ((16 : Int32) >>> ((0 : Int32) &&& 31)) := by decide +kernel
  exact t ⟨n, by omega⟩
theorem d6_0 : decode kM6 0 = .ok (.aload_n 0, 1) := by decide +kernel
theorem d6_1 : decode kM6 1 = .ok (.getfield 15, 3) := by decide +kernel
theorem d6_4 : decode kM6 4 = .ok (.arraylength, 1) := by decide +kernel
theorem d6_5 : decode kM6 5 = .ok (.aload_n 0, 1) := by decide +kernel
theorem d6_6 : decode kM6 6 = .ok (.getfield 22, 3) := by decide +kernel
theorem d6_9 : decode kM6 9 = .ok (.ishr, 1) := by decide +kernel
theorem d6_10 : decode kM6 10 = .ok (.istore_n 2, 1) := by decide +kernel
theorem d6_11 : decode kM6 11 = .ok (.iload_n 1, 1) := by decide +kernel
theorem d6_12 : decode kM6 12 = .ok (.iload_n 2, 1) := by decide +kernel
theorem d6_13 : decode kM6 13 = .ok (.isub, 1) := by decide +kernel
theorem d6_14 : decode kM6 14 = .ok (.ifCond .le 24, 3) := by decide +kernel
theorem d6_38 : decode kM6 38 = .ok (.return_, 1) := by decide +kernel
def Q_own_eci0 (Z : State) (b t : Addr) (kt : ClassId) (bs : List Int32) (n : Nat) (h0 : Heap) (n0 : Nat) (v : Option Value) (h : Heap) (L : List Loc) : Prop := v = none ∧ Fr n0 L ∧ h = h0
set_option maxRecDepth 65536 in
set_option maxHeartbeats 40000000 in
theorem own_eci0 (l : Launch) (Z : State) (a0 : Array Value) (hw : ∀ d ∈ tables_1, d.before a0 Z = true) (b t : Addr) (kt : ClassId) (bs : List Int32) (n : Nat) (h0 : Heap) (n0 : Nat) (Z0 : n0 ≤ h0.size) (E : Exa Z h0 b "java/lang/StringBuilder") (C : Fld Z h0 b "java/lang/AbstractStringBuilder" "coder" "B" (.int (0 : Int32))) (N : Fld Z h0 b "java/lang/AbstractStringBuilder" "count" "I" (.int (Int32.ofNat bs.length))) (V : Fld Z h0 b "java/lang/AbstractStringBuilder" "value" "[B" (.ref t)) (M : Fld Z h0 b "java/lang/AbstractStringBuilder" "maybeLatin1" "Z" (.int (0 : Int32))) (A : Arv Z h0 t kt .byte (16 : Int32) (own_by bs) (.int (0 : Int32))) (hn : n ≤ 16) :
    MetFree l yM6 (head1 [Jvm.Cond.code yM6 jdk_68_method_9_code 3 none] rM2) (fun a_ U_ => a_ = #[(.ref b), (.int (Int32.ofNat n))] ∧ Z.Warmed39 U_.vm ∧ U_.heap = h0) (fun _ _ _ _ _ => True) (fun _ U_ o_ V_ => ∃ v_ L_, o_ = .returned v_ ∧ Q_own_eci0 Z b t kt bs n h0 n0 v_ V_.heap L_ ∧ FrameEnd U_ o_ V_ L_ rM2.cells rM2.slots) := by
  refine MetFree.of_bodySF (plainFor_of_name own_pn1) hisR ?_
  intro p e s m args below meth c s₁ Bd hml0 hP hK
  obtain ⟨rfl, hZ, hh⟩ := hP
  have hx := Bd.exec
  have hby := Bd.bytes
  have dB := @own_d c _ hby
  have hml : c.maxLocals = 3 := hml0
  have hown : s.vm.findClass "java/lang/AbstractStringBuilder" = some m.cls := findClass_of_methodNamed Bd.named
  have hnm := (name_of_methodNamed Bd.named Bd.method).1
  have X0 : Stand p l e rM2 s m #[(.ref b), (.int (Int32.ofNat n))] below meth c s₁ [] 0 0 := Stand.of_body Bd
  have e0 : s₁.heap = h0 := by rw [← hh, Bd.state]; rfl
  have N0 := Fr.nil n0
  have KK0 := Keep.refl h0 ([] : List Addr)
  have cc0 : Steps p.tables e below (s₁.setTop (entryFrame m #[(.ref b), (.int (Int32.ofNat n))] 3)) (s₁.setTop (mkF m 0 #[sR b, sI (Int32.ofNat n), .unset] [])) := XT.entry rfl
  obtain ⟨S0', hS0'⟩ : ∃ S, S = (s₁.setTop (entryFrame m #[(.ref b), (.int (Int32.ofNat n))] 3)) := ⟨_, rfl⟩
  rw [← hS0'] at cc0
  have cc21 : oS p e below S0' s₁ (mkF m 1 #[sR b, sI (Int32.ofNat n), .unset] [(.ref b)]) := Steps.trans cc0 (by
    refine XS.aloadN X0.here hx rfl (dB d6_0) rfl rfl ?_
    exact Steps.refl _)
  obtain ⟨T22, X22, e22, st22⟩ := getF X0 hx hZ hown (host := "") (Or.inl (own_w hw 73 rfl)) Via.refl e0 V (g := (mkF m 1 #[sR b, sI (Int32.ofNat n), .unset] [(.ref b)])) rfl rfl (dB d6_1)
  have cc23 : oS p e below S0' T22 (mkF m 4 #[sR b, sI (Int32.ofNat n), .unset] [(.ref t)]) := (cc21.trans (st22 _ (Steps.refl _)))
  obtain ⟨clu24, Aru24, -, Su24, Ngu24, -, -⟩ := id A
  have cl_u24 := X22.arraylength hx (by rw [e22]; exact Aru24.1) (State.isArrayOf_alike (hZ).alike Aru24.2.1) (g := (mkF m 4 #[sR b, sI (Int32.ofNat n), .unset] [(.ref t)])) rfl rfl (dB d6_4) _ (Steps.refl _)
  rw [len_of Su24 Ngu24] at cl_u24
  have cc25 : oS p e below S0' T22 (mkF m 6 #[sR b, sI (Int32.ofNat n), .unset] [(.ref b), (.int (16 : Int32))]) := Steps.trans (Steps.trans cc23 cl_u24) (by
    refine XS.aloadN X22.here hx rfl (dB d6_5) rfl rfl ?_
    exact Steps.refl _)
  obtain ⟨T26, X26, e26, st26⟩ := getF X22 hx hZ hown (host := "") (Or.inl (own_w hw 75 rfl)) Via.refl e22 C (g := (mkF m 6 #[sR b, sI (Int32.ofNat n), .unset] [(.ref b), (.int (16 : Int32))])) rfl rfl (dB d6_6)
  have cc27 : oS p e below S0' T26 (mkF m 38 #[sR b, sI (Int32.ofNat n), sI ((16 : Int32) >>> ((0 : Int32) &&& 31))] []) := Steps.trans (cc25.trans (st26 _ (Steps.refl _))) (by
    refine XT.ishr X26.here hx rfl (dB d6_9) rfl ?_
    refine XS.istoreN X26.here hx rfl (dB d6_10) rfl rfl ?_
    refine XS.iloadN X26.here hx rfl (dB d6_11) rfl ?_
    refine XS.iloadN X26.here hx rfl (dB d6_12) rfl ?_
    refine XS.isub X26.here hx rfl (dB d6_13) rfl ?_
    refine XS.ifYes X26.here hx rfl (pc0 := 14) rfl (dB d6_14) rfl (i0_le_t (own_cap hn)) (by decide) rfl ?_
    exact Steps.refl _)
  have cE := cc27
  rw [hS0'] at cE
  obtain ⟨fs, hr_, hrun, hended, hW, hsame⟩ := X26.leave (v := none) (fun _ => rfl)
  refine ⟨_, _, cE.trans (X26.returnOut hx Bd.returns (dB d6_38) hr_), hrun, hended, _, _, rfl, ?_, ⟨_, rfl⟩, hW, hsame.mono (by first | decide | omega) (by first | decide | omega)⟩
  show Q_own_eci0 Z b t kt bs n h0 n0 _ T26.heap _
  rw [e26]
  exact ⟨rfl, N0, rfl⟩
def Q_own_eci1 (Z : State) (b t : Addr) (kt : ClassId) (bs : List Int32) (n : Nat) (h0 : Heap) (n0 : Nat) (v : Option Value) (h : Heap) (L : List Loc) : Prop := v = none ∧ Fr n0 L ∧ h = h0
set_option maxRecDepth 65536 in
set_option maxHeartbeats 40000000 in
theorem own_eci1 (l : Launch) (Z : State) (a0 : Array Value) (hw : ∀ d ∈ tables_1, d.before a0 Z = true) (b t : Addr) (kt : ClassId) (bs : List Int32) (n : Nat) (h0 : Heap) (n0 : Nat) (Z0 : n0 ≤ h0.size) (E : Exa Z h0 b "java/lang/StringBuilder") (C : Fld Z h0 b "java/lang/AbstractStringBuilder" "coder" "B" (.int (1 : Int32))) (N : Fld Z h0 b "java/lang/AbstractStringBuilder" "count" "I" (.int (Int32.ofNat bs.length))) (V : Fld Z h0 b "java/lang/AbstractStringBuilder" "value" "[B" (.ref t)) (M : Fld Z h0 b "java/lang/AbstractStringBuilder" "maybeLatin1" "Z" (.int (0 : Int32))) (A : Arv Z h0 t kt .byte (32 : Int32) (StrChars.Road.wideBytes bs) (.int (0 : Int32))) (hn : n ≤ 16) :
    MetFree l yM6 (head1 [Jvm.Cond.code yM6 jdk_68_method_9_code 3 none] rM2) (fun a_ U_ => a_ = #[(.ref b), (.int (Int32.ofNat n))] ∧ Z.Warmed39 U_.vm ∧ U_.heap = h0) (fun _ _ _ _ _ => True) (fun _ U_ o_ V_ => ∃ v_ L_, o_ = .returned v_ ∧ Q_own_eci1 Z b t kt bs n h0 n0 v_ V_.heap L_ ∧ FrameEnd U_ o_ V_ L_ rM2.cells rM2.slots) := by
  refine MetFree.of_bodySF (plainFor_of_name own_pn1) hisR ?_
  intro p e s m args below meth c s₁ Bd hml0 hP hK
  obtain ⟨rfl, hZ, hh⟩ := hP
  have hx := Bd.exec
  have hby := Bd.bytes
  have dB := @own_d c _ hby
  have hml : c.maxLocals = 3 := hml0
  have hown : s.vm.findClass "java/lang/AbstractStringBuilder" = some m.cls := findClass_of_methodNamed Bd.named
  have hnm := (name_of_methodNamed Bd.named Bd.method).1
  have X0 : Stand p l e rM2 s m #[(.ref b), (.int (Int32.ofNat n))] below meth c s₁ [] 0 0 := Stand.of_body Bd
  have e0 : s₁.heap = h0 := by rw [← hh, Bd.state]; rfl
  have N0 := Fr.nil n0
  have KK0 := Keep.refl h0 ([] : List Addr)
  have cc0 : Steps p.tables e below (s₁.setTop (entryFrame m #[(.ref b), (.int (Int32.ofNat n))] 3)) (s₁.setTop (mkF m 0 #[sR b, sI (Int32.ofNat n), .unset] [])) := XT.entry rfl
  obtain ⟨S0', hS0'⟩ : ∃ S, S = (s₁.setTop (entryFrame m #[(.ref b), (.int (Int32.ofNat n))] 3)) := ⟨_, rfl⟩
  rw [← hS0'] at cc0
  have cc21 : oS p e below S0' s₁ (mkF m 1 #[sR b, sI (Int32.ofNat n), .unset] [(.ref b)]) := Steps.trans cc0 (by
    refine XS.aloadN X0.here hx rfl (dB d6_0) rfl rfl ?_
    exact Steps.refl _)
  obtain ⟨T22, X22, e22, st22⟩ := getF X0 hx hZ hown (host := "") (Or.inl (own_w hw 73 rfl)) Via.refl e0 V (g := (mkF m 1 #[sR b, sI (Int32.ofNat n), .unset] [(.ref b)])) rfl rfl (dB d6_1)
  have cc23 : oS p e below S0' T22 (mkF m 4 #[sR b, sI (Int32.ofNat n), .unset] [(.ref t)]) := (cc21.trans (st22 _ (Steps.refl _)))
  obtain ⟨clu24, Aru24, -, Su24, Ngu24, -, -⟩ := id A
  have cl_u24 := X22.arraylength hx (by rw [e22]; exact Aru24.1) (State.isArrayOf_alike (hZ).alike Aru24.2.1) (g := (mkF m 4 #[sR b, sI (Int32.ofNat n), .unset] [(.ref t)])) rfl rfl (dB d6_4) _ (Steps.refl _)
  rw [len_of Su24 Ngu24] at cl_u24
  have cc25 : oS p e below S0' T22 (mkF m 6 #[sR b, sI (Int32.ofNat n), .unset] [(.ref b), (.int (32 : Int32))]) := Steps.trans (Steps.trans cc23 cl_u24) (by
    refine XS.aloadN X22.here hx rfl (dB d6_5) rfl rfl ?_
    exact Steps.refl _)
  obtain ⟨T26, X26, e26, st26⟩ := getF X22 hx hZ hown (host := "") (Or.inl (own_w hw 75 rfl)) Via.refl e22 C (g := (mkF m 6 #[sR b, sI (Int32.ofNat n), .unset] [(.ref b), (.int (32 : Int32))])) rfl rfl (dB d6_6)
  have cc27 : oS p e below S0' T26 (mkF m 38 #[sR b, sI (Int32.ofNat n), sI ((32 : Int32) >>> ((1 : Int32) &&& 31))] []) := Steps.trans (cc25.trans (st26 _ (Steps.refl _))) (by
    refine XT.ishr X26.here hx rfl (dB d6_9) rfl ?_
    refine XS.istoreN X26.here hx rfl (dB d6_10) rfl rfl ?_
    refine XS.iloadN X26.here hx rfl (dB d6_11) rfl ?_
    refine XS.iloadN X26.here hx rfl (dB d6_12) rfl ?_
    refine XS.isub X26.here hx rfl (dB d6_13) rfl ?_
    refine XS.ifYes X26.here hx rfl (pc0 := 14) rfl (dB d6_14) rfl (i0_le_t (own_capw hn)) (by decide) rfl ?_
    exact Steps.refl _)
  have cE := cc27
  rw [hS0'] at cE
  obtain ⟨fs, hr_, hrun, hended, hW, hsame⟩ := X26.leave (v := none) (fun _ => rfl)
  refine ⟨_, _, cE.trans (X26.returnOut hx Bd.returns (dB d6_38) hr_), hrun, hended, _, _, rfl, ?_, ⟨_, rfl⟩, hW, hsame.mono (by first | decide | omega) (by first | decide | omega)⟩
  show Q_own_eci1 Z b t kt bs n h0 n0 _ T26.heap _
  rw [e26]
  exact ⟨rfl, N0, rfl⟩
theorem d7_0 : decode kM7 0 = .ok (.iload_n 0, 1) := by decide +kernel
theorem d7_1 : decode kM7 1 = .ok (.ifCond .ge 11, 3) := by decide +kernel
theorem d7_12 : decode kM7 12 = .ok (.iload_n 0, 1) := by decide +kernel
theorem d7_13 : decode kM7 13 = .ok (.ldc 20, 2) := by decide +kernel
theorem d7_15 : decode kM7 15 = .ok (.if_icmp .lt 40, 3) := by decide +kernel
theorem d7_55 : decode kM7 55 = .ok (.iload_n 0, 1) := by decide +kernel
theorem d7_56 : decode kM7 56 = .ok (.iconst 1, 1) := by decide +kernel
theorem d7_57 : decode kM7 57 = .ok (.ishl, 1) := by decide +kernel
theorem d7_58 : decode kM7 58 = .ok (.ireturn, 1) := by decide +kernel
def Q_own_nbl (Z : State)  (h0 : Heap) (n0 : Nat) (v : Option Value) (h : Heap) (L : List Loc) : Prop := v = some (.int 32) ∧ Fr n0 L ∧ h = h0
set_option maxRecDepth 65536 in
set_option maxHeartbeats 40000000 in
theorem own_nbl (l : Launch) (Z : State) (a0 : Array Value) (hw : ∀ d ∈ tables_1, d.before a0 Z = true)  (h0 : Heap) (n0 : Nat) (Z0 : n0 ≤ h0.size)  :
    MetFree l yM7 (head1 [Jvm.Cond.code yM7 jdk_52_method_3_code 1 (some .int)] rM2) (fun a_ U_ => a_ = #[(.int 16)] ∧ Z.Warmed39 U_.vm ∧ U_.heap = h0) (fun _ _ _ _ _ => True) (fun _ U_ o_ V_ => ∃ v_ L_, o_ = .returned v_ ∧ Q_own_nbl Z  h0 n0 v_ V_.heap L_ ∧ FrameEnd U_ o_ V_ L_ rM2.cells rM2.slots) := by
  refine MetFree.of_bodySF (plainFor_of_name own_pn3) hisR ?_
  intro p e s m args below meth c s₁ Bd hml0 hP hK
  obtain ⟨rfl, hZ, hh⟩ := hP
  have hx := Bd.exec
  have hby := Bd.bytes
  have dB := @own_d c _ hby
  have hml : c.maxLocals = 1 := hml0
  have hown : s.vm.findClass "java/lang/StringUTF16" = some m.cls := findClass_of_methodNamed Bd.named
  have hnm := (name_of_methodNamed Bd.named Bd.method).1
  have X0 : Stand p l e rM2 s m #[(.int 16)] below meth c s₁ [] 0 0 := Stand.of_body Bd
  have e0 : s₁.heap = h0 := by rw [← hh, Bd.state]; rfl
  have N0 := Fr.nil n0
  have KK0 := Keep.refl h0 ([] : List Addr)
  have cc0 : Steps p.tables e below (s₁.setTop (entryFrame m #[(.int 16)] 1)) (s₁.setTop (mkF m 0 #[sI 16] [])) := XT.entry rfl
  obtain ⟨S0', hS0'⟩ : ∃ S, S = (s₁.setTop (entryFrame m #[(.int 16)] 1)) := ⟨_, rfl⟩
  rw [← hS0'] at cc0
  have cc21 : oS p e below S0' s₁ (mkF m 58 #[sI 16] [(.int ((16 : Int32) <<< ((1 : Int32) &&& 31)))]) := Steps.trans cc0 (by
    refine XS.iloadN X0.here hx rfl (dB d7_0) rfl ?_
    refine XS.ifYes X0.here hx rfl (pc0 := 1) rfl (dB d7_1) rfl (i0_ge_t (by decide)) (by decide) rfl ?_
    refine XS.iloadN X0.here hx rfl (dB d7_12) rfl ?_
    refine X0.ldcI hx hown (mvT hZ (own_w hw 202 rfl)) rfl (dB d7_13) ?_
    refine XS.icmpYes X0.here hx rfl (pc0 := 15) rfl (dB d7_15) rfl (ii_lt_t (by decide)) (by decide) rfl ?_
    refine XS.iloadN X0.here hx rfl (dB d7_55) rfl ?_
    refine iconstV X0.here hx rfl 1 (dB d7_56) (by decide) ?_
    refine XT.ishl X0.here hx rfl (dB d7_57) rfl ?_
    exact Steps.refl _)
  have cz22 : oS p e below S0' s₁ (mkF m 58 #[sI 16] [(.int 32)]) := by
    have := cc21
    rw [show (16 : Int32) <<< ((1 : Int32) &&& 31) = 32 from by decide] at this
    exact this
  have cE := cz22
  rw [hS0'] at cE
  obtain ⟨fs, hr_, hrun, hended, hW, hsame⟩ := X0.leave (v := some (.int 32)) (fun h => by rw [Bd.returns] at h; cases h)
  refine ⟨_, _, cE.trans (X0.ireturnOut hx Bd.returns (rfl) (by simp) (dB d7_58) hr_), hrun, hended, _, _, rfl, ?_, ⟨_, rfl⟩, hW, hsame.mono (by first | decide | omega) (by first | decide | omega)⟩
  show Q_own_nbl Z  h0 n0 _ s₁.heap _
  rw [e0]
  exact ⟨rfl, N0, rfl⟩
theorem d8_0 : decode kM8 0 = .ok (.iload_n 0, 1) := by decide +kernel
theorem d8_1 : decode kM8 1 = .ok (.invokestatic 11, 3) := by decide +kernel
theorem d8_4 : decode kM8 4 = .ok (.newarray .byte, 2) := by decide +kernel
theorem d8_6 : decode kM8 6 = .ok (.areturn, 1) := by decide +kernel
def Q_own_nbf (Z : State)  (h0 : Heap) (n0 : Nat) (v : Option Value) (h : Heap) (L : List Loc) : Prop := ∃ (t : Addr) (kt : ClassId), v = some (.ref t) ∧ Fr n0 L ∧ Keep h0 h [] ∧ h0.size ≤ t ∧ Arv Z h t kt .byte (32 : Int32) [] (.int (0 : Int32))
set_option maxRecDepth 65536 in
set_option maxHeartbeats 40000000 in
theorem own_nbf (l : Launch) (Z : State) (a0 : Array Value) (hw : ∀ d ∈ tables_1, d.before a0 Z = true)  (h0 : Heap) (n0 : Nat) (Z0 : n0 ≤ h0.size)  :
    MetFree l yM8 (head1 [Jvm.Cond.code yM8 jdk_52_method_2_code 1 (some (.array .byte))] rM5) (fun a_ U_ => a_ = #[(.int 16)] ∧ Z.Warmed39 U_.vm ∧ U_.heap = h0) (fun _ _ _ _ _ => True) (fun _ U_ o_ V_ => ∃ v_ L_, o_ = .returned v_ ∧ Q_own_nbf Z  h0 n0 v_ V_.heap L_ ∧ FrameEnd U_ o_ V_ L_ rM5.cells rM5.slots) := by
  refine MetFree.of_bodySF (plainFor_of_name own_pn3) hisR ?_
  intro p e s m args below meth c s₁ Bd hml0 hP hK
  obtain ⟨rfl, hZ, hh⟩ := hP
  have hx := Bd.exec
  have hby := Bd.bytes
  have dB := @own_d c _ hby
  have hml : c.maxLocals = 1 := hml0
  have hown : s.vm.findClass "java/lang/StringUTF16" = some m.cls := findClass_of_methodNamed Bd.named
  have hnm := (name_of_methodNamed Bd.named Bd.method).1
  have X0 : Stand p l e rM5 s m #[(.int 16)] below meth c s₁ [] 0 0 := Stand.of_body Bd
  have e0 : s₁.heap = h0 := by rw [← hh, Bd.state]; rfl
  have N0 := Fr.nil n0
  have KK0 := Keep.refl h0 ([] : List Addr)
  have cc0 : Steps p.tables e below (s₁.setTop (entryFrame m #[(.int 16)] 1)) (s₁.setTop (mkF m 0 #[sI 16] [])) := XT.entry rfl
  obtain ⟨S0', hS0'⟩ : ∃ S, S = (s₁.setTop (entryFrame m #[(.int 16)] 1)) := ⟨_, rfl⟩
  rw [← hS0'] at cc0
  have w_22 := own_w hw 22 rfl
  have w_201 := own_w hw 201 rfl
  have cc21 : oS p e below S0' s₁ (mkF m 1 #[sI 16] [(.int 16)]) := Steps.trans cc0 (by
    refine XS.iloadN X0.here hx rfl (dB d8_0) rfl ?_
    exact Steps.refl _)
  obtain ⟨_, _, ⟨T22, L22, k22, n22⟩, -, X22, ⟨Lc22, hQ22, l22, y22, z22⟩, st22⟩ := Jvm.LawKit.callS X0 hx (y := yM7) hown (mvT hZ (own_w hw 199 rfl)) (mvT hZ (own_w hw 200 rfl)) (mvT hZ w_22) (mvT hZ w_201) (by decide) (backOf (W := 0) (own_nbl l Z a0 hw  h0 n0 Z0 ) hZ w_201 w_22 (by decide) (by decide)) (g := (mkF m 1 #[sI 16] [(.int 16)])) rfl (by rw [hml]; rfl) (argsL := [(.int 16)]) (rest := []) (lenOf own_pd2 rfl) rfl (Nat.le_of_eq rfl) (dB d8_1) (fun _ _ => ⟨rfl, e0, Nat.le_of_ble_eq_true rfl, Nat.le_of_ble_eq_true rfl⟩)
  dsimp only [Pt.U, Pt.locs, Pt.cells, Pt.slots] at X22 l22 y22 z22 st22 hQ22
  subst l22 y22 z22
  obtain ⟨rfl, Nq22, eq22⟩ := hQ22
  have N22 := Fr.app N0 Nq22
  have e22 : T22.heap = h0 := eq22
  have cc23 : oS p e below S0' T22 (mkF m 4 #[sI 16] [(.int 32)]) := (cc21.trans (st22 _ (Steps.refl _)))
  obtain ⟨T24, h24, k24, X24, e24, E24, A24, st24⟩ := newP X22 hx hZ (aty := .byte) (own_w hw 24 rfl) e22 (g := (mkF m 4 #[sI 16] [(.int 32)])) rfl (dB d8_4) rfl (by decide) (cap := 32) (by decide) (by decide) (by decide) (by decide)
  obtain ⟨t, g_t⟩ : ∃ z, z = h0.size := ⟨_, rfl⟩
  rw [← g_t] at A24 st24
  have K24 := (Keep.refl h0 ([] : List Addr)).ext E24
  have b_t : h0.size ≤ t := (Nat.le_of_eq g_t.symm)
  have gn_t : n0 ≤ t := Nat.le_trans Z0 b_t
  have s0_t : h0.size ≤ t := Nat.le_trans KK0.1 b_t
  have KK1 : Keep h0 h24 ([] : List Addr) := KK0.trans K24 all0
  have Zs1 : n0 ≤ h24.size := Nat.le_trans Z0 K24.1
  have cc25 : oS p e below S0' T24 (mkF m 6 #[sI 16] [(.ref t)]) := (cc23.trans (st24 _ (Steps.refl _)))
  have cE := cc25
  rw [hS0'] at cE
  obtain ⟨fs, hr_, hrun, hended, hW, hsame⟩ := X24.leave (v := some (.ref t)) (fun h => by rw [Bd.returns] at h; cases h)
  refine ⟨_, _, cE.trans (X24.areturnOut hx (rfl) Bd.returns rfl (dB d8_6) hr_), hrun, hended, _, _, rfl, ?_, ⟨_, rfl⟩, hW, hsame.mono (by first | decide | omega) (by first | decide | omega)⟩
  show Q_own_nbf Z  h0 n0 _ T24.heap _
  rw [e24]
  exact ⟨t, _, rfl, N22, KK1, s0_t, (Arv.new A24 (by decide))⟩
theorem d9_0 : decode kM9 0 = .ok (.aload_n 0, 1) := by decide +kernel
theorem d9_1 : decode kM9 1 = .ok (.arraylength, 1) := by decide +kernel
theorem d9_2 : decode kM9 2 = .ok (.iconst 1, 1) := by decide +kernel
theorem d9_3 : decode kM9 3 = .ok (.ishr, 1) := by decide +kernel
theorem d9_4 : decode kM9 4 = .ok (.ireturn, 1) := by decide +kernel
def Q_own_ulen (Z : State) (t : Addr) (kt : ClassId) (n : Nat) (vs : List Value) (h0 : Heap) (n0 : Nat) (v : Option Value) (h : Heap) (L : List Loc) : Prop := v = some (.int (Int32.ofNat n)) ∧ Fr n0 L ∧ h = h0
set_option maxRecDepth 65536 in
set_option maxHeartbeats 40000000 in
theorem own_ulen (l : Launch) (Z : State) (a0 : Array Value) (hw : ∀ d ∈ tables_1, d.before a0 Z = true) (t : Addr) (kt : ClassId) (n : Nat) (vs : List Value) (h0 : Heap) (n0 : Nat) (Z0 : n0 ≤ h0.size) (A : Arv Z h0 t kt .byte (Int32.ofNat (2 * n)) vs (.int (0 : Int32))) (hn : 2 * n < 2 ^ 31) :
    MetFree l yM9 (head1 [Jvm.Cond.code yM9 jdk_52_method_6_code 1 (some .int)] rM2) (fun a_ U_ => a_ = #[(.ref t)] ∧ Z.Warmed39 U_.vm ∧ U_.heap = h0) (fun _ _ _ _ _ => True) (fun _ U_ o_ V_ => ∃ v_ L_, o_ = .returned v_ ∧ Q_own_ulen Z t kt n vs h0 n0 v_ V_.heap L_ ∧ FrameEnd U_ o_ V_ L_ rM2.cells rM2.slots) := by
  refine MetFree.of_bodySF (plainFor_of_name own_pn3) hisR ?_
  intro p e s m args below meth c s₁ Bd hml0 hP hK
  obtain ⟨rfl, hZ, hh⟩ := hP
  have hx := Bd.exec
  have hby := Bd.bytes
  have dB := @own_d c _ hby
  have hml : c.maxLocals = 1 := hml0
  have hown : s.vm.findClass "java/lang/StringUTF16" = some m.cls := findClass_of_methodNamed Bd.named
  have hnm := (name_of_methodNamed Bd.named Bd.method).1
  have X0 : Stand p l e rM2 s m #[(.ref t)] below meth c s₁ [] 0 0 := Stand.of_body Bd
  have e0 : s₁.heap = h0 := by rw [← hh, Bd.state]; rfl
  have N0 := Fr.nil n0
  have KK0 := Keep.refl h0 ([] : List Addr)
  have cc0 : Steps p.tables e below (s₁.setTop (entryFrame m #[(.ref t)] 1)) (s₁.setTop (mkF m 0 #[sR t] [])) := XT.entry rfl
  obtain ⟨S0', hS0'⟩ : ∃ S, S = (s₁.setTop (entryFrame m #[(.ref t)] 1)) := ⟨_, rfl⟩
  rw [← hS0'] at cc0
  have cc21 : oS p e below S0' s₁ (mkF m 1 #[sR t] [(.ref t)]) := Steps.trans cc0 (by
    refine XS.aloadN X0.here hx rfl (dB d9_0) rfl rfl ?_
    exact Steps.refl _)
  obtain ⟨clu22, Aru22, -, Su22, Ngu22, -, -⟩ := id A
  have cl_u22 := X0.arraylength hx (by rw [e0]; exact Aru22.1) (State.isArrayOf_alike (hZ).alike Aru22.2.1) (g := (mkF m 1 #[sR t] [(.ref t)])) rfl rfl (dB d9_1) _ (Steps.refl _)
  rw [len_of Su22 Ngu22] at cl_u22
  have cc23 : oS p e below S0' s₁ (mkF m 4 #[sR t] [(.int ((Int32.ofNat (2 * n)) >>> ((1 : Int32) &&& 31)))]) := Steps.trans (Steps.trans cc21 cl_u22) (by
    refine iconstV X0.here hx rfl 1 (dB d9_2) (by decide) ?_
    refine XT.ishr X0.here hx rfl (dB d9_3) rfl ?_
    exact Steps.refl _)
  have cz24 : oS p e below S0' s₁ (mkF m 4 #[sR t] [(.int (Int32.ofNat n))]) := by
    have := cc23
    rw [StrChars.shr1 hn] at this
    exact this
  have cE := cz24
  rw [hS0'] at cE
  obtain ⟨fs, hr_, hrun, hended, hW, hsame⟩ := X0.leave (v := some (.int (Int32.ofNat n))) (fun h => by rw [Bd.returns] at h; cases h)
  refine ⟨_, _, cE.trans (X0.ireturnOut hx Bd.returns (rfl) (by simp) (dB d9_4) hr_), hrun, hended, _, _, rfl, ?_, ⟨_, rfl⟩, hW, hsame.mono (by first | decide | omega) (by first | decide | omega)⟩
  show Q_own_ulen Z t kt n vs h0 n0 _ s₁.heap _
  rw [e0]
  exact ⟨rfl, N0, rfl⟩
theorem d10_0 : decode kM10 0 = .ok (.iload_n 2, 1) := by decide +kernel
theorem d10_1 : decode kM10 1 = .ok (.iload_n 0, 1) := by decide +kernel
theorem d10_2 : decode kM10 2 = .ok (.ior, 1) := by decide +kernel
theorem d10_3 : decode kM10 3 = .ok (.iload_n 1, 1) := by decide +kernel
theorem d10_4 : decode kM10 4 = .ok (.ior, 1) := by decide +kernel
theorem d10_5 : decode kM10 5 = .ok (.ifCond .lt 10, 3) := by decide +kernel
theorem d10_8 : decode kM10 8 = .ok (.iload_n 1, 1) := by decide +kernel
theorem d10_9 : decode kM10 9 = .ok (.iload_n 2, 1) := by decide +kernel
theorem d10_10 : decode kM10 10 = .ok (.iload_n 0, 1) := by decide +kernel
theorem d10_11 : decode kM10 11 = .ok (.isub, 1) := by decide +kernel
theorem d10_12 : decode kM10 12 = .ok (.if_icmp .le 11, 3) := by decide +kernel
theorem d10_23 : decode kM10 23 = .ok (.iload_n 0, 1) := by decide +kernel
theorem d10_24 : decode kM10 24 = .ok (.ireturn, 1) := by decide +kernel
def Q_own_cfi (Z : State) (a b n : Int32) (f : Value) (h0 : Heap) (n0 : Nat) (v : Option Value) (h : Heap) (L : List Loc) : Prop := v = some (.int a) ∧ Fr n0 L ∧ h = h0
set_option maxRecDepth 65536 in
set_option maxHeartbeats 40000000 in
theorem own_cfi (l : Launch) (Z : State) (a0 : Array Value) (hw : ∀ d ∈ tables_1, d.before a0 Z = true) (a b n : Int32) (f : Value) (h0 : Heap) (n0 : Nat) (Z0 : n0 ≤ h0.size) (h1 : ¬ ((n ||| a) ||| b) < 0) (h2 : ¬ (n - a) < b) (hf : f.isRef = true) :
    MetFree l yM10 (head1 [Jvm.Cond.code yM10 jdk_41_method_13_code 4 (some .int)] rM2) (fun a_ U_ => a_ = #[(.int a), (.int b), (.int n), f] ∧ Z.Warmed39 U_.vm ∧ U_.heap = h0) (fun _ _ _ _ _ => True) (fun _ U_ o_ V_ => ∃ v_ L_, o_ = .returned v_ ∧ Q_own_cfi Z a b n f h0 n0 v_ V_.heap L_ ∧ FrameEnd U_ o_ V_ L_ rM2.cells rM2.slots) := by
  refine MetFree.of_bodySF (plainFor_of_name own_pn4) hisR ?_
  intro p e s m args below meth c s₁ Bd hml0 hP hK
  obtain ⟨rfl, hZ, hh⟩ := hP
  have hx := Bd.exec
  have hby := Bd.bytes
  have dB := @own_d c _ hby
  have hml : c.maxLocals = 4 := hml0
  have hown : s.vm.findClass "jdk/internal/util/Preconditions" = some m.cls := findClass_of_methodNamed Bd.named
  have hnm := (name_of_methodNamed Bd.named Bd.method).1
  have X0 : Stand p l e rM2 s m #[(.int a), (.int b), (.int n), f] below meth c s₁ [] 0 0 := Stand.of_body Bd
  have e0 : s₁.heap = h0 := by rw [← hh, Bd.state]; rfl
  have N0 := Fr.nil n0
  have KK0 := Keep.refl h0 ([] : List Addr)
  have cc0 : Steps p.tables e below (s₁.setTop (entryFrame m #[(.int a), (.int b), (.int n), f] 4)) (s₁.setTop (mkF m 0 #[sI a, sI b, sI n, .val f] [])) := XT.entry (by cases f <;> first | rfl | (cases hf))
  obtain ⟨S0', hS0'⟩ : ∃ S, S = (s₁.setTop (entryFrame m #[(.int a), (.int b), (.int n), f] 4)) := ⟨_, rfl⟩
  rw [← hS0'] at cc0
  have cc21 : oS p e below S0' s₁ (mkF m 24 #[sI a, sI b, sI n, .val f] [(.int a)]) := Steps.trans cc0 (by
    refine XS.iloadN X0.here hx rfl (dB d10_0) rfl ?_
    refine XS.iloadN X0.here hx rfl (dB d10_1) rfl ?_
    refine XT.ior X0.here hx rfl (dB d10_2) rfl ?_
    refine XS.iloadN X0.here hx rfl (dB d10_3) rfl ?_
    refine XT.ior X0.here hx rfl (dB d10_4) rfl ?_
    refine XS.ifNo X0.here hx rfl (dB d10_5) rfl (i0_lt_f h1) ?_
    refine XS.iloadN X0.here hx rfl (dB d10_8) rfl ?_
    refine XS.iloadN X0.here hx rfl (dB d10_9) rfl ?_
    refine XS.iloadN X0.here hx rfl (dB d10_10) rfl ?_
    refine XS.isub X0.here hx rfl (dB d10_11) rfl ?_
    refine XS.icmpYes X0.here hx rfl (pc0 := 12) rfl (dB d10_12) rfl (ii_le_t h2) (by decide) rfl ?_
    refine XS.iloadN X0.here hx rfl (dB d10_23) rfl ?_
    exact Steps.refl _)
  have cE := cc21
  rw [hS0'] at cE
  obtain ⟨fs, hr_, hrun, hended, hW, hsame⟩ := X0.leave (v := some (.int a)) (fun h => by rw [Bd.returns] at h; cases h)
  refine ⟨_, _, cE.trans (X0.ireturnOut hx Bd.returns (rfl) (by simp) (dB d10_24) hr_), hrun, hended, _, _, rfl, ?_, ⟨_, rfl⟩, hW, hsame.mono (by first | decide | omega) (by first | decide | omega)⟩
  show Q_own_cfi Z a b n f h0 n0 _ s₁.heap _
  rw [e0]
  exact ⟨rfl, N0, rfl⟩
theorem d11_0 : decode kM11 0 = .ok (.iload_n 0, 1) := by decide +kernel
theorem d11_1 : decode kM11 1 = .ok (.iload_n 1, 1) := by decide +kernel
theorem d11_2 : decode kM11 2 = .ok (.iload_n 2, 1) := by decide +kernel
theorem d11_3 : decode kM11 3 = .ok (.getstatic 1053, 3) := by decide +kernel
theorem d11_6 : decode kM11 6 = .ok (.invokestatic 1065, 3) := by decide +kernel
theorem d11_9 : decode kM11 9 = .ok (.ireturn, 1) := by decide +kernel
def Q_own_cbo (Z : State) (a b n : Int32) (f : Value) (h0 : Heap) (n0 : Nat) (v : Option Value) (h : Heap) (L : List Loc) : Prop := v = some (.int a) ∧ Fr n0 L ∧ h = h0
set_option maxRecDepth 65536 in
set_option maxHeartbeats 40000000 in
theorem own_cbo (l : Launch) (Z : State) (a0 : Array Value) (hw : ∀ d ∈ tables_1, d.before a0 Z = true) (a b n : Int32) (f : Value) (h0 : Heap) (n0 : Nat) (Z0 : n0 ≤ h0.size) (X00 : Old Z n0 h0) (h1 : ¬ ((n ||| a) ||| b) < 0) (h2 : ¬ (n - a) < b) (O4 : Sta Z Z.heap "jdk/internal/util/Preconditions" "SIOOBE_FORMATTER" "Ljava/util/function/BiFunction;" f) (hf : f.isRef = true) :
    MetFree l yM11 (head1 [Jvm.Cond.code yM11 jdk_42_method_157_code 3 (some .int)] rM6) (fun a_ U_ => a_ = #[(.int a), (.int b), (.int n)] ∧ Z.Warmed39 U_.vm ∧ U_.heap = h0) (fun _ _ _ _ _ => True) (fun _ U_ o_ V_ => ∃ v_ L_, o_ = .returned v_ ∧ Q_own_cbo Z a b n f h0 n0 v_ V_.heap L_ ∧ FrameEnd U_ o_ V_ L_ rM6.cells rM6.slots) := by
  refine MetFree.of_bodySF (plainFor_of_name own_pn0) hisR ?_
  intro p e s m args below meth c s₁ Bd hml0 hP hK
  obtain ⟨rfl, hZ, hh⟩ := hP
  have hx := Bd.exec
  have hby := Bd.bytes
  have dB := @own_d c _ hby
  have hml : c.maxLocals = 3 := hml0
  have hown : s.vm.findClass "java/lang/String" = some m.cls := findClass_of_methodNamed Bd.named
  have hnm := (name_of_methodNamed Bd.named Bd.method).1
  have X0 : Stand p l e rM6 s m #[(.int a), (.int b), (.int n)] below meth c s₁ [] 0 0 := Stand.of_body Bd
  have e0 : s₁.heap = h0 := by rw [← hh, Bd.state]; rfl
  have N0 := Fr.nil n0
  have KK0 := Keep.refl h0 ([] : List Addr)
  have cc0 : Steps p.tables e below (s₁.setTop (entryFrame m #[(.int a), (.int b), (.int n)] 3)) (s₁.setTop (mkF m 0 #[sI a, sI b, sI n] [])) := XT.entry rfl
  obtain ⟨S0', hS0'⟩ : ∃ S, S = (s₁.setTop (entryFrame m #[(.int a), (.int b), (.int n)] 3)) := ⟨_, rfl⟩
  rw [← hS0'] at cc0
  have w_189 := own_w hw 189 rfl
  have w_236 := own_w hw 236 rfl
  have cc21 : oS p e below S0' s₁ (mkF m 3 #[sI a, sI b, sI n] [(.int n), (.int b), (.int a)]) := Steps.trans cc0 (by
    refine XS.iloadN X0.here hx rfl (dB d11_0) rfl ?_
    refine XS.iloadN X0.here hx rfl (dB d11_1) rfl ?_
    refine XS.iloadN X0.here hx rfl (dB d11_2) rfl ?_
    exact Steps.refl _)
  obtain ⟨T22, X22, e22, st22⟩ := getS2 X0 hx hZ hown (host := "") (Or.inl (own_w hw 188 rfl)) Via.refl e0 (O4.ext X00.2) (g := (mkF m 3 #[sI a, sI b, sI n] [(.int n), (.int b), (.int a)])) rfl (dB d11_3)
  have cc23 : oS p e below S0' T22 (mkF m 6 #[sI a, sI b, sI n] [f, (.int n), (.int b), (.int a)]) := (cc21.trans (st22 _ (Steps.refl _)))
  obtain ⟨_, _, ⟨T24, L24, k24, n24⟩, -, X24, ⟨Lc24, hQ24, l24, y24, z24⟩, st24⟩ := Jvm.LawKit.callS X22 hx (y := yM10) hown (mvT hZ (own_w hw 234 rfl)) (mvT hZ (own_w hw 235 rfl)) (mvT hZ w_189) (mvT hZ w_236) (by decide) (backOf (W := 0) (own_cfi l Z a0 hw a b n f h0 n0 Z0 h1 h2 hf) hZ w_236 w_189 (by decide) (by decide)) (g := (mkF m 6 #[sI a, sI b, sI n] [f, (.int n), (.int b), (.int a)])) rfl (by rw [hml]; rfl) (argsL := [(.int a), (.int b), (.int n), f]) (rest := []) (lenOf own_pd3 rfl) rfl (Nat.le_of_eq rfl) (dB d11_6) (fun _ _ => ⟨rfl, e22, Nat.le_of_ble_eq_true rfl, Nat.le_of_ble_eq_true rfl⟩)
  dsimp only [Pt.U, Pt.locs, Pt.cells, Pt.slots] at X24 l24 y24 z24 st24 hQ24
  subst l24 y24 z24
  obtain ⟨rfl, Nq24, eq24⟩ := hQ24
  have N24 := Fr.app N0 Nq24
  have e24 : T24.heap = h0 := eq24
  have cc25 : oS p e below S0' T24 (mkF m 9 #[sI a, sI b, sI n] [(.int a)]) := (cc23.trans (st24 _ (Steps.refl _)))
  have cE := cc25
  rw [hS0'] at cE
  obtain ⟨fs, hr_, hrun, hended, hW, hsame⟩ := X24.leave (v := some (.int a)) (fun h => by rw [Bd.returns] at h; cases h)
  refine ⟨_, _, cE.trans (X24.ireturnOut hx Bd.returns (rfl) (by simp) (dB d11_9) hr_), hrun, hended, _, _, rfl, ?_, ⟨_, rfl⟩, hW, hsame.mono (by first | decide | omega) (by first | decide | omega)⟩
  show Q_own_cbo Z a b n f h0 n0 _ T24.heap _
  rw [e24]
  exact ⟨rfl, N24, rfl⟩
theorem d12_0 : decode kM12 0 = .ok (.iload_n 0, 1) := by decide +kernel
theorem d12_1 : decode kM12 1 = .ok (.iload_n 1, 1) := by decide +kernel
theorem d12_2 : decode kM12 2 = .ok (.aload_n 2, 1) := by decide +kernel
theorem d12_3 : decode kM12 3 = .ok (.invokestatic 48, 3) := by decide +kernel
theorem d12_6 : decode kM12 6 = .ok (.invokestatic 419, 3) := by decide +kernel
theorem d12_9 : decode kM12 9 = .ok (.pop, 1) := by decide +kernel
theorem d12_10 : decode kM12 10 = .ok (.return_, 1) := by decide +kernel
def Q_own_cbu (Z : State) (a b : Nat) (t : Addr) (kt : ClassId) (vs : List Value) (f : Value) (h0 : Heap) (n0 : Nat) (v : Option Value) (h : Heap) (L : List Loc) : Prop := v = none ∧ Fr n0 L ∧ h = h0
set_option maxRecDepth 65536 in
set_option maxHeartbeats 40000000 in
theorem own_cbu (l : Launch) (Z : State) (a0 : Array Value) (hw : ∀ d ∈ tables_1, d.before a0 Z = true) (a b : Nat) (t : Addr) (kt : ClassId) (vs : List Value) (f : Value) (h0 : Heap) (n0 : Nat) (Z0 : n0 ≤ h0.size) (X00 : Old Z n0 h0) (hab : a + b ≤ 16) (A : Arv Z h0 t kt .byte (32 : Int32) vs (.int (0 : Int32))) (O4 : Sta Z Z.heap "jdk/internal/util/Preconditions" "SIOOBE_FORMATTER" "Ljava/util/function/BiFunction;" f) (hf : f.isRef = true) :
    MetFree l yM12 (head1 [Jvm.Cond.code yM12 jdk_52_method_94_code 3 none] rM7) (fun a_ U_ => a_ = #[(.int (Int32.ofNat a)), (.int (Int32.ofNat b)), (.ref t)] ∧ Z.Warmed39 U_.vm ∧ U_.heap = h0) (fun _ _ _ _ _ => True) (fun _ U_ o_ V_ => ∃ v_ L_, o_ = .returned v_ ∧ Q_own_cbu Z a b t kt vs f h0 n0 v_ V_.heap L_ ∧ FrameEnd U_ o_ V_ L_ rM7.cells rM7.slots) := by
  refine MetFree.of_bodySF (plainFor_of_name own_pn3) hisR ?_
  intro p e s m args below meth c s₁ Bd hml0 hP hK
  obtain ⟨rfl, hZ, hh⟩ := hP
  have hx := Bd.exec
  have hby := Bd.bytes
  have dB := @own_d c _ hby
  have hml : c.maxLocals = 3 := hml0
  have hown : s.vm.findClass "java/lang/StringUTF16" = some m.cls := findClass_of_methodNamed Bd.named
  have hnm := (name_of_methodNamed Bd.named Bd.method).1
  have X0 : Stand p l e rM7 s m #[(.int (Int32.ofNat a)), (.int (Int32.ofNat b)), (.ref t)] below meth c s₁ [] 0 0 := Stand.of_body Bd
  have e0 : s₁.heap = h0 := by rw [← hh, Bd.state]; rfl
  have N0 := Fr.nil n0
  have KK0 := Keep.refl h0 ([] : List Addr)
  have cc0 : Steps p.tables e below (s₁.setTop (entryFrame m #[(.int (Int32.ofNat a)), (.int (Int32.ofNat b)), (.ref t)] 3)) (s₁.setTop (mkF m 0 #[sI (Int32.ofNat a), sI (Int32.ofNat b), sR t] [])) := XT.entry rfl
  obtain ⟨S0', hS0'⟩ : ∃ S, S = (s₁.setTop (entryFrame m #[(.int (Int32.ofNat a)), (.int (Int32.ofNat b)), (.ref t)] 3)) := ⟨_, rfl⟩
  rw [← hS0'] at cc0
  have w_7 := own_w hw 7 rfl
  have w_22 := own_w hw 22 rfl
  have w_230 := own_w hw 230 rfl
  have w_233 := own_w hw 233 rfl
  have cc21 : oS p e below S0' s₁ (mkF m 3 #[sI (Int32.ofNat a), sI (Int32.ofNat b), sR t] [(.ref t), (.int (Int32.ofNat b)), (.int (Int32.ofNat a))]) := Steps.trans cc0 (by
    refine XS.iloadN X0.here hx rfl (dB d12_0) rfl ?_
    refine XS.iloadN X0.here hx rfl (dB d12_1) rfl ?_
    refine XS.aloadN X0.here hx rfl (dB d12_2) rfl rfl ?_
    exact Steps.refl _)
  obtain ⟨_, _, ⟨T22, L22, k22, n22⟩, -, X22, ⟨Lc22, hQ22, l22, y22, z22⟩, st22⟩ := Jvm.LawKit.callS X0 hx (y := yM9) hown (mvT hZ (own_w hw 228 rfl)) (mvT hZ (own_w hw 229 rfl)) (mvT hZ w_22) (mvT hZ w_230) (by decide) (backOf (W := 2) (own_ulen l Z a0 hw t kt 16 vs h0 n0 Z0 A (by decide)) hZ w_230 w_22 (by decide) (by decide)) (g := (mkF m 3 #[sI (Int32.ofNat a), sI (Int32.ofNat b), sR t] [(.ref t), (.int (Int32.ofNat b)), (.int (Int32.ofNat a))])) rfl (by rw [hml]; rfl) (argsL := [(.ref t)]) (rest := [(.int (Int32.ofNat b)), (.int (Int32.ofNat a))]) (lenOf own_pd4 rfl) rfl (Nat.le_of_eq rfl) (dB d12_3) (fun _ _ => ⟨rfl, e0, Nat.le_of_ble_eq_true rfl, Nat.le_of_ble_eq_true rfl⟩)
  dsimp only [Pt.U, Pt.locs, Pt.cells, Pt.slots] at X22 l22 y22 z22 st22 hQ22
  subst l22 y22 z22
  obtain ⟨rfl, Nq22, eq22⟩ := hQ22
  have N22 := Fr.app N0 Nq22
  have e22 : T22.heap = h0 := eq22
  have cc23 : oS p e below S0' T22 (mkF m 6 #[sI (Int32.ofNat a), sI (Int32.ofNat b), sR t] [(.int 16), (.int (Int32.ofNat b)), (.int (Int32.ofNat a))]) := (cc21.trans (st22 _ (Steps.refl _)))
  obtain ⟨_, _, ⟨T24, L24, k24, n24⟩, -, X24, ⟨Lc24, hQ24, l24, y24, z24⟩, st24⟩ := Jvm.LawKit.callS X22 hx (y := yM11) hown (mvT hZ (own_w hw 231 rfl)) (mvT hZ (own_w hw 232 rfl)) (mvT hZ w_7) (mvT hZ w_233) (by decide) (backOf (W := 0) (own_cbo l Z a0 hw (Int32.ofNat a) (Int32.ofNat b) 16 f h0 n0 Z0 X00 (own_cfb a b hab).1 (own_cfb a b hab).2 O4 hf) hZ w_233 w_7 (by decide) (by decide)) (g := (mkF m 6 #[sI (Int32.ofNat a), sI (Int32.ofNat b), sR t] [(.int 16), (.int (Int32.ofNat b)), (.int (Int32.ofNat a))])) rfl (by rw [hml]; rfl) (argsL := [(.int (Int32.ofNat a)), (.int (Int32.ofNat b)), (.int 16)]) (rest := []) (lenOf own_pd5 rfl) rfl (Nat.le_of_eq rfl) (dB d12_6) (fun _ _ => ⟨rfl, e22, Nat.le_of_ble_eq_true rfl, Nat.le_of_ble_eq_true rfl⟩)
  dsimp only [Pt.U, Pt.locs, Pt.cells, Pt.slots] at X24 l24 y24 z24 st24 hQ24
  subst l24 y24 z24
  obtain ⟨rfl, Nq24, eq24⟩ := hQ24
  have N24 := Fr.app N22 Nq24
  have e24 : T24.heap = h0 := eq24
  have cc25 : oS p e below S0' T24 (mkF m 10 #[sI (Int32.ofNat a), sI (Int32.ofNat b), sR t] []) := Steps.trans (cc23.trans (st24 _ (Steps.refl _))) (by
    refine XT.pop X24.here hx rfl (dB d12_9) rfl rfl ?_
    exact Steps.refl _)
  have cE := cc25
  rw [hS0'] at cE
  obtain ⟨fs, hr_, hrun, hended, hW, hsame⟩ := X24.leave (v := none) (fun _ => rfl)
  refine ⟨_, _, cE.trans (X24.returnOut hx Bd.returns (dB d12_10) hr_), hrun, hended, _, _, rfl, ?_, ⟨_, rfl⟩, hW, hsame.mono (by first | decide | omega) (by first | decide | omega)⟩
  show Q_own_cbu Z a b t kt vs f h0 n0 _ T24.heap _
  rw [e24]
  exact ⟨rfl, N24, rfl⟩
theorem d13_0 : decode kM13 0 = .ok (.getstatic 44, 3) := by decide +kernel
theorem d13_3 : decode kM13 3 = .ok (.ifCond .ne 25, 3) := by decide +kernel
theorem d13_28 : decode kM13 28 = .ok (.iload_n 1, 1) := by decide +kernel
theorem d13_29 : decode kM13 29 = .ok (.iconst 1, 1) := by decide +kernel
theorem d13_30 : decode kM13 30 = .ok (.ishl, 1) := by decide +kernel
theorem d13_31 : decode kM13 31 = .ok (.istore_n 1, 1) := by decide +kernel
theorem d13_32 : decode kM13 32 = .ok (.aload_n 0, 1) := by decide +kernel
theorem d13_33 : decode kM13 33 = .ok (.iload_n 1, 1) := by decide +kernel
theorem d13_34 : decode kM13 34 = .ok (.iinc 1 1, 3) := by decide +kernel
theorem d13_37 : decode kM13 37 = .ok (.iload_n 2, 1) := by decide +kernel
theorem d13_38 : decode kM13 38 = .ok (.getstatic 59, 3) := by decide +kernel
theorem d13_41 : decode kM13 41 = .ok (.ishr, 1) := by decide +kernel
theorem d13_42 : decode kM13 42 = .ok (.i2b, 1) := by decide +kernel
theorem d13_43 : decode kM13 43 = .ok (.bastore, 1) := by decide +kernel
theorem d13_44 : decode kM13 44 = .ok (.aload_n 0, 1) := by decide +kernel
theorem d13_45 : decode kM13 45 = .ok (.iload_n 1, 1) := by decide +kernel
theorem d13_46 : decode kM13 46 = .ok (.iload_n 2, 1) := by decide +kernel
theorem d13_47 : decode kM13 47 = .ok (.getstatic 63, 3) := by decide +kernel
theorem d13_50 : decode kM13 50 = .ok (.ishr, 1) := by decide +kernel
theorem d13_51 : decode kM13 51 = .ok (.i2b, 1) := by decide +kernel
theorem d13_52 : decode kM13 52 = .ok (.bastore, 1) := by decide +kernel
theorem d13_53 : decode kM13 53 = .ok (.return_, 1) := by decide +kernel
def Q_own_putc (Z : State) (t : Addr) (kt : ClassId) (ws : List Int32) (w : Int32) (h0 : Heap) (n0 : Nat) (v : Option Value) (h : Heap) (L : List Loc) : Prop := v = none ∧ Fr n0 L ∧ Keep h0 h [t] ∧ Arv Z h t kt .byte (32 : Int32) (StrChars.Road.wideBytes (ws ++ [w])) (.int (0 : Int32))
set_option maxRecDepth 65536 in
set_option maxHeartbeats 40000000 in
theorem own_putc (l : Launch) (Z : State) (a0 : Array Value) (hw : ∀ d ∈ tables_1, d.before a0 Z = true) (t : Addr) (kt : ClassId) (ws : List Int32) (w : Int32) (h0 : Heap) (n0 : Nat) (Z0 : n0 ≤ h0.size) (X00 : Old Z n0 h0) (O3 : StrChars.Road.U3Z Z Z.heap) (A : Arv Z h0 t kt .byte (32 : Int32) (StrChars.Road.wideBytes ws) (.int (0 : Int32))) (hl : ws.length < 16) (gt : n0 ≤ t) :
    MetFree l yM13 (head1 [Jvm.Cond.code yM13 jdk_52_method_4_code 3 none] rM2) (fun a_ U_ => a_ = #[(.ref t), (.int (Int32.ofNat ws.length)), (.int w)] ∧ Z.Warmed39 U_.vm ∧ U_.heap = h0) (fun _ _ _ _ _ => True) (fun _ U_ o_ V_ => ∃ v_ L_, o_ = .returned v_ ∧ Q_own_putc Z t kt ws w h0 n0 v_ V_.heap L_ ∧ FrameEnd U_ o_ V_ L_ rM2.cells rM2.slots) := by
  refine MetFree.of_bodySF (plainFor_of_name own_pn3) hisR ?_
  intro p e s m args below meth c s₁ Bd hml0 hP hK
  obtain ⟨rfl, hZ, hh⟩ := hP
  have hx := Bd.exec
  have hby := Bd.bytes
  have dB := @own_d c _ hby
  have hml : c.maxLocals = 3 := hml0
  have hown : s.vm.findClass "java/lang/StringUTF16" = some m.cls := findClass_of_methodNamed Bd.named
  have hnm := (name_of_methodNamed Bd.named Bd.method).1
  have X0 : Stand p l e rM2 s m #[(.ref t), (.int (Int32.ofNat ws.length)), (.int w)] below meth c s₁ [] 0 0 := Stand.of_body Bd
  have e0 : s₁.heap = h0 := by rw [← hh, Bd.state]; rfl
  have N0 := Fr.nil n0
  have KK0 := Keep.refl h0 [t]
  have cc0 : Steps p.tables e below (s₁.setTop (entryFrame m #[(.ref t), (.int (Int32.ofNat ws.length)), (.int w)] 3)) (s₁.setTop (mkF m 0 #[sR t, sI (Int32.ofNat ws.length), sI w] [])) := XT.entry rfl
  obtain ⟨S0', hS0'⟩ : ∃ S, S = (s₁.setTop (entryFrame m #[(.ref t), (.int (Int32.ofNat ws.length)), (.int w)] 3)) := ⟨_, rfl⟩
  rw [← hS0'] at cc0
  have Ap : Arv Z h0 t kt .byte (32 : Int32) (StrChars.Road.wideBytes ws ++ [(.int (0 : Int32)), (.int (0 : Int32))]) (.int (0 : Int32)) := A.pad (pad_rep _ _ 2)
  obtain ⟨T21, X21, e21, st21⟩ := getS2 X0 hx hZ hown (host := "") (Or.inl (own_w hw 206 rfl)) Via.refl e0 (O3.1.ext X00.2) (g := (mkF m 0 #[sR t, sI (Int32.ofNat ws.length), sI w] [])) rfl (dB d13_0)
  have cc22 : oS p e below S0' T21 (mkF m 31 #[sR t, sI (Int32.ofNat ws.length), sI w] [(.int ((Int32.ofNat ws.length) <<< ((1 : Int32) &&& 31)))]) := Steps.trans (cc0.trans (st21 _ (Steps.refl _))) (by
    refine XS.ifYes X21.here hx rfl (pc0 := 3) rfl (dB d13_3) rfl (i0_ne_t (by decide)) (by decide) rfl ?_
    refine XS.iloadN X21.here hx rfl (dB d13_28) rfl ?_
    refine iconstV X21.here hx rfl 1 (dB d13_29) (by decide) ?_
    refine XT.ishl X21.here hx rfl (dB d13_30) rfl ?_
    exact Steps.refl _)
  have cz23 : oS p e below S0' T21 (mkF m 31 #[sR t, sI (Int32.ofNat ws.length), sI w] [(.int (Int32.ofNat (2 * ws.length)))]) := by
    have := cc22
    rw [StrChars.shl1] at this
    exact this
  have cc24 : oS p e below S0' T21 (mkF m 38 #[sR t, sI ((Int32.ofNat (2 * ws.length)) + 1), sI w] [(.int w), (.int (Int32.ofNat (2 * ws.length))), (.ref t)]) := Steps.trans cz23 (by
    refine XS.istoreN X21.here hx rfl (dB d13_31) rfl rfl ?_
    refine XS.aloadN X21.here hx rfl (dB d13_32) rfl rfl ?_
    refine XS.iloadN X21.here hx rfl (dB d13_33) rfl ?_
    refine iincV X21.here hx rfl 1 (dB d13_34) (by decide) rfl rfl ?_
    refine XS.iloadN X21.here hx rfl (dB d13_37) rfl ?_
    exact Steps.refl _)
  obtain ⟨T25, X25, e25, st25⟩ := getS2 X21 hx hZ hown (host := "") (Or.inl (own_w hw 207 rfl)) Via.refl e21 (O3.2.1.ext X00.2) (g := (mkF m 38 #[sR t, sI ((Int32.ofNat (2 * ws.length)) + 1), sI w] [(.int w), (.int (Int32.ofNat (2 * ws.length))), (.ref t)])) rfl (dB d13_38)
  have cc26 : oS p e below S0' T25 (mkF m 43 #[sR t, sI ((Int32.ofNat (2 * ws.length)) + 1), sI w] [(.int ((w >>> ((0 : Int32) &&& 31)).toInt8.toInt32)), (.int (Int32.ofNat (2 * ws.length))), (.ref t)]) := Steps.trans (cc24.trans (st25 _ (Steps.refl _))) (by
    refine XT.ishr X25.here hx rfl (dB d13_41) rfl ?_
    refine XT.i2b X25.here hx rfl (dB d13_42) rfl ?_
    exact Steps.refl _)
  obtain ⟨clu27, Aru27, qu27, Su27, Ngu27, Hsu27, Gsu27⟩ := id Ap
  have inu27 : ¬ (Int32.ofNat (2 * ws.length) < 0 ∨ clu27.slots.size ≤ (Int32.ofNat (2 * ws.length)).toNatClampNeg) := inb_of Su27 ⟨Int32.ofNat_not_neg (by omega), lt32 (b := 32) (by decide) (by omega)⟩
  obtain ⟨T28, h28, X28, e28, W28, st28⟩ := stB X25 hx hZ e25 Aru27 (j := Int32.ofNat (2 * ws.length)) inu27 (g := (mkF m 43 #[sR t, sI ((Int32.ofNat (2 * ws.length)) + 1), sI w] [(.int ((w >>> ((0 : Int32) &&& 31)).toInt8.toInt32)), (.int (Int32.ofNat (2 * ws.length))), (.ref t)])) rfl rfl (dB d13_43)
  have K28 := Keep.of_wr W28
  have N28 := Fr.snoc X28 N0 gt
  have KK1 : Keep h0 h28 [t] := KK0.trans K28 (allS (Or.inl (List.mem_of_getElem? (i := 0) rfl)) all0)
  have Zs1 : n0 ≤ h28.size := Nat.le_trans Z0 K28.1
  have V28 : Arv Z h28 t kt .byte (32 : Int32) (List.set (StrChars.Road.wideBytes ws ++ [(.int (0 : Int32)), (.int (0 : Int32))]) (2 * ws.length) (.int (nar .byte ((w >>> ((0 : Int32) &&& 31)).toInt8.toInt32)))) (.int (0 : Int32)) := Arv.set Aru27 qu27 Su27 Ngu27 Hsu27 Gsu27 (fits_nar_byte _) W28 (2 * ws.length) (n32 (by omega)) (by rw [List.length_append, own_wb_len]; simp)
  have cc30 : oS p e below S0' T28 (mkF m 47 #[sR t, sI ((Int32.ofNat (2 * ws.length)) + 1), sI w] [(.int w), (.int ((Int32.ofNat (2 * ws.length)) + 1)), (.ref t)]) := Steps.trans (cc26.trans (st28 _ (Steps.refl _))) (by
    refine XS.aloadN X28.here hx rfl (dB d13_44) rfl rfl ?_
    refine XS.iloadN X28.here hx rfl (dB d13_45) rfl ?_
    refine XS.iloadN X28.here hx rfl (dB d13_46) rfl ?_
    exact Steps.refl _)
  have fa29 : Old Z n0 h28 := (X00.keep K28 (allS gt all0))
  obtain ⟨T31, X31, e31, st31⟩ := getS2 X28 hx hZ hown (host := "") (Or.inl (own_w hw 208 rfl)) Via.refl e28 (O3.2.2.ext fa29.2) (g := (mkF m 47 #[sR t, sI ((Int32.ofNat (2 * ws.length)) + 1), sI w] [(.int w), (.int ((Int32.ofNat (2 * ws.length)) + 1)), (.ref t)])) rfl (dB d13_47)
  have cc32 : oS p e below S0' T31 (mkF m 52 #[sR t, sI ((Int32.ofNat (2 * ws.length)) + 1), sI w] [(.int ((w >>> ((8 : Int32) &&& 31)).toInt8.toInt32)), (.int ((Int32.ofNat (2 * ws.length)) + 1)), (.ref t)]) := Steps.trans (cc30.trans (st31 _ (Steps.refl _))) (by
    refine XT.ishr X31.here hx rfl (dB d13_50) rfl ?_
    refine XT.i2b X31.here hx rfl (dB d13_51) rfl ?_
    exact Steps.refl _)
  have cz33 : oS p e below S0' T31 (mkF m 52 #[sR t, sI (Int32.ofNat (2 * ws.length + 1)), sI w] [(.int ((w >>> ((8 : Int32) &&& 31)).toInt8.toInt32)), (.int (Int32.ofNat (2 * ws.length + 1))), (.ref t)]) := by
    have := cc32
    rw [succ32] at this
    exact this
  obtain ⟨clu34, Aru34, qu34, Su34, Ngu34, Hsu34, Gsu34⟩ := id V28
  have inu34 : ¬ (Int32.ofNat (2 * ws.length + 1) < 0 ∨ clu34.slots.size ≤ (Int32.ofNat (2 * ws.length + 1)).toNatClampNeg) := inb_of Su34 ⟨Int32.ofNat_not_neg (by omega), lt32 (b := 32) (by decide) (by omega)⟩
  obtain ⟨T35, h35, X35, e35, W35, st35⟩ := stB X31 hx hZ e31 Aru34 (j := Int32.ofNat (2 * ws.length + 1)) inu34 (g := (mkF m 52 #[sR t, sI (Int32.ofNat (2 * ws.length + 1)), sI w] [(.int ((w >>> ((8 : Int32) &&& 31)).toInt8.toInt32)), (.int (Int32.ofNat (2 * ws.length + 1))), (.ref t)])) rfl rfl (dB d13_52)
  have K35 := Keep.of_wr W35
  have N35 := Fr.snoc X35 N28 gt
  have KK2 : Keep h0 h35 [t] := KK1.trans K35 (allS (Or.inl (List.mem_of_getElem? (i := 0) rfl)) all0)
  have Zs2 : n0 ≤ h35.size := Nat.le_trans Zs1 K35.1
  have V35 : Arv Z h35 t kt .byte (32 : Int32) (List.set (List.set (StrChars.Road.wideBytes ws ++ [(.int (0 : Int32)), (.int (0 : Int32))]) (2 * ws.length) (.int (nar .byte ((w >>> ((0 : Int32) &&& 31)).toInt8.toInt32)))) (2 * ws.length + 1) (.int (nar .byte ((w >>> ((8 : Int32) &&& 31)).toInt8.toInt32)))) (.int (0 : Int32)) := Arv.set Aru34 qu34 Su34 Ngu34 Hsu34 Gsu34 (fits_nar_byte _) W35 (2 * ws.length + 1) (n32 (by omega)) (by rw [List.length_set, List.length_append, own_wb_len]; simp)
  have eL : (List.set (List.set (StrChars.Road.wideBytes ws ++ [(.int (0 : Int32)), (.int (0 : Int32))]) (2 * ws.length) (.int (nar .byte ((w >>> ((0 : Int32) &&& 31)).toInt8.toInt32)))) (2 * ws.length + 1) (.int (nar .byte ((w >>> ((8 : Int32) &&& 31)).toInt8.toInt32)))) = StrChars.Road.wideBytes (ws ++ [w]) := by
    rw [own_set2 _ _ (own_wb_len ws), own_nb, own_nb, StrChars.lo8_shr0, own_wb_app]
    rfl
  have cc36 : oS p e below S0' T35 (mkF m 53 #[sR t, sI (Int32.ofNat (2 * ws.length + 1)), sI w] []) := (cz33.trans (st35 _ (Steps.refl _)))
  have cE := cc36
  rw [hS0'] at cE
  obtain ⟨fs, hr_, hrun, hended, hW, hsame⟩ := X35.leave (v := none) (fun _ => rfl)
  refine ⟨_, _, cE.trans (X35.returnOut hx Bd.returns (dB d13_53) hr_), hrun, hended, _, _, rfl, ?_, ⟨_, rfl⟩, hW, hsame.mono (by first | decide | omega) (by first | decide | omega)⟩
  show Q_own_putc Z t kt ws w h0 n0 _ T35.heap _
  rw [e35]
  exact ⟨rfl, N35, KK2, own_arv_eq V35 eL⟩
theorem d14_0 : decode kM14 0 = .ok (.iload_n 3, 1) := by decide +kernel
theorem d14_1 : decode kM14 1 = .ok (.iload 4, 2) := by decide +kernel
theorem d14_3 : decode kM14 3 = .ok (.aload_n 2, 1) := by decide +kernel
theorem d14_4 : decode kM14 4 = .ok (.invokestatic 173, 3) := by decide +kernel
theorem d14_7 : decode kM14 7 = .ok (.iconst 0, 1) := by decide +kernel
theorem d14_8 : decode kM14 8 = .ok (.istore 5, 2) := by decide +kernel
theorem d14_10 : decode kM14 10 = .ok (.iload 5, 2) := by decide +kernel
theorem d14_12 : decode kM14 12 = .ok (.iload 4, 2) := by decide +kernel
theorem d14_14 : decode kM14 14 = .ok (.if_icmp .ge 27, 3) := by decide +kernel
theorem d14_17 : decode kM14 17 = .ok (.aload_n 2, 1) := by decide +kernel
theorem d14_18 : decode kM14 18 = .ok (.iload_n 3, 1) := by decide +kernel
theorem d14_19 : decode kM14 19 = .ok (.iinc 3 1, 3) := by decide +kernel
theorem d14_22 : decode kM14 22 = .ok (.aload_n 0, 1) := by decide +kernel
theorem d14_23 : decode kM14 23 = .ok (.iload_n 1, 1) := by decide +kernel
theorem d14_24 : decode kM14 24 = .ok (.iinc 1 1, 3) := by decide +kernel
theorem d14_27 : decode kM14 27 = .ok (.baload, 1) := by decide +kernel
theorem d14_28 : decode kM14 28 = .ok (.sipush 255, 3) := by decide +kernel
theorem d14_31 : decode kM14 31 = .ok (.iand, 1) := by decide +kernel
theorem d14_32 : decode kM14 32 = .ok (.invokestatic 111, 3) := by decide +kernel
theorem d14_35 : decode kM14 35 = .ok (.iinc 5 1, 3) := by decide +kernel
theorem d14_38 : decode kM14 38 = .ok (.goto (-28), 3) := by decide +kernel
theorem d14_41 : decode kM14 41 = .ok (.return_, 1) := by decide +kernel
def Q_own_uinf (Z : State) (a t : Addr) (ka kt : ClassId) (N2 : Int32) (cs ws : List Int32) (f : Value) (h0 : Heap) (n0 : Nat) (v : Option Value) (h : Heap) (L : List Loc) : Prop := v = none ∧ Fr n0 L ∧ Keep h0 h [t] ∧ Arv Z h t kt .byte (32 : Int32) (StrChars.Road.wideBytes (ws ++ cs)) (.int (0 : Int32))
set_option maxRecDepth 65536 in
set_option maxHeartbeats 40000000 in
theorem own_uinf (l : Launch) (Z : State) (a0 : Array Value) (hw : ∀ d ∈ tables_1, d.before a0 Z = true) (a t : Addr) (ka kt : ClassId) (N2 : Int32) (cs ws : List Int32) (f : Value) (h0 : Heap) (n0 : Nat) (Z0 : n0 ≤ h0.size) (X00 : Old Z n0 h0) (O3 : StrChars.Road.U3Z Z Z.heap) (O4 : Sta Z Z.heap "jdk/internal/util/Preconditions" "SIOOBE_FORMATTER" "Ljava/util/function/BiFunction;" f) (hf : f.isRef = true) (Aa : Arv Z h0 a ka .byte N2 (own_by cs) (.int (0 : Int32))) (hN : ∀ i, i < cs.length → Int32.ofNat i < N2) (A : Arv Z h0 t kt .byte (32 : Int32) (StrChars.Road.wideBytes ws) (.int (0 : Int32))) (hp : ∀ c ∈ cs, ¬ c < 0 ∧ ¬ (255 : Int32) < c) (hl : ws.length + cs.length ≤ 16) (h6 : cs.length ≤ 6) (ne : a ≠ t) (gt : n0 ≤ t) :
    MetFree l yM14 (head1 [Jvm.Cond.code yM14 jdk_52_method_86_code 6 none] rM8) (fun a_ U_ => a_ = #[(.ref a), (.int 0), (.ref t), (.int (Int32.ofNat ws.length)), (.int (Int32.ofNat cs.length))] ∧ Z.Warmed39 U_.vm ∧ U_.heap = h0) (fun _ _ _ _ _ => True) (fun _ U_ o_ V_ => ∃ v_ L_, o_ = .returned v_ ∧ Q_own_uinf Z a t ka kt N2 cs ws f h0 n0 v_ V_.heap L_ ∧ FrameEnd U_ o_ V_ L_ rM8.cells rM8.slots) := by
  refine MetFree.of_bodySF (plainFor_of_name own_pn3) hisR ?_
  intro p e s m args below meth c s₁ Bd hml0 hP hK
  obtain ⟨rfl, hZ, hh⟩ := hP
  have hx := Bd.exec
  have hby := Bd.bytes
  have dB := @own_d c _ hby
  have hml : c.maxLocals = 6 := hml0
  have hown : s.vm.findClass "java/lang/StringUTF16" = some m.cls := findClass_of_methodNamed Bd.named
  have hnm := (name_of_methodNamed Bd.named Bd.method).1
  have X0 : Stand p l e rM8 s m #[(.ref a), (.int 0), (.ref t), (.int (Int32.ofNat ws.length)), (.int (Int32.ofNat cs.length))] below meth c s₁ [] 0 0 := Stand.of_body Bd
  have e0 : s₁.heap = h0 := by rw [← hh, Bd.state]; rfl
  have N0 := Fr.nil n0
  have KK0 := Keep.refl h0 [t]
  have cc0 : Steps p.tables e below (s₁.setTop (entryFrame m #[(.ref a), (.int 0), (.ref t), (.int (Int32.ofNat ws.length)), (.int (Int32.ofNat cs.length))] 6)) (s₁.setTop (mkF m 0 #[sR a, sI 0, sR t, sI (Int32.ofNat ws.length), sI (Int32.ofNat cs.length), .unset] [])) := XT.entry rfl
  obtain ⟨S0', hS0'⟩ : ∃ S, S = (s₁.setTop (entryFrame m #[(.ref a), (.int 0), (.ref t), (.int (Int32.ofNat ws.length)), (.int (Int32.ofNat cs.length))] 6)) := ⟨_, rfl⟩
  rw [← hS0'] at cc0
  have w_22 := own_w hw 22 rfl
  have w_203 := own_w hw 203 rfl
  have w_204 := own_w hw 204 rfl
  have w_205 := own_w hw 205 rfl
  have w_227 := own_w hw 227 rfl
  have cc21 : oS p e below S0' s₁ (mkF m 4 #[sR a, sI 0, sR t, sI (Int32.ofNat ws.length), sI (Int32.ofNat cs.length), .unset] [(.ref t), (.int (Int32.ofNat cs.length)), (.int (Int32.ofNat ws.length))]) := Steps.trans cc0 (by
    refine XS.iloadN X0.here hx rfl (dB d14_0) rfl ?_
    refine XS.iload X0.here hx rfl (dB d14_1) rfl ?_
    refine XS.aloadN X0.here hx rfl (dB d14_3) rfl rfl ?_
    exact Steps.refl _)
  obtain ⟨_, _, ⟨T22, L22, k22, n22⟩, -, X22, ⟨Lc22, hQ22, l22, y22, z22⟩, st22⟩ := Jvm.LawKit.callS X0 hx (y := yM12) hown (mvT hZ (own_w hw 225 rfl)) (mvT hZ (own_w hw 226 rfl)) (mvT hZ w_22) (mvT hZ w_227) (by decide) (backOf (W := 0) (own_cbu l Z a0 hw ws.length cs.length t kt _ f h0 n0 Z0 X00 hl A O4 hf) hZ w_227 w_22 (by decide) (by decide)) (g := (mkF m 4 #[sR a, sI 0, sR t, sI (Int32.ofNat ws.length), sI (Int32.ofNat cs.length), .unset] [(.ref t), (.int (Int32.ofNat cs.length)), (.int (Int32.ofNat ws.length))])) rfl (by rw [hml]; rfl) (argsL := [(.int (Int32.ofNat ws.length)), (.int (Int32.ofNat cs.length)), (.ref t)]) (rest := []) (lenOf own_pd6 rfl) rfl (Nat.le_of_eq rfl) (dB d14_4) (fun _ _ => ⟨rfl, e0, Nat.le_of_ble_eq_true rfl, Nat.le_of_ble_eq_true rfl⟩)
  dsimp only [Pt.U, Pt.locs, Pt.cells, Pt.slots] at X22 l22 y22 z22 st22 hQ22
  subst l22 y22 z22
  obtain ⟨rfl, Nq22, eq22⟩ := hQ22
  have N22 := Fr.app N0 Nq22
  have e22 : T22.heap = h0 := eq22
  have cc23 : oS p e below S0' T22 (mkF m 14 #[sR a, sI 0, sR t, sI (Int32.ofNat ws.length), sI (Int32.ofNat cs.length), sI 0] [(.int (Int32.ofNat cs.length)), (.int 0)]) := Steps.trans (cc21.trans (st22 _ (Steps.refl _))) (by
    refine iconstV X22.here hx rfl 0 (dB d14_7) (by decide) ?_
    refine XS.istore X22.here hx rfl (dB d14_8) rfl rfl ?_
    refine XS.iload X22.here hx rfl (dB d14_10) rfl ?_
    refine XS.iload X22.here hx rfl (dB d14_12) rfl ?_
    exact Steps.refl _)
  rcases cs with _ | ⟨c0, cs⟩
  · skip
    have ce0 : oS p e below S0' T22 (mkF m 14 #[sR a, sI 0, sR t, sI (Int32.ofNat ws.length), sI 0, sI 0] [(.int 0), (.int 0)]) := cc23
    have cc24 : oS p e below S0' T22 (mkF m 41 #[sR a, sI 0, sR t, sI (Int32.ofNat ws.length), sI 0, sI 0] []) := Steps.trans ce0 (by
      refine XS.icmpYes X22.here hx rfl (pc0 := 14) rfl (dB d14_14) rfl (ii_ge_t (by decide)) (by decide) rfl ?_
      exact Steps.refl _)
    have cE := cc24
    rw [hS0'] at cE
    obtain ⟨fs, hr_, hrun, hended, hW, hsame⟩ := X22.leave (v := none) (fun _ => rfl)
    refine ⟨_, _, cE.trans (X22.returnOut hx Bd.returns (dB d14_41) hr_), hrun, hended, _, _, rfl, ?_, ⟨_, rfl⟩, hW, hsame.mono (by first | decide | omega) (by first | decide | omega)⟩
    show Q_own_uinf Z a t ka kt N2 ([] : List Int32) ws f h0 n0 _ T22.heap _
    rw [e22]
    exact ⟨rfl, N22, KK0, own_arv_eq A (by simp)⟩
  · skip
    have hl0 : ws.length + (cs.length + 1) ≤ 16 := by simpa [Nat.add_assoc] using hl
    have ln0 : (c0 :: cs).length = cs.length + 1 := by simp
    have pc0 := hp c0 (by simp)
    have ce0 : oS p e below S0' T22 (mkF m 14 #[sR a, sI 0, sR t, sI (Int32.ofNat ws.length), sI (Int32.ofNat (c0 :: cs).length), sI 0] [(.int (Int32.ofNat (c0 :: cs).length)), (.int 0)]) := cc23
    have cc24 : oS p e below S0' T22 (mkF m 27 #[sR a, sI (0 + 1), sR t, sI ((Int32.ofNat ws.length) + 1), sI (Int32.ofNat (c0 :: cs).length), sI 0] [(.int 0), (.ref a), (.int (Int32.ofNat ws.length)), (.ref t)]) := Steps.trans ce0 (by
      refine XS.icmpNo X22.here hx rfl (dB d14_14) rfl (ii_ge_f (by rw [ln0]; exact lt32 (a := 0) (by omega) (by omega))) ?_
      refine XS.aloadN X22.here hx rfl (dB d14_17) rfl rfl ?_
      refine XS.iloadN X22.here hx rfl (dB d14_18) rfl ?_
      refine iincV X22.here hx rfl 1 (dB d14_19) (by decide) rfl rfl ?_
      refine XS.aloadN X22.here hx rfl (dB d14_22) rfl rfl ?_
      refine XS.iloadN X22.here hx rfl (dB d14_23) rfl ?_
      refine iincV X22.here hx rfl 1 (dB d14_24) (by decide) rfl rfl ?_
      exact Steps.refl _)
    obtain ⟨clu25, Aru25, qu25, Su25, Ngu25, Hsu25, Gsu25⟩ := id Aa
    have inu25 : ¬ ((0 : Int32) < 0 ∨ clu25.slots.size ≤ ((0 : Int32)).toNatClampNeg) := inb_of Su25 ⟨by decide, hN 0 (by simp)⟩
    have atu25 : clu25.slots[((0 : Int32)).toNatClampNeg]? = some (.int (StrChars.lo8 c0)) := Hsu25.at inu25 rfl
    have cc26 : oS p e below S0' T22 (mkF m 32 #[sR a, sI (0 + 1), sR t, sI ((Int32.ofNat ws.length) + 1), sI (Int32.ofNat (c0 :: cs).length), sI 0] [(.int ((StrChars.lo8 c0) &&& (255 : Int32))), (.int (Int32.ofNat ws.length)), (.ref t)]) := Steps.trans cc24 (by
      refine X22.baloadBytes hx (j := (0 : Int32)) (v := (.int (StrChars.lo8 c0))) (by rw [e22]; exact Aru25.1) (State.isArrayOf_alike (hZ).alike Aru25.2.1) Aru25.2.2 inu25 atu25 (g := (mkF m 27 #[sR a, sI (0 + 1), sR t, sI ((Int32.ofNat ws.length) + 1), sI (Int32.ofNat (c0 :: cs).length), sI 0] [(.int 0), (.ref a), (.int (Int32.ofNat ws.length)), (.ref t)])) rfl rfl (dB d14_27) _ ?_
      refine sipushV X22.here hx rfl 255 (dB d14_28) (by decide) ?_
      refine XS.iand X22.here hx rfl (dB d14_31) rfl ?_
      exact Steps.refl _)
    have cz27 : oS p e below S0' T22 (mkF m 32 #[sR a, sI (0 + 1), sR t, sI ((Int32.ofNat ws.length) + 1), sI (Int32.ofNat (c0 :: cs).length), sI 0] [(.int c0), (.int (Int32.ofNat ws.length)), (.ref t)]) := by
      have := cc26
      rw [StrChars.lo8_mask pc0.1 pc0.2] at this
      exact this
    obtain ⟨_, _, ⟨T28, L28, k28, n28⟩, -, X28, ⟨Lc28, hQ28, l28, y28, z28⟩, st28⟩ := Jvm.LawKit.callS X22 hx (y := yM13) hown (mvT hZ w_203) (mvT hZ w_204) (mvT hZ w_22) (mvT hZ w_205) (by decide) (backOf (W := 0) (own_putc l Z a0 hw t kt ws c0 h0 n0 Z0 X00 O3 A (by first | omega | (simp; omega)) gt) hZ w_205 w_22 (by decide) (by decide)) (g := (mkF m 32 #[sR a, sI (0 + 1), sR t, sI ((Int32.ofNat ws.length) + 1), sI (Int32.ofNat (c0 :: cs).length), sI 0] [(.int c0), (.int (Int32.ofNat ws.length)), (.ref t)])) rfl (by rw [hml]; rfl) (argsL := [(.ref t), (.int (Int32.ofNat ws.length)), (.int c0)]) (rest := []) (lenOf own_pd7 rfl) rfl (Nat.le_of_eq rfl) (dB d14_32) (fun _ _ => ⟨rfl, e22, Nat.le_of_ble_eq_true rfl, Nat.le_of_ble_eq_true rfl⟩)
    dsimp only [Pt.U, Pt.locs, Pt.cells, Pt.slots] at X28 l28 y28 z28 st28 hQ28
    subst l28 y28 z28
    obtain ⟨rfl, Nq28, Kq28, Aq28⟩ := hQ28
    have N28 := Fr.app N22 Nq28
    have KK1 : Keep h0 T28.heap [t] := KK0.trans Kq28 (allS (Or.inl (List.mem_of_getElem? (i := 0) rfl)) all0)
    have Zs1 : n0 ≤ T28.heap.size := Nat.le_trans Z0 Kq28.1
    have e28 : T28.heap = T28.heap := rfl
    have At0 : Arv Z T28.heap t kt .byte (32 : Int32) (StrChars.Road.wideBytes (ws ++ [c0])) (.int (0 : Int32)) := own_arv_eq Aq28 (by simp)
    have cc29 : oS p e below S0' T28 (mkF m 14 #[sR a, sI (0 + 1), sR t, sI ((Int32.ofNat ws.length) + 1), sI (Int32.ofNat (c0 :: cs).length), sI (0 + 1)] [(.int (Int32.ofNat (c0 :: cs).length)), (.int (0 + 1))]) := Steps.trans (cz27.trans (st28 _ (Steps.refl _))) (by
      refine iincV X28.here hx rfl 1 (dB d14_35) (by decide) rfl rfl ?_
      refine XS.goto X28.here hx rfl (pc0 := 38) rfl (dB d14_38) (by decide) rfl ?_
      refine XS.iload X28.here hx rfl (dB d14_10) rfl ?_
      refine XS.iload X28.here hx rfl (dB d14_12) rfl ?_
      exact Steps.refl _)
    have cl0 : oS p e below S0' T28 (mkF m 14 #[sR a, sI 1, sR t, sI (Int32.ofNat (ws ++ [c0]).length), sI (Int32.ofNat (c0 :: cs).length), sI 1] [(.int (Int32.ofNat (c0 :: cs).length)), (.int 1)]) := by
      have := cc29
      rw [succ32] at this
      rw [show (ws ++ [c0]).length = ws.length + 1 by simp]
      exact this
    rcases cs with _ | ⟨c1, cs⟩
    · skip
      have ce1 : oS p e below S0' T28 (mkF m 14 #[sR a, sI 1, sR t, sI (Int32.ofNat (ws ++ [c0]).length), sI 1, sI 1] [(.int 1), (.int 1)]) := cl0
      have cc30 : oS p e below S0' T28 (mkF m 41 #[sR a, sI 1, sR t, sI (Int32.ofNat (ws ++ [c0]).length), sI 1, sI 1] []) := Steps.trans ce1 (by
        refine XS.icmpYes X28.here hx rfl (pc0 := 14) rfl (dB d14_14) rfl (ii_ge_t (by decide)) (by decide) rfl ?_
        exact Steps.refl _)
      have cE := cc30
      rw [hS0'] at cE
      obtain ⟨fs, hr_, hrun, hended, hW, hsame⟩ := X28.leave (v := none) (fun _ => rfl)
      refine ⟨_, _, cE.trans (X28.returnOut hx Bd.returns (dB d14_41) hr_), hrun, hended, _, _, rfl, ?_, ⟨_, rfl⟩, hW, hsame.mono (by first | decide | omega) (by first | decide | omega)⟩
      show Q_own_uinf Z a t ka kt N2 ([c0] : List Int32) ws f h0 n0 _ T28.heap _
      rw [e28]
      exact ⟨rfl, N28, KK1, At0⟩
    · skip
      have hl1 : ws.length + (cs.length + 2) ≤ 16 := by simpa [Nat.add_assoc] using hl
      have ln1 : (c0 :: c1 :: cs).length = cs.length + 2 := by simp
      have pc1 := hp c1 (by simp)
      have ce1 : oS p e below S0' T28 (mkF m 14 #[sR a, sI 1, sR t, sI (Int32.ofNat (ws ++ [c0]).length), sI (Int32.ofNat (c0 :: c1 :: cs).length), sI 1] [(.int (Int32.ofNat (c0 :: c1 :: cs).length)), (.int 1)]) := cl0
      have cc31 : oS p e below S0' T28 (mkF m 27 #[sR a, sI (1 + 1), sR t, sI ((Int32.ofNat (ws ++ [c0]).length) + 1), sI (Int32.ofNat (c0 :: c1 :: cs).length), sI 1] [(.int 1), (.ref a), (.int (Int32.ofNat (ws ++ [c0]).length)), (.ref t)]) := Steps.trans ce1 (by
        refine XS.icmpNo X28.here hx rfl (dB d14_14) rfl (ii_ge_f (by rw [ln1]; exact lt32 (a := 1) (by omega) (by omega))) ?_
        refine XS.aloadN X28.here hx rfl (dB d14_17) rfl rfl ?_
        refine XS.iloadN X28.here hx rfl (dB d14_18) rfl ?_
        refine iincV X28.here hx rfl 1 (dB d14_19) (by decide) rfl rfl ?_
        refine XS.aloadN X28.here hx rfl (dB d14_22) rfl rfl ?_
        refine XS.iloadN X28.here hx rfl (dB d14_23) rfl ?_
        refine iincV X28.here hx rfl 1 (dB d14_24) (by decide) rfl rfl ?_
        exact Steps.refl _)
      have fa30 : Arv Z T28.heap a ka .byte N2 (own_by (c0 :: c1 :: cs)) (.int (0 : Int32)) := (Aa.keep Kq28 (ninS ne nin0))
      obtain ⟨clu32, Aru32, qu32, Su32, Ngu32, Hsu32, Gsu32⟩ := id fa30
      have inu32 : ¬ ((1 : Int32) < 0 ∨ clu32.slots.size ≤ ((1 : Int32)).toNatClampNeg) := inb_of Su32 ⟨by decide, hN 1 (by simp)⟩
      have atu32 : clu32.slots[((1 : Int32)).toNatClampNeg]? = some (.int (StrChars.lo8 c1)) := Hsu32.at inu32 rfl
      have cc33 : oS p e below S0' T28 (mkF m 32 #[sR a, sI (1 + 1), sR t, sI ((Int32.ofNat (ws ++ [c0]).length) + 1), sI (Int32.ofNat (c0 :: c1 :: cs).length), sI 1] [(.int ((StrChars.lo8 c1) &&& (255 : Int32))), (.int (Int32.ofNat (ws ++ [c0]).length)), (.ref t)]) := Steps.trans cc31 (by
        refine X28.baloadBytes hx (j := (1 : Int32)) (v := (.int (StrChars.lo8 c1))) (by rw [e28]; exact Aru32.1) (State.isArrayOf_alike (hZ).alike Aru32.2.1) Aru32.2.2 inu32 atu32 (g := (mkF m 27 #[sR a, sI (1 + 1), sR t, sI ((Int32.ofNat (ws ++ [c0]).length) + 1), sI (Int32.ofNat (c0 :: c1 :: cs).length), sI 1] [(.int 1), (.ref a), (.int (Int32.ofNat (ws ++ [c0]).length)), (.ref t)])) rfl rfl (dB d14_27) _ ?_
        refine sipushV X28.here hx rfl 255 (dB d14_28) (by decide) ?_
        refine XS.iand X28.here hx rfl (dB d14_31) rfl ?_
        exact Steps.refl _)
      have cz34 : oS p e below S0' T28 (mkF m 32 #[sR a, sI (1 + 1), sR t, sI ((Int32.ofNat (ws ++ [c0]).length) + 1), sI (Int32.ofNat (c0 :: c1 :: cs).length), sI 1] [(.int c1), (.int (Int32.ofNat (ws ++ [c0]).length)), (.ref t)]) := by
        have := cc33
        rw [StrChars.lo8_mask pc1.1 pc1.2] at this
        exact this
      have fa35 : Old Z n0 T28.heap := (X00.keep Kq28 (allS gt all0))
      obtain ⟨_, _, ⟨T36, L36, k36, n36⟩, -, X36, ⟨Lc36, hQ36, l36, y36, z36⟩, st36⟩ := Jvm.LawKit.callS X28 hx (y := yM13) hown (mvT hZ w_203) (mvT hZ w_204) (mvT hZ w_22) (mvT hZ w_205) (by decide) (backOf (W := 0) (own_putc l Z a0 hw t kt (ws ++ [c0]) c1 T28.heap n0 Zs1 fa35 O3 At0 (by first | omega | (simp; omega)) gt) hZ w_205 w_22 (by decide) (by decide)) (g := (mkF m 32 #[sR a, sI (1 + 1), sR t, sI ((Int32.ofNat (ws ++ [c0]).length) + 1), sI (Int32.ofNat (c0 :: c1 :: cs).length), sI 1] [(.int c1), (.int (Int32.ofNat (ws ++ [c0]).length)), (.ref t)])) rfl (by rw [hml]; rfl) (argsL := [(.ref t), (.int (Int32.ofNat (ws ++ [c0]).length)), (.int c1)]) (rest := []) (lenOf own_pd7 rfl) rfl (Nat.le_of_eq rfl) (dB d14_32) (fun _ _ => ⟨rfl, e28, Nat.le_of_ble_eq_true rfl, Nat.le_of_ble_eq_true rfl⟩)
      dsimp only [Pt.U, Pt.locs, Pt.cells, Pt.slots] at X36 l36 y36 z36 st36 hQ36
      subst l36 y36 z36
      obtain ⟨rfl, Nq36, Kq36, Aq36⟩ := hQ36
      have N36 := Fr.app N28 Nq36
      have KK2 : Keep h0 T36.heap [t] := KK1.trans Kq36 (allS (Or.inl (List.mem_of_getElem? (i := 0) rfl)) all0)
      have Zs2 : n0 ≤ T36.heap.size := Nat.le_trans Zs1 Kq36.1
      have e36 : T36.heap = T36.heap := rfl
      have At1 : Arv Z T36.heap t kt .byte (32 : Int32) (StrChars.Road.wideBytes (ws ++ [c0, c1])) (.int (0 : Int32)) := own_arv_eq Aq36 (by simp)
      have cc37 : oS p e below S0' T36 (mkF m 14 #[sR a, sI (1 + 1), sR t, sI ((Int32.ofNat (ws ++ [c0]).length) + 1), sI (Int32.ofNat (c0 :: c1 :: cs).length), sI (1 + 1)] [(.int (Int32.ofNat (c0 :: c1 :: cs).length)), (.int (1 + 1))]) := Steps.trans (cz34.trans (st36 _ (Steps.refl _))) (by
        refine iincV X36.here hx rfl 1 (dB d14_35) (by decide) rfl rfl ?_
        refine XS.goto X36.here hx rfl (pc0 := 38) rfl (dB d14_38) (by decide) rfl ?_
        refine XS.iload X36.here hx rfl (dB d14_10) rfl ?_
        refine XS.iload X36.here hx rfl (dB d14_12) rfl ?_
        exact Steps.refl _)
      have cl1 : oS p e below S0' T36 (mkF m 14 #[sR a, sI 2, sR t, sI (Int32.ofNat (ws ++ [c0, c1]).length), sI (Int32.ofNat (c0 :: c1 :: cs).length), sI 2] [(.int (Int32.ofNat (c0 :: c1 :: cs).length)), (.int 2)]) := by
        have := cc37
        rw [succ32] at this
        rw [show (ws ++ [c0, c1]).length = (ws ++ [c0]).length + 1 by simp]
        exact this
      rcases cs with _ | ⟨c2, cs⟩
      · skip
        have ce2 : oS p e below S0' T36 (mkF m 14 #[sR a, sI 2, sR t, sI (Int32.ofNat (ws ++ [c0, c1]).length), sI 2, sI 2] [(.int 2), (.int 2)]) := cl1
        have cc38 : oS p e below S0' T36 (mkF m 41 #[sR a, sI 2, sR t, sI (Int32.ofNat (ws ++ [c0, c1]).length), sI 2, sI 2] []) := Steps.trans ce2 (by
          refine XS.icmpYes X36.here hx rfl (pc0 := 14) rfl (dB d14_14) rfl (ii_ge_t (by decide)) (by decide) rfl ?_
          exact Steps.refl _)
        have cE := cc38
        rw [hS0'] at cE
        obtain ⟨fs, hr_, hrun, hended, hW, hsame⟩ := X36.leave (v := none) (fun _ => rfl)
        refine ⟨_, _, cE.trans (X36.returnOut hx Bd.returns (dB d14_41) hr_), hrun, hended, _, _, rfl, ?_, ⟨_, rfl⟩, hW, hsame.mono (by first | decide | omega) (by first | decide | omega)⟩
        show Q_own_uinf Z a t ka kt N2 ([c0, c1] : List Int32) ws f h0 n0 _ T36.heap _
        rw [e36]
        exact ⟨rfl, N36, KK2, At1⟩
      · skip
        have hl2 : ws.length + (cs.length + 3) ≤ 16 := by simpa [Nat.add_assoc] using hl
        have ln2 : (c0 :: c1 :: c2 :: cs).length = cs.length + 3 := by simp
        have pc2 := hp c2 (by simp)
        have ce2 : oS p e below S0' T36 (mkF m 14 #[sR a, sI 2, sR t, sI (Int32.ofNat (ws ++ [c0, c1]).length), sI (Int32.ofNat (c0 :: c1 :: c2 :: cs).length), sI 2] [(.int (Int32.ofNat (c0 :: c1 :: c2 :: cs).length)), (.int 2)]) := cl1
        have cc39 : oS p e below S0' T36 (mkF m 27 #[sR a, sI (2 + 1), sR t, sI ((Int32.ofNat (ws ++ [c0, c1]).length) + 1), sI (Int32.ofNat (c0 :: c1 :: c2 :: cs).length), sI 2] [(.int 2), (.ref a), (.int (Int32.ofNat (ws ++ [c0, c1]).length)), (.ref t)]) := Steps.trans ce2 (by
          refine XS.icmpNo X36.here hx rfl (dB d14_14) rfl (ii_ge_f (by rw [ln2]; exact lt32 (a := 2) (by omega) (by omega))) ?_
          refine XS.aloadN X36.here hx rfl (dB d14_17) rfl rfl ?_
          refine XS.iloadN X36.here hx rfl (dB d14_18) rfl ?_
          refine iincV X36.here hx rfl 1 (dB d14_19) (by decide) rfl rfl ?_
          refine XS.aloadN X36.here hx rfl (dB d14_22) rfl rfl ?_
          refine XS.iloadN X36.here hx rfl (dB d14_23) rfl ?_
          refine iincV X36.here hx rfl 1 (dB d14_24) (by decide) rfl rfl ?_
          exact Steps.refl _)
        have fa38 : Arv Z T36.heap a ka .byte N2 (own_by (c0 :: c1 :: c2 :: cs)) (.int (0 : Int32)) := (fa30.keep Kq36 (ninS ne nin0))
        obtain ⟨clu40, Aru40, qu40, Su40, Ngu40, Hsu40, Gsu40⟩ := id fa38
        have inu40 : ¬ ((2 : Int32) < 0 ∨ clu40.slots.size ≤ ((2 : Int32)).toNatClampNeg) := inb_of Su40 ⟨by decide, hN 2 (by simp)⟩
        have atu40 : clu40.slots[((2 : Int32)).toNatClampNeg]? = some (.int (StrChars.lo8 c2)) := Hsu40.at inu40 rfl
        have cc41 : oS p e below S0' T36 (mkF m 32 #[sR a, sI (2 + 1), sR t, sI ((Int32.ofNat (ws ++ [c0, c1]).length) + 1), sI (Int32.ofNat (c0 :: c1 :: c2 :: cs).length), sI 2] [(.int ((StrChars.lo8 c2) &&& (255 : Int32))), (.int (Int32.ofNat (ws ++ [c0, c1]).length)), (.ref t)]) := Steps.trans cc39 (by
          refine X36.baloadBytes hx (j := (2 : Int32)) (v := (.int (StrChars.lo8 c2))) (by rw [e36]; exact Aru40.1) (State.isArrayOf_alike (hZ).alike Aru40.2.1) Aru40.2.2 inu40 atu40 (g := (mkF m 27 #[sR a, sI (2 + 1), sR t, sI ((Int32.ofNat (ws ++ [c0, c1]).length) + 1), sI (Int32.ofNat (c0 :: c1 :: c2 :: cs).length), sI 2] [(.int 2), (.ref a), (.int (Int32.ofNat (ws ++ [c0, c1]).length)), (.ref t)])) rfl rfl (dB d14_27) _ ?_
          refine sipushV X36.here hx rfl 255 (dB d14_28) (by decide) ?_
          refine XS.iand X36.here hx rfl (dB d14_31) rfl ?_
          exact Steps.refl _)
        have cz42 : oS p e below S0' T36 (mkF m 32 #[sR a, sI (2 + 1), sR t, sI ((Int32.ofNat (ws ++ [c0, c1]).length) + 1), sI (Int32.ofNat (c0 :: c1 :: c2 :: cs).length), sI 2] [(.int c2), (.int (Int32.ofNat (ws ++ [c0, c1]).length)), (.ref t)]) := by
          have := cc41
          rw [StrChars.lo8_mask pc2.1 pc2.2] at this
          exact this
        have fa43 : Old Z n0 T36.heap := (fa35.keep Kq36 (allS gt all0))
        obtain ⟨_, _, ⟨T44, L44, k44, n44⟩, -, X44, ⟨Lc44, hQ44, l44, y44, z44⟩, st44⟩ := Jvm.LawKit.callS X36 hx (y := yM13) hown (mvT hZ w_203) (mvT hZ w_204) (mvT hZ w_22) (mvT hZ w_205) (by decide) (backOf (W := 0) (own_putc l Z a0 hw t kt (ws ++ [c0, c1]) c2 T36.heap n0 Zs2 fa43 O3 At1 (by first | omega | (simp; omega)) gt) hZ w_205 w_22 (by decide) (by decide)) (g := (mkF m 32 #[sR a, sI (2 + 1), sR t, sI ((Int32.ofNat (ws ++ [c0, c1]).length) + 1), sI (Int32.ofNat (c0 :: c1 :: c2 :: cs).length), sI 2] [(.int c2), (.int (Int32.ofNat (ws ++ [c0, c1]).length)), (.ref t)])) rfl (by rw [hml]; rfl) (argsL := [(.ref t), (.int (Int32.ofNat (ws ++ [c0, c1]).length)), (.int c2)]) (rest := []) (lenOf own_pd7 rfl) rfl (Nat.le_of_eq rfl) (dB d14_32) (fun _ _ => ⟨rfl, e36, Nat.le_of_ble_eq_true rfl, Nat.le_of_ble_eq_true rfl⟩)
        dsimp only [Pt.U, Pt.locs, Pt.cells, Pt.slots] at X44 l44 y44 z44 st44 hQ44
        subst l44 y44 z44
        obtain ⟨rfl, Nq44, Kq44, Aq44⟩ := hQ44
        have N44 := Fr.app N36 Nq44
        have KK3 : Keep h0 T44.heap [t] := KK2.trans Kq44 (allS (Or.inl (List.mem_of_getElem? (i := 0) rfl)) all0)
        have Zs3 : n0 ≤ T44.heap.size := Nat.le_trans Zs2 Kq44.1
        have e44 : T44.heap = T44.heap := rfl
        have At2 : Arv Z T44.heap t kt .byte (32 : Int32) (StrChars.Road.wideBytes (ws ++ [c0, c1, c2])) (.int (0 : Int32)) := own_arv_eq Aq44 (by simp)
        have cc45 : oS p e below S0' T44 (mkF m 14 #[sR a, sI (2 + 1), sR t, sI ((Int32.ofNat (ws ++ [c0, c1]).length) + 1), sI (Int32.ofNat (c0 :: c1 :: c2 :: cs).length), sI (2 + 1)] [(.int (Int32.ofNat (c0 :: c1 :: c2 :: cs).length)), (.int (2 + 1))]) := Steps.trans (cz42.trans (st44 _ (Steps.refl _))) (by
          refine iincV X44.here hx rfl 1 (dB d14_35) (by decide) rfl rfl ?_
          refine XS.goto X44.here hx rfl (pc0 := 38) rfl (dB d14_38) (by decide) rfl ?_
          refine XS.iload X44.here hx rfl (dB d14_10) rfl ?_
          refine XS.iload X44.here hx rfl (dB d14_12) rfl ?_
          exact Steps.refl _)
        have cl2 : oS p e below S0' T44 (mkF m 14 #[sR a, sI 3, sR t, sI (Int32.ofNat (ws ++ [c0, c1, c2]).length), sI (Int32.ofNat (c0 :: c1 :: c2 :: cs).length), sI 3] [(.int (Int32.ofNat (c0 :: c1 :: c2 :: cs).length)), (.int 3)]) := by
          have := cc45
          rw [succ32] at this
          rw [show (ws ++ [c0, c1, c2]).length = (ws ++ [c0, c1]).length + 1 by simp]
          exact this
        rcases cs with _ | ⟨c3, cs⟩
        · skip
          have ce3 : oS p e below S0' T44 (mkF m 14 #[sR a, sI 3, sR t, sI (Int32.ofNat (ws ++ [c0, c1, c2]).length), sI 3, sI 3] [(.int 3), (.int 3)]) := cl2
          have cc46 : oS p e below S0' T44 (mkF m 41 #[sR a, sI 3, sR t, sI (Int32.ofNat (ws ++ [c0, c1, c2]).length), sI 3, sI 3] []) := Steps.trans ce3 (by
            refine XS.icmpYes X44.here hx rfl (pc0 := 14) rfl (dB d14_14) rfl (ii_ge_t (by decide)) (by decide) rfl ?_
            exact Steps.refl _)
          have cE := cc46
          rw [hS0'] at cE
          obtain ⟨fs, hr_, hrun, hended, hW, hsame⟩ := X44.leave (v := none) (fun _ => rfl)
          refine ⟨_, _, cE.trans (X44.returnOut hx Bd.returns (dB d14_41) hr_), hrun, hended, _, _, rfl, ?_, ⟨_, rfl⟩, hW, hsame.mono (by first | decide | omega) (by first | decide | omega)⟩
          show Q_own_uinf Z a t ka kt N2 ([c0, c1, c2] : List Int32) ws f h0 n0 _ T44.heap _
          rw [e44]
          exact ⟨rfl, N44, KK3, At2⟩
        · skip
          have hl3 : ws.length + (cs.length + 4) ≤ 16 := by simpa [Nat.add_assoc] using hl
          have ln3 : (c0 :: c1 :: c2 :: c3 :: cs).length = cs.length + 4 := by simp
          have pc3 := hp c3 (by simp)
          have ce3 : oS p e below S0' T44 (mkF m 14 #[sR a, sI 3, sR t, sI (Int32.ofNat (ws ++ [c0, c1, c2]).length), sI (Int32.ofNat (c0 :: c1 :: c2 :: c3 :: cs).length), sI 3] [(.int (Int32.ofNat (c0 :: c1 :: c2 :: c3 :: cs).length)), (.int 3)]) := cl2
          have cc47 : oS p e below S0' T44 (mkF m 27 #[sR a, sI (3 + 1), sR t, sI ((Int32.ofNat (ws ++ [c0, c1, c2]).length) + 1), sI (Int32.ofNat (c0 :: c1 :: c2 :: c3 :: cs).length), sI 3] [(.int 3), (.ref a), (.int (Int32.ofNat (ws ++ [c0, c1, c2]).length)), (.ref t)]) := Steps.trans ce3 (by
            refine XS.icmpNo X44.here hx rfl (dB d14_14) rfl (ii_ge_f (by rw [ln3]; exact lt32 (a := 3) (by omega) (by omega))) ?_
            refine XS.aloadN X44.here hx rfl (dB d14_17) rfl rfl ?_
            refine XS.iloadN X44.here hx rfl (dB d14_18) rfl ?_
            refine iincV X44.here hx rfl 1 (dB d14_19) (by decide) rfl rfl ?_
            refine XS.aloadN X44.here hx rfl (dB d14_22) rfl rfl ?_
            refine XS.iloadN X44.here hx rfl (dB d14_23) rfl ?_
            refine iincV X44.here hx rfl 1 (dB d14_24) (by decide) rfl rfl ?_
            exact Steps.refl _)
          have fa46 : Arv Z T44.heap a ka .byte N2 (own_by (c0 :: c1 :: c2 :: c3 :: cs)) (.int (0 : Int32)) := (fa38.keep Kq44 (ninS ne nin0))
          obtain ⟨clu48, Aru48, qu48, Su48, Ngu48, Hsu48, Gsu48⟩ := id fa46
          have inu48 : ¬ ((3 : Int32) < 0 ∨ clu48.slots.size ≤ ((3 : Int32)).toNatClampNeg) := inb_of Su48 ⟨by decide, hN 3 (by simp)⟩
          have atu48 : clu48.slots[((3 : Int32)).toNatClampNeg]? = some (.int (StrChars.lo8 c3)) := Hsu48.at inu48 rfl
          have cc49 : oS p e below S0' T44 (mkF m 32 #[sR a, sI (3 + 1), sR t, sI ((Int32.ofNat (ws ++ [c0, c1, c2]).length) + 1), sI (Int32.ofNat (c0 :: c1 :: c2 :: c3 :: cs).length), sI 3] [(.int ((StrChars.lo8 c3) &&& (255 : Int32))), (.int (Int32.ofNat (ws ++ [c0, c1, c2]).length)), (.ref t)]) := Steps.trans cc47 (by
            refine X44.baloadBytes hx (j := (3 : Int32)) (v := (.int (StrChars.lo8 c3))) (by rw [e44]; exact Aru48.1) (State.isArrayOf_alike (hZ).alike Aru48.2.1) Aru48.2.2 inu48 atu48 (g := (mkF m 27 #[sR a, sI (3 + 1), sR t, sI ((Int32.ofNat (ws ++ [c0, c1, c2]).length) + 1), sI (Int32.ofNat (c0 :: c1 :: c2 :: c3 :: cs).length), sI 3] [(.int 3), (.ref a), (.int (Int32.ofNat (ws ++ [c0, c1, c2]).length)), (.ref t)])) rfl rfl (dB d14_27) _ ?_
            refine sipushV X44.here hx rfl 255 (dB d14_28) (by decide) ?_
            refine XS.iand X44.here hx rfl (dB d14_31) rfl ?_
            exact Steps.refl _)
          have cz50 : oS p e below S0' T44 (mkF m 32 #[sR a, sI (3 + 1), sR t, sI ((Int32.ofNat (ws ++ [c0, c1, c2]).length) + 1), sI (Int32.ofNat (c0 :: c1 :: c2 :: c3 :: cs).length), sI 3] [(.int c3), (.int (Int32.ofNat (ws ++ [c0, c1, c2]).length)), (.ref t)]) := by
            have := cc49
            rw [StrChars.lo8_mask pc3.1 pc3.2] at this
            exact this
          have fa51 : Old Z n0 T44.heap := (fa43.keep Kq44 (allS gt all0))
          obtain ⟨_, _, ⟨T52, L52, k52, n52⟩, -, X52, ⟨Lc52, hQ52, l52, y52, z52⟩, st52⟩ := Jvm.LawKit.callS X44 hx (y := yM13) hown (mvT hZ w_203) (mvT hZ w_204) (mvT hZ w_22) (mvT hZ w_205) (by decide) (backOf (W := 0) (own_putc l Z a0 hw t kt (ws ++ [c0, c1, c2]) c3 T44.heap n0 Zs3 fa51 O3 At2 (by first | omega | (simp; omega)) gt) hZ w_205 w_22 (by decide) (by decide)) (g := (mkF m 32 #[sR a, sI (3 + 1), sR t, sI ((Int32.ofNat (ws ++ [c0, c1, c2]).length) + 1), sI (Int32.ofNat (c0 :: c1 :: c2 :: c3 :: cs).length), sI 3] [(.int c3), (.int (Int32.ofNat (ws ++ [c0, c1, c2]).length)), (.ref t)])) rfl (by rw [hml]; rfl) (argsL := [(.ref t), (.int (Int32.ofNat (ws ++ [c0, c1, c2]).length)), (.int c3)]) (rest := []) (lenOf own_pd7 rfl) rfl (Nat.le_of_eq rfl) (dB d14_32) (fun _ _ => ⟨rfl, e44, Nat.le_of_ble_eq_true rfl, Nat.le_of_ble_eq_true rfl⟩)
          dsimp only [Pt.U, Pt.locs, Pt.cells, Pt.slots] at X52 l52 y52 z52 st52 hQ52
          subst l52 y52 z52
          obtain ⟨rfl, Nq52, Kq52, Aq52⟩ := hQ52
          have N52 := Fr.app N44 Nq52
          have KK4 : Keep h0 T52.heap [t] := KK3.trans Kq52 (allS (Or.inl (List.mem_of_getElem? (i := 0) rfl)) all0)
          have Zs4 : n0 ≤ T52.heap.size := Nat.le_trans Zs3 Kq52.1
          have e52 : T52.heap = T52.heap := rfl
          have At3 : Arv Z T52.heap t kt .byte (32 : Int32) (StrChars.Road.wideBytes (ws ++ [c0, c1, c2, c3])) (.int (0 : Int32)) := own_arv_eq Aq52 (by simp)
          have cc53 : oS p e below S0' T52 (mkF m 14 #[sR a, sI (3 + 1), sR t, sI ((Int32.ofNat (ws ++ [c0, c1, c2]).length) + 1), sI (Int32.ofNat (c0 :: c1 :: c2 :: c3 :: cs).length), sI (3 + 1)] [(.int (Int32.ofNat (c0 :: c1 :: c2 :: c3 :: cs).length)), (.int (3 + 1))]) := Steps.trans (cz50.trans (st52 _ (Steps.refl _))) (by
            refine iincV X52.here hx rfl 1 (dB d14_35) (by decide) rfl rfl ?_
            refine XS.goto X52.here hx rfl (pc0 := 38) rfl (dB d14_38) (by decide) rfl ?_
            refine XS.iload X52.here hx rfl (dB d14_10) rfl ?_
            refine XS.iload X52.here hx rfl (dB d14_12) rfl ?_
            exact Steps.refl _)
          have cl3 : oS p e below S0' T52 (mkF m 14 #[sR a, sI 4, sR t, sI (Int32.ofNat (ws ++ [c0, c1, c2, c3]).length), sI (Int32.ofNat (c0 :: c1 :: c2 :: c3 :: cs).length), sI 4] [(.int (Int32.ofNat (c0 :: c1 :: c2 :: c3 :: cs).length)), (.int 4)]) := by
            have := cc53
            rw [succ32] at this
            rw [show (ws ++ [c0, c1, c2, c3]).length = (ws ++ [c0, c1, c2]).length + 1 by simp]
            exact this
          rcases cs with _ | ⟨c4, cs⟩
          · skip
            have ce4 : oS p e below S0' T52 (mkF m 14 #[sR a, sI 4, sR t, sI (Int32.ofNat (ws ++ [c0, c1, c2, c3]).length), sI 4, sI 4] [(.int 4), (.int 4)]) := cl3
            have cc54 : oS p e below S0' T52 (mkF m 41 #[sR a, sI 4, sR t, sI (Int32.ofNat (ws ++ [c0, c1, c2, c3]).length), sI 4, sI 4] []) := Steps.trans ce4 (by
              refine XS.icmpYes X52.here hx rfl (pc0 := 14) rfl (dB d14_14) rfl (ii_ge_t (by decide)) (by decide) rfl ?_
              exact Steps.refl _)
            have cE := cc54
            rw [hS0'] at cE
            obtain ⟨fs, hr_, hrun, hended, hW, hsame⟩ := X52.leave (v := none) (fun _ => rfl)
            refine ⟨_, _, cE.trans (X52.returnOut hx Bd.returns (dB d14_41) hr_), hrun, hended, _, _, rfl, ?_, ⟨_, rfl⟩, hW, hsame.mono (by first | decide | omega) (by first | decide | omega)⟩
            show Q_own_uinf Z a t ka kt N2 ([c0, c1, c2, c3] : List Int32) ws f h0 n0 _ T52.heap _
            rw [e52]
            exact ⟨rfl, N52, KK4, At3⟩
          · skip
            have hl4 : ws.length + (cs.length + 5) ≤ 16 := by simpa [Nat.add_assoc] using hl
            have ln4 : (c0 :: c1 :: c2 :: c3 :: c4 :: cs).length = cs.length + 5 := by simp
            have pc4 := hp c4 (by simp)
            have ce4 : oS p e below S0' T52 (mkF m 14 #[sR a, sI 4, sR t, sI (Int32.ofNat (ws ++ [c0, c1, c2, c3]).length), sI (Int32.ofNat (c0 :: c1 :: c2 :: c3 :: c4 :: cs).length), sI 4] [(.int (Int32.ofNat (c0 :: c1 :: c2 :: c3 :: c4 :: cs).length)), (.int 4)]) := cl3
            have cc55 : oS p e below S0' T52 (mkF m 27 #[sR a, sI (4 + 1), sR t, sI ((Int32.ofNat (ws ++ [c0, c1, c2, c3]).length) + 1), sI (Int32.ofNat (c0 :: c1 :: c2 :: c3 :: c4 :: cs).length), sI 4] [(.int 4), (.ref a), (.int (Int32.ofNat (ws ++ [c0, c1, c2, c3]).length)), (.ref t)]) := Steps.trans ce4 (by
              refine XS.icmpNo X52.here hx rfl (dB d14_14) rfl (ii_ge_f (by rw [ln4]; exact lt32 (a := 4) (by omega) (by omega))) ?_
              refine XS.aloadN X52.here hx rfl (dB d14_17) rfl rfl ?_
              refine XS.iloadN X52.here hx rfl (dB d14_18) rfl ?_
              refine iincV X52.here hx rfl 1 (dB d14_19) (by decide) rfl rfl ?_
              refine XS.aloadN X52.here hx rfl (dB d14_22) rfl rfl ?_
              refine XS.iloadN X52.here hx rfl (dB d14_23) rfl ?_
              refine iincV X52.here hx rfl 1 (dB d14_24) (by decide) rfl rfl ?_
              exact Steps.refl _)
            have fa54 : Arv Z T52.heap a ka .byte N2 (own_by (c0 :: c1 :: c2 :: c3 :: c4 :: cs)) (.int (0 : Int32)) := (fa46.keep Kq52 (ninS ne nin0))
            obtain ⟨clu56, Aru56, qu56, Su56, Ngu56, Hsu56, Gsu56⟩ := id fa54
            have inu56 : ¬ ((4 : Int32) < 0 ∨ clu56.slots.size ≤ ((4 : Int32)).toNatClampNeg) := inb_of Su56 ⟨by decide, hN 4 (by simp)⟩
            have atu56 : clu56.slots[((4 : Int32)).toNatClampNeg]? = some (.int (StrChars.lo8 c4)) := Hsu56.at inu56 rfl
            have cc57 : oS p e below S0' T52 (mkF m 32 #[sR a, sI (4 + 1), sR t, sI ((Int32.ofNat (ws ++ [c0, c1, c2, c3]).length) + 1), sI (Int32.ofNat (c0 :: c1 :: c2 :: c3 :: c4 :: cs).length), sI 4] [(.int ((StrChars.lo8 c4) &&& (255 : Int32))), (.int (Int32.ofNat (ws ++ [c0, c1, c2, c3]).length)), (.ref t)]) := Steps.trans cc55 (by
              refine X52.baloadBytes hx (j := (4 : Int32)) (v := (.int (StrChars.lo8 c4))) (by rw [e52]; exact Aru56.1) (State.isArrayOf_alike (hZ).alike Aru56.2.1) Aru56.2.2 inu56 atu56 (g := (mkF m 27 #[sR a, sI (4 + 1), sR t, sI ((Int32.ofNat (ws ++ [c0, c1, c2, c3]).length) + 1), sI (Int32.ofNat (c0 :: c1 :: c2 :: c3 :: c4 :: cs).length), sI 4] [(.int 4), (.ref a), (.int (Int32.ofNat (ws ++ [c0, c1, c2, c3]).length)), (.ref t)])) rfl rfl (dB d14_27) _ ?_
              refine sipushV X52.here hx rfl 255 (dB d14_28) (by decide) ?_
              refine XS.iand X52.here hx rfl (dB d14_31) rfl ?_
              exact Steps.refl _)
            have cz58 : oS p e below S0' T52 (mkF m 32 #[sR a, sI (4 + 1), sR t, sI ((Int32.ofNat (ws ++ [c0, c1, c2, c3]).length) + 1), sI (Int32.ofNat (c0 :: c1 :: c2 :: c3 :: c4 :: cs).length), sI 4] [(.int c4), (.int (Int32.ofNat (ws ++ [c0, c1, c2, c3]).length)), (.ref t)]) := by
              have := cc57
              rw [StrChars.lo8_mask pc4.1 pc4.2] at this
              exact this
            have fa59 : Old Z n0 T52.heap := (fa51.keep Kq52 (allS gt all0))
            obtain ⟨_, _, ⟨T60, L60, k60, n60⟩, -, X60, ⟨Lc60, hQ60, l60, y60, z60⟩, st60⟩ := Jvm.LawKit.callS X52 hx (y := yM13) hown (mvT hZ w_203) (mvT hZ w_204) (mvT hZ w_22) (mvT hZ w_205) (by decide) (backOf (W := 0) (own_putc l Z a0 hw t kt (ws ++ [c0, c1, c2, c3]) c4 T52.heap n0 Zs4 fa59 O3 At3 (by first | omega | (simp; omega)) gt) hZ w_205 w_22 (by decide) (by decide)) (g := (mkF m 32 #[sR a, sI (4 + 1), sR t, sI ((Int32.ofNat (ws ++ [c0, c1, c2, c3]).length) + 1), sI (Int32.ofNat (c0 :: c1 :: c2 :: c3 :: c4 :: cs).length), sI 4] [(.int c4), (.int (Int32.ofNat (ws ++ [c0, c1, c2, c3]).length)), (.ref t)])) rfl (by rw [hml]; rfl) (argsL := [(.ref t), (.int (Int32.ofNat (ws ++ [c0, c1, c2, c3]).length)), (.int c4)]) (rest := []) (lenOf own_pd7 rfl) rfl (Nat.le_of_eq rfl) (dB d14_32) (fun _ _ => ⟨rfl, e52, Nat.le_of_ble_eq_true rfl, Nat.le_of_ble_eq_true rfl⟩)
            dsimp only [Pt.U, Pt.locs, Pt.cells, Pt.slots] at X60 l60 y60 z60 st60 hQ60
            subst l60 y60 z60
            obtain ⟨rfl, Nq60, Kq60, Aq60⟩ := hQ60
            have N60 := Fr.app N52 Nq60
            have KK5 : Keep h0 T60.heap [t] := KK4.trans Kq60 (allS (Or.inl (List.mem_of_getElem? (i := 0) rfl)) all0)
            have Zs5 : n0 ≤ T60.heap.size := Nat.le_trans Zs4 Kq60.1
            have e60 : T60.heap = T60.heap := rfl
            have At4 : Arv Z T60.heap t kt .byte (32 : Int32) (StrChars.Road.wideBytes (ws ++ [c0, c1, c2, c3, c4])) (.int (0 : Int32)) := own_arv_eq Aq60 (by simp)
            have cc61 : oS p e below S0' T60 (mkF m 14 #[sR a, sI (4 + 1), sR t, sI ((Int32.ofNat (ws ++ [c0, c1, c2, c3]).length) + 1), sI (Int32.ofNat (c0 :: c1 :: c2 :: c3 :: c4 :: cs).length), sI (4 + 1)] [(.int (Int32.ofNat (c0 :: c1 :: c2 :: c3 :: c4 :: cs).length)), (.int (4 + 1))]) := Steps.trans (cz58.trans (st60 _ (Steps.refl _))) (by
              refine iincV X60.here hx rfl 1 (dB d14_35) (by decide) rfl rfl ?_
              refine XS.goto X60.here hx rfl (pc0 := 38) rfl (dB d14_38) (by decide) rfl ?_
              refine XS.iload X60.here hx rfl (dB d14_10) rfl ?_
              refine XS.iload X60.here hx rfl (dB d14_12) rfl ?_
              exact Steps.refl _)
            have cl4 : oS p e below S0' T60 (mkF m 14 #[sR a, sI 5, sR t, sI (Int32.ofNat (ws ++ [c0, c1, c2, c3, c4]).length), sI (Int32.ofNat (c0 :: c1 :: c2 :: c3 :: c4 :: cs).length), sI 5] [(.int (Int32.ofNat (c0 :: c1 :: c2 :: c3 :: c4 :: cs).length)), (.int 5)]) := by
              have := cc61
              rw [succ32] at this
              rw [show (ws ++ [c0, c1, c2, c3, c4]).length = (ws ++ [c0, c1, c2, c3]).length + 1 by simp]
              exact this
            rcases cs with _ | ⟨c5, cs⟩
            · skip
              have ce5 : oS p e below S0' T60 (mkF m 14 #[sR a, sI 5, sR t, sI (Int32.ofNat (ws ++ [c0, c1, c2, c3, c4]).length), sI 5, sI 5] [(.int 5), (.int 5)]) := cl4
              have cc62 : oS p e below S0' T60 (mkF m 41 #[sR a, sI 5, sR t, sI (Int32.ofNat (ws ++ [c0, c1, c2, c3, c4]).length), sI 5, sI 5] []) := Steps.trans ce5 (by
                refine XS.icmpYes X60.here hx rfl (pc0 := 14) rfl (dB d14_14) rfl (ii_ge_t (by decide)) (by decide) rfl ?_
                exact Steps.refl _)
              have cE := cc62
              rw [hS0'] at cE
              obtain ⟨fs, hr_, hrun, hended, hW, hsame⟩ := X60.leave (v := none) (fun _ => rfl)
              refine ⟨_, _, cE.trans (X60.returnOut hx Bd.returns (dB d14_41) hr_), hrun, hended, _, _, rfl, ?_, ⟨_, rfl⟩, hW, hsame.mono (by first | decide | omega) (by first | decide | omega)⟩
              show Q_own_uinf Z a t ka kt N2 ([c0, c1, c2, c3, c4] : List Int32) ws f h0 n0 _ T60.heap _
              rw [e60]
              exact ⟨rfl, N60, KK5, At4⟩
            · skip
              have hl5 : ws.length + (cs.length + 6) ≤ 16 := by simpa [Nat.add_assoc] using hl
              have ln5 : (c0 :: c1 :: c2 :: c3 :: c4 :: c5 :: cs).length = cs.length + 6 := by simp
              have pc5 := hp c5 (by simp)
              have ce5 : oS p e below S0' T60 (mkF m 14 #[sR a, sI 5, sR t, sI (Int32.ofNat (ws ++ [c0, c1, c2, c3, c4]).length), sI (Int32.ofNat (c0 :: c1 :: c2 :: c3 :: c4 :: c5 :: cs).length), sI 5] [(.int (Int32.ofNat (c0 :: c1 :: c2 :: c3 :: c4 :: c5 :: cs).length)), (.int 5)]) := cl4
              have cc63 : oS p e below S0' T60 (mkF m 27 #[sR a, sI (5 + 1), sR t, sI ((Int32.ofNat (ws ++ [c0, c1, c2, c3, c4]).length) + 1), sI (Int32.ofNat (c0 :: c1 :: c2 :: c3 :: c4 :: c5 :: cs).length), sI 5] [(.int 5), (.ref a), (.int (Int32.ofNat (ws ++ [c0, c1, c2, c3, c4]).length)), (.ref t)]) := Steps.trans ce5 (by
                refine XS.icmpNo X60.here hx rfl (dB d14_14) rfl (ii_ge_f (by rw [ln5]; exact lt32 (a := 5) (by omega) (by omega))) ?_
                refine XS.aloadN X60.here hx rfl (dB d14_17) rfl rfl ?_
                refine XS.iloadN X60.here hx rfl (dB d14_18) rfl ?_
                refine iincV X60.here hx rfl 1 (dB d14_19) (by decide) rfl rfl ?_
                refine XS.aloadN X60.here hx rfl (dB d14_22) rfl rfl ?_
                refine XS.iloadN X60.here hx rfl (dB d14_23) rfl ?_
                refine iincV X60.here hx rfl 1 (dB d14_24) (by decide) rfl rfl ?_
                exact Steps.refl _)
              have fa62 : Arv Z T60.heap a ka .byte N2 (own_by (c0 :: c1 :: c2 :: c3 :: c4 :: c5 :: cs)) (.int (0 : Int32)) := (fa54.keep Kq60 (ninS ne nin0))
              obtain ⟨clu64, Aru64, qu64, Su64, Ngu64, Hsu64, Gsu64⟩ := id fa62
              have inu64 : ¬ ((5 : Int32) < 0 ∨ clu64.slots.size ≤ ((5 : Int32)).toNatClampNeg) := inb_of Su64 ⟨by decide, hN 5 (by simp)⟩
              have atu64 : clu64.slots[((5 : Int32)).toNatClampNeg]? = some (.int (StrChars.lo8 c5)) := Hsu64.at inu64 rfl
              have cc65 : oS p e below S0' T60 (mkF m 32 #[sR a, sI (5 + 1), sR t, sI ((Int32.ofNat (ws ++ [c0, c1, c2, c3, c4]).length) + 1), sI (Int32.ofNat (c0 :: c1 :: c2 :: c3 :: c4 :: c5 :: cs).length), sI 5] [(.int ((StrChars.lo8 c5) &&& (255 : Int32))), (.int (Int32.ofNat (ws ++ [c0, c1, c2, c3, c4]).length)), (.ref t)]) := Steps.trans cc63 (by
                refine X60.baloadBytes hx (j := (5 : Int32)) (v := (.int (StrChars.lo8 c5))) (by rw [e60]; exact Aru64.1) (State.isArrayOf_alike (hZ).alike Aru64.2.1) Aru64.2.2 inu64 atu64 (g := (mkF m 27 #[sR a, sI (5 + 1), sR t, sI ((Int32.ofNat (ws ++ [c0, c1, c2, c3, c4]).length) + 1), sI (Int32.ofNat (c0 :: c1 :: c2 :: c3 :: c4 :: c5 :: cs).length), sI 5] [(.int 5), (.ref a), (.int (Int32.ofNat (ws ++ [c0, c1, c2, c3, c4]).length)), (.ref t)])) rfl rfl (dB d14_27) _ ?_
                refine sipushV X60.here hx rfl 255 (dB d14_28) (by decide) ?_
                refine XS.iand X60.here hx rfl (dB d14_31) rfl ?_
                exact Steps.refl _)
              have cz66 : oS p e below S0' T60 (mkF m 32 #[sR a, sI (5 + 1), sR t, sI ((Int32.ofNat (ws ++ [c0, c1, c2, c3, c4]).length) + 1), sI (Int32.ofNat (c0 :: c1 :: c2 :: c3 :: c4 :: c5 :: cs).length), sI 5] [(.int c5), (.int (Int32.ofNat (ws ++ [c0, c1, c2, c3, c4]).length)), (.ref t)]) := by
                have := cc65
                rw [StrChars.lo8_mask pc5.1 pc5.2] at this
                exact this
              have fa67 : Old Z n0 T60.heap := (fa59.keep Kq60 (allS gt all0))
              obtain ⟨_, _, ⟨T68, L68, k68, n68⟩, -, X68, ⟨Lc68, hQ68, l68, y68, z68⟩, st68⟩ := Jvm.LawKit.callS X60 hx (y := yM13) hown (mvT hZ w_203) (mvT hZ w_204) (mvT hZ w_22) (mvT hZ w_205) (by decide) (backOf (W := 0) (own_putc l Z a0 hw t kt (ws ++ [c0, c1, c2, c3, c4]) c5 T60.heap n0 Zs5 fa67 O3 At4 (by first | omega | (simp; omega)) gt) hZ w_205 w_22 (by decide) (by decide)) (g := (mkF m 32 #[sR a, sI (5 + 1), sR t, sI ((Int32.ofNat (ws ++ [c0, c1, c2, c3, c4]).length) + 1), sI (Int32.ofNat (c0 :: c1 :: c2 :: c3 :: c4 :: c5 :: cs).length), sI 5] [(.int c5), (.int (Int32.ofNat (ws ++ [c0, c1, c2, c3, c4]).length)), (.ref t)])) rfl (by rw [hml]; rfl) (argsL := [(.ref t), (.int (Int32.ofNat (ws ++ [c0, c1, c2, c3, c4]).length)), (.int c5)]) (rest := []) (lenOf own_pd7 rfl) rfl (Nat.le_of_eq rfl) (dB d14_32) (fun _ _ => ⟨rfl, e60, Nat.le_of_ble_eq_true rfl, Nat.le_of_ble_eq_true rfl⟩)
              dsimp only [Pt.U, Pt.locs, Pt.cells, Pt.slots] at X68 l68 y68 z68 st68 hQ68
              subst l68 y68 z68
              obtain ⟨rfl, Nq68, Kq68, Aq68⟩ := hQ68
              have N68 := Fr.app N60 Nq68
              have KK6 : Keep h0 T68.heap [t] := KK5.trans Kq68 (allS (Or.inl (List.mem_of_getElem? (i := 0) rfl)) all0)
              have Zs6 : n0 ≤ T68.heap.size := Nat.le_trans Zs5 Kq68.1
              have e68 : T68.heap = T68.heap := rfl
              have At5 : Arv Z T68.heap t kt .byte (32 : Int32) (StrChars.Road.wideBytes (ws ++ [c0, c1, c2, c3, c4, c5])) (.int (0 : Int32)) := own_arv_eq Aq68 (by simp)
              have cc69 : oS p e below S0' T68 (mkF m 14 #[sR a, sI (5 + 1), sR t, sI ((Int32.ofNat (ws ++ [c0, c1, c2, c3, c4]).length) + 1), sI (Int32.ofNat (c0 :: c1 :: c2 :: c3 :: c4 :: c5 :: cs).length), sI (5 + 1)] [(.int (Int32.ofNat (c0 :: c1 :: c2 :: c3 :: c4 :: c5 :: cs).length)), (.int (5 + 1))]) := Steps.trans (cz66.trans (st68 _ (Steps.refl _))) (by
                refine iincV X68.here hx rfl 1 (dB d14_35) (by decide) rfl rfl ?_
                refine XS.goto X68.here hx rfl (pc0 := 38) rfl (dB d14_38) (by decide) rfl ?_
                refine XS.iload X68.here hx rfl (dB d14_10) rfl ?_
                refine XS.iload X68.here hx rfl (dB d14_12) rfl ?_
                exact Steps.refl _)
              have cl5 : oS p e below S0' T68 (mkF m 14 #[sR a, sI 6, sR t, sI (Int32.ofNat (ws ++ [c0, c1, c2, c3, c4, c5]).length), sI (Int32.ofNat (c0 :: c1 :: c2 :: c3 :: c4 :: c5 :: cs).length), sI 6] [(.int (Int32.ofNat (c0 :: c1 :: c2 :: c3 :: c4 :: c5 :: cs).length)), (.int 6)]) := by
                have := cc69
                rw [succ32] at this
                rw [show (ws ++ [c0, c1, c2, c3, c4, c5]).length = (ws ++ [c0, c1, c2, c3, c4]).length + 1 by simp]
                exact this
              have e6 : cs = [] := by
                have := h6
                simp only [List.length_cons] at this
                exact List.eq_nil_of_length_eq_zero (by omega)
              subst e6
              have ce6 : oS p e below S0' T68 (mkF m 14 #[sR a, sI 6, sR t, sI (Int32.ofNat (ws ++ [c0, c1, c2, c3, c4, c5]).length), sI 6, sI 6] [(.int 6), (.int 6)]) := cl5
              have cc70 : oS p e below S0' T68 (mkF m 41 #[sR a, sI 6, sR t, sI (Int32.ofNat (ws ++ [c0, c1, c2, c3, c4, c5]).length), sI 6, sI 6] []) := Steps.trans ce6 (by
                refine XS.icmpYes X68.here hx rfl (pc0 := 14) rfl (dB d14_14) rfl (ii_ge_t (by decide)) (by decide) rfl ?_
                exact Steps.refl _)
              have cE := cc70
              rw [hS0'] at cE
              obtain ⟨fs, hr_, hrun, hended, hW, hsame⟩ := X68.leave (v := none) (fun _ => rfl)
              refine ⟨_, _, cE.trans (X68.returnOut hx Bd.returns (dB d14_41) hr_), hrun, hended, _, _, rfl, ?_, ⟨_, rfl⟩, hW, hsame.mono (by first | decide | omega) (by first | decide | omega)⟩
              show Q_own_uinf Z a t ka kt N2 ([c0, c1, c2, c3, c4, c5] : List Int32) ws f h0 n0 _ T68.heap _
              rw [e68]
              exact ⟨rfl, N68, KK6, At5⟩
theorem d15_0 : decode kM15 0 = .ok (.aload_n 0, 1) := by decide +kernel
theorem d15_1 : decode kM15 1 = .ok (.iload_n 1, 1) := by decide +kernel
theorem d15_2 : decode kM15 2 = .ok (.aload_n 2, 1) := by decide +kernel
theorem d15_3 : decode kM15 3 = .ok (.iload_n 3, 1) := by decide +kernel
theorem d15_4 : decode kM15 4 = .ok (.iload 4, 2) := by decide +kernel
theorem d15_6 : decode kM15 6 = .ok (.invokestatic 240, 3) := by decide +kernel
theorem d15_9 : decode kM15 9 = .ok (.return_, 1) := by decide +kernel
def Q_own_sinf (Z : State) (a t : Addr) (ka kt : ClassId) (N2 : Int32) (cs ws : List Int32) (f : Value) (h0 : Heap) (n0 : Nat) (v : Option Value) (h : Heap) (L : List Loc) : Prop := v = none ∧ Fr n0 L ∧ Keep h0 h [t] ∧ Arv Z h t kt .byte (32 : Int32) (StrChars.Road.wideBytes (ws ++ cs)) (.int (0 : Int32))
set_option maxRecDepth 65536 in
set_option maxHeartbeats 40000000 in
theorem own_sinf (l : Launch) (Z : State) (a0 : Array Value) (hw : ∀ d ∈ tables_1, d.before a0 Z = true) (a t : Addr) (ka kt : ClassId) (N2 : Int32) (cs ws : List Int32) (f : Value) (h0 : Heap) (n0 : Nat) (Z0 : n0 ≤ h0.size) (X00 : Old Z n0 h0) (O3 : StrChars.Road.U3Z Z Z.heap) (O4 : Sta Z Z.heap "jdk/internal/util/Preconditions" "SIOOBE_FORMATTER" "Ljava/util/function/BiFunction;" f) (hf : f.isRef = true) (Aa : Arv Z h0 a ka .byte N2 (own_by cs) (.int (0 : Int32))) (hN : ∀ i, i < cs.length → Int32.ofNat i < N2) (A : Arv Z h0 t kt .byte (32 : Int32) (StrChars.Road.wideBytes ws) (.int (0 : Int32))) (hp : ∀ c ∈ cs, ¬ c < 0 ∧ ¬ (255 : Int32) < c) (hl : ws.length + cs.length ≤ 16) (h6 : cs.length ≤ 6) (ne : a ≠ t) (gt : n0 ≤ t) :
    MetFree l yM15 (head1 [Jvm.Cond.code yM15 jdk_43_method_50_code 5 none] rM9) (fun a_ U_ => a_ = #[(.ref a), (.int 0), (.ref t), (.int (Int32.ofNat ws.length)), (.int (Int32.ofNat cs.length))] ∧ Z.Warmed39 U_.vm ∧ U_.heap = h0) (fun _ _ _ _ _ => True) (fun _ U_ o_ V_ => ∃ v_ L_, o_ = .returned v_ ∧ Q_own_sinf Z a t ka kt N2 cs ws f h0 n0 v_ V_.heap L_ ∧ FrameEnd U_ o_ V_ L_ rM9.cells rM9.slots) := by
  refine MetFree.of_bodySF (plainFor_of_name own_pn5) hisR ?_
  intro p e s m args below meth c s₁ Bd hml0 hP hK
  obtain ⟨rfl, hZ, hh⟩ := hP
  have hx := Bd.exec
  have hby := Bd.bytes
  have dB := @own_d c _ hby
  have hml : c.maxLocals = 5 := hml0
  have hown : s.vm.findClass "java/lang/StringLatin1" = some m.cls := findClass_of_methodNamed Bd.named
  have hnm := (name_of_methodNamed Bd.named Bd.method).1
  have X0 : Stand p l e rM9 s m #[(.ref a), (.int 0), (.ref t), (.int (Int32.ofNat ws.length)), (.int (Int32.ofNat cs.length))] below meth c s₁ [] 0 0 := Stand.of_body Bd
  have e0 : s₁.heap = h0 := by rw [← hh, Bd.state]; rfl
  have N0 := Fr.nil n0
  have KK0 := Keep.refl h0 [t]
  have cc0 : Steps p.tables e below (s₁.setTop (entryFrame m #[(.ref a), (.int 0), (.ref t), (.int (Int32.ofNat ws.length)), (.int (Int32.ofNat cs.length))] 5)) (s₁.setTop (mkF m 0 #[sR a, sI 0, sR t, sI (Int32.ofNat ws.length), sI (Int32.ofNat cs.length)] [])) := XT.entry rfl
  obtain ⟨S0', hS0'⟩ : ∃ S, S = (s₁.setTop (entryFrame m #[(.ref a), (.int 0), (.ref t), (.int (Int32.ofNat ws.length)), (.int (Int32.ofNat cs.length))] 5)) := ⟨_, rfl⟩
  rw [← hS0'] at cc0
  have w_22 := own_w hw 22 rfl
  have w_224 := own_w hw 224 rfl
  have cc21 : oS p e below S0' s₁ (mkF m 6 #[sR a, sI 0, sR t, sI (Int32.ofNat ws.length), sI (Int32.ofNat cs.length)] [(.int (Int32.ofNat cs.length)), (.int (Int32.ofNat ws.length)), (.ref t), (.int 0), (.ref a)]) := Steps.trans cc0 (by
    refine XS.aloadN X0.here hx rfl (dB d15_0) rfl rfl ?_
    refine XS.iloadN X0.here hx rfl (dB d15_1) rfl ?_
    refine XS.aloadN X0.here hx rfl (dB d15_2) rfl rfl ?_
    refine XS.iloadN X0.here hx rfl (dB d15_3) rfl ?_
    refine XS.iload X0.here hx rfl (dB d15_4) rfl ?_
    exact Steps.refl _)
  obtain ⟨_, _, ⟨T22, L22, k22, n22⟩, -, X22, ⟨Lc22, hQ22, l22, y22, z22⟩, st22⟩ := Jvm.LawKit.callS X0 hx (y := yM14) hown (mvT hZ (own_w hw 222 rfl)) (mvT hZ (own_w hw 223 rfl)) (mvT hZ w_22) (mvT hZ w_224) (by decide) (backOf (W := 0) (own_uinf l Z a0 hw a t ka kt N2 cs ws f h0 n0 Z0 X00 O3 O4 hf Aa hN A hp hl h6 ne gt) hZ w_224 w_22 (by decide) (by decide)) (g := (mkF m 6 #[sR a, sI 0, sR t, sI (Int32.ofNat ws.length), sI (Int32.ofNat cs.length)] [(.int (Int32.ofNat cs.length)), (.int (Int32.ofNat ws.length)), (.ref t), (.int 0), (.ref a)])) rfl (by rw [hml]; rfl) (argsL := [(.ref a), (.int 0), (.ref t), (.int (Int32.ofNat ws.length)), (.int (Int32.ofNat cs.length))]) (rest := []) (lenOf own_pd8 rfl) rfl (Nat.le_of_eq rfl) (dB d15_6) (fun _ _ => ⟨rfl, e0, Nat.le_of_ble_eq_true rfl, Nat.le_of_ble_eq_true rfl⟩)
  dsimp only [Pt.U, Pt.locs, Pt.cells, Pt.slots] at X22 l22 y22 z22 st22 hQ22
  subst l22 y22 z22
  obtain ⟨rfl, Nq22, Kq22, Aq22⟩ := hQ22
  have N22 := Fr.app N0 Nq22
  have KK1 : Keep h0 T22.heap [t] := KK0.trans Kq22 (allS (Or.inl (List.mem_of_getElem? (i := 0) rfl)) all0)
  have Zs1 : n0 ≤ T22.heap.size := Nat.le_trans Z0 Kq22.1
  have e22 : T22.heap = T22.heap := rfl
  have cc23 : oS p e below S0' T22 (mkF m 9 #[sR a, sI 0, sR t, sI (Int32.ofNat ws.length), sI (Int32.ofNat cs.length)] []) := (cc21.trans (st22 _ (Steps.refl _)))
  have cE := cc23
  rw [hS0'] at cE
  obtain ⟨fs, hr_, hrun, hended, hW, hsame⟩ := X22.leave (v := none) (fun _ => rfl)
  refine ⟨_, _, cE.trans (X22.returnOut hx Bd.returns (dB d15_9) hr_), hrun, hended, _, _, rfl, ?_, ⟨_, rfl⟩, hW, hsame.mono (by first | decide | omega) (by first | decide | omega)⟩
  show Q_own_sinf Z a t ka kt N2 cs ws f h0 n0 _ T22.heap _
  rw [e22]
  exact ⟨rfl, N22, KK1, Aq22⟩
theorem d16_0 : decode kM16 0 = .ok (.aload_n 0, 1) := by decide +kernel
theorem d16_1 : decode kM16 1 = .ok (.invokevirtual 83, 3) := by decide +kernel
theorem d16_4 : decode kM16 4 = .ok (.ifCond .ne 4, 3) := by decide +kernel
theorem d16_8 : decode kM16 8 = .ok (.aload_n 0, 1) := by decide +kernel
theorem d16_9 : decode kM16 9 = .ok (.getfield 15, 3) := by decide +kernel
theorem d16_12 : decode kM16 12 = .ok (.arraylength, 1) := by decide +kernel
theorem d16_13 : decode kM16 13 = .ok (.invokestatic 26, 3) := by decide +kernel
theorem d16_16 : decode kM16 16 = .ok (.astore_n 1, 1) := by decide +kernel
theorem d16_17 : decode kM16 17 = .ok (.aload_n 0, 1) := by decide +kernel
theorem d16_18 : decode kM16 18 = .ok (.getfield 15, 3) := by decide +kernel
theorem d16_21 : decode kM16 21 = .ok (.iconst 0, 1) := by decide +kernel
theorem d16_22 : decode kM16 22 = .ok (.aload_n 1, 1) := by decide +kernel
theorem d16_23 : decode kM16 23 = .ok (.iconst 0, 1) := by decide +kernel
theorem d16_24 : decode kM16 24 = .ok (.aload_n 0, 1) := by decide +kernel
theorem d16_25 : decode kM16 25 = .ok (.getfield 79, 3) := by decide +kernel
theorem d16_28 : decode kM16 28 = .ok (.invokestatic 125, 3) := by decide +kernel
theorem d16_31 : decode kM16 31 = .ok (.aload_n 0, 1) := by decide +kernel
theorem d16_32 : decode kM16 32 = .ok (.aload_n 1, 1) := by decide +kernel
theorem d16_33 : decode kM16 33 = .ok (.putfield 15, 3) := by decide +kernel
theorem d16_36 : decode kM16 36 = .ok (.aload_n 0, 1) := by decide +kernel
theorem d16_37 : decode kM16 37 = .ok (.iconst 1, 1) := by decide +kernel
theorem d16_38 : decode kM16 38 = .ok (.putfield 22, 3) := by decide +kernel
theorem d16_41 : decode kM16 41 = .ok (.return_, 1) := by decide +kernel
def Q_own_binf (Z : State) (b t : Addr) (kt : ClassId) (bs : List Int32) (z : Int32) (f : Value) (h0 : Heap) (n0 : Nat) (v : Option Value) (h : Heap) (L : List Loc) : Prop := ∃ (t' : Addr) (kt' : ClassId), v = none ∧ Fr n0 L ∧ Keep h0 h [b] ∧ h0.size ≤ t' ∧ Fld Z h b "java/lang/AbstractStringBuilder" "coder" "B" (.int (1 : Int32)) ∧ Fld Z h b "java/lang/AbstractStringBuilder" "count" "I" (.int (Int32.ofNat bs.length)) ∧ Fld Z h b "java/lang/AbstractStringBuilder" "value" "[B" (.ref t') ∧ Fld Z h b "java/lang/AbstractStringBuilder" "maybeLatin1" "Z" (.int (0 : Int32)) ∧ Arv Z h t' kt' .byte (32 : Int32) (StrChars.Road.wideBytes bs) (.int (0 : Int32))
set_option maxRecDepth 65536 in
set_option maxHeartbeats 40000000 in
theorem own_binf (l : Launch) (Z : State) (a0 : Array Value) (hw : ∀ d ∈ tables_1, d.before a0 Z = true) (b t : Addr) (kt : ClassId) (bs : List Int32) (z : Int32) (f : Value) (h0 : Heap) (n0 : Nat) (Z0 : n0 ≤ h0.size) (X00 : Old Z n0 h0) (O2 : Sta Z Z.heap "java/lang/String" "COMPACT_STRINGS" "Z" (.int z)) (P5 : ¬ z = 0) (O3 : StrChars.Road.U3Z Z Z.heap) (O4 : Sta Z Z.heap "jdk/internal/util/Preconditions" "SIOOBE_FORMATTER" "Ljava/util/function/BiFunction;" f) (hf : f.isRef = true) (E : Exa Z h0 b "java/lang/StringBuilder") (C : Fld Z h0 b "java/lang/AbstractStringBuilder" "coder" "B" (.int (0 : Int32))) (N : Fld Z h0 b "java/lang/AbstractStringBuilder" "count" "I" (.int (Int32.ofNat bs.length))) (V : Fld Z h0 b "java/lang/AbstractStringBuilder" "value" "[B" (.ref t)) (M : Fld Z h0 b "java/lang/AbstractStringBuilder" "maybeLatin1" "Z" (.int (0 : Int32))) (A : Arv Z h0 t kt .byte (16 : Int32) (own_by bs) (.int (0 : Int32))) (hp : ∀ c ∈ bs, ¬ c < 0 ∧ ¬ (255 : Int32) < c) (hl : bs.length ≤ 6) (gb : n0 ≤ b) :
    MetFree l yM16 (head1 [Jvm.Cond.code yM16 jdk_68_method_11_code 2 none] rM10) (fun a_ U_ => a_ = #[(.ref b)] ∧ Z.Warmed39 U_.vm ∧ U_.heap = h0) (fun _ _ _ _ _ => True) (fun _ U_ o_ V_ => ∃ v_ L_, o_ = .returned v_ ∧ Q_own_binf Z b t kt bs z f h0 n0 v_ V_.heap L_ ∧ FrameEnd U_ o_ V_ L_ rM10.cells rM10.slots) := by
  refine MetFree.of_bodySF (plainFor_of_name own_pn1) hisR ?_
  intro p e s m args below meth c s₁ Bd hml0 hP hK
  obtain ⟨rfl, hZ, hh⟩ := hP
  have hx := Bd.exec
  have hby := Bd.bytes
  have dB := @own_d c _ hby
  have hml : c.maxLocals = 2 := hml0
  have hown : s.vm.findClass "java/lang/AbstractStringBuilder" = some m.cls := findClass_of_methodNamed Bd.named
  have hnm := (name_of_methodNamed Bd.named Bd.method).1
  have X0 : Stand p l e rM10 s m #[(.ref b)] below meth c s₁ [] 0 0 := Stand.of_body Bd
  have e0 : s₁.heap = h0 := by rw [← hh, Bd.state]; rfl
  have N0 := Fr.nil n0
  have KK0 := Keep.refl h0 [b]
  have cc0 : Steps p.tables e below (s₁.setTop (entryFrame m #[(.ref b)] 2)) (s₁.setTop (mkF m 0 #[sR b, .unset] [])) := XT.entry rfl
  obtain ⟨S0', hS0'⟩ : ∃ S, S = (s₁.setTop (entryFrame m #[(.ref b)] 2)) := ⟨_, rfl⟩
  rw [← hS0'] at cc0
  have w_22 := own_w hw 22 rfl
  have w_60 := own_w hw 60 rfl
  have w_73 := own_w hw 73 rfl
  have w_74 := own_w hw 74 rfl
  have w_76 := own_w hw 76 rfl
  have w_98 := own_w hw 98 rfl
  have w_153 := own_w hw 153 rfl
  have w_183 := own_w hw 183 rfl
  have w_198 := own_w hw 198 rfl
  have w_221 := own_w hw 221 rfl
  have w_239 := own_w hw 239 rfl
  have ne_b_t : b ≠ t := own_ne_arv E w_60 A
  have cc21 : oS p e below S0' s₁ (mkF m 1 #[sR b, .unset] [(.ref b)]) := Steps.trans cc0 (by
    refine XS.aloadN X0.here hx rfl (dB d16_0) rfl rfl ?_
    exact Steps.refl _)
  obtain ⟨cq22, kq22, qa22, qb22, qc22⟩ := isOf hZ e0 E
  obtain ⟨_, _, ⟨T22, L22, k22, n22⟩, -, X22, ⟨Lc22, hQ22, l22, y22, z22⟩, st22⟩ := X0.virtualBack hx (y := yM3) (z := yM3) hown (mvT hZ (own_w hw 217 rfl)) (mvT hZ (own_w hw 151 rfl)) (notFace_of_selects (args := #[]) (mvT hZ w_153)) (mvT hZ w_153) (mvT hZ (own_w hw 152 rfl)) (by decide) (backOf (W := 0) (own_sil0 l Z a0 hw b z h0 n0 Z0 X00 O2 P5 C) hZ (own_w hw 154 rfl) (own_w hw 69 rfl) (by decide) (by decide)) qa22 qc22 (g := (mkF m 1 #[sR b, .unset] [(.ref b)])) rfl (by rw [hml]; rfl) (Steps.refl _) (argsL := []) (rest := []) (lenOf own_pd9 rfl) rfl (Nat.le_of_eq rfl) (dB d16_1) (fun _ _ => ⟨rfl, e0, Nat.le_of_ble_eq_true rfl, Nat.le_of_ble_eq_true rfl⟩)
  dsimp only [Pt.U, Pt.locs, Pt.cells, Pt.slots] at X22 l22 y22 z22 st22 hQ22
  subst l22 y22 z22
  obtain ⟨rfl, Nq22, eq22⟩ := hQ22
  have N22 := Fr.app N0 Nq22
  have e22 : T22.heap = h0 := eq22
  have cc23 : oS p e below S0' T22 (mkF m 9 #[sR b, .unset] [(.ref b)]) := Steps.trans (Steps.trans cc21 st22) (by
    refine XS.ifYes X22.here hx rfl (pc0 := 4) rfl (dB d16_4) rfl (i0_ne_t (by decide)) (by decide) rfl ?_
    refine XS.aloadN X22.here hx rfl (dB d16_8) rfl rfl ?_
    exact Steps.refl _)
  obtain ⟨T24, X24, e24, st24⟩ := getF X22 hx hZ hown (host := "") (Or.inl w_73) Via.refl e22 V (g := (mkF m 9 #[sR b, .unset] [(.ref b)])) rfl rfl (dB d16_9)
  have cc25 : oS p e below S0' T24 (mkF m 12 #[sR b, .unset] [(.ref t)]) := (cc23.trans (st24 _ (Steps.refl _)))
  obtain ⟨clu26, Aru26, -, Su26, Ngu26, -, -⟩ := id A
  have cl_u26 := X24.arraylength hx (by rw [e24]; exact Aru26.1) (State.isArrayOf_alike (hZ).alike Aru26.2.1) (g := (mkF m 12 #[sR b, .unset] [(.ref t)])) rfl rfl (dB d16_12) _ (Steps.refl _)
  rw [len_of Su26 Ngu26] at cl_u26
  have cc27 : oS p e below S0' T24 (mkF m 13 #[sR b, .unset] [(.int (16 : Int32))]) := (Steps.trans cc25 cl_u26)
  obtain ⟨_, _, ⟨T28, L28, k28, n28⟩, -, X28, ⟨Lc28, hQ28, l28, y28, z28⟩, st28⟩ := Jvm.LawKit.callS X24 hx (y := yM8) hown (mvT hZ (own_w hw 218 rfl)) (mvT hZ (own_w hw 197 rfl)) (mvT hZ w_22) (mvT hZ w_198) (by decide) (backOf (W := 0) (own_nbf l Z a0 hw  h0 n0 Z0 ) hZ w_198 w_22 (by decide) (by decide)) (g := (mkF m 13 #[sR b, .unset] [(.int (16 : Int32))])) rfl (by rw [hml]; rfl) (argsL := [(.int (16 : Int32))]) (rest := []) (lenOf own_pd10 rfl) rfl (Nat.le_of_eq rfl) (dB d16_13) (fun _ _ => ⟨rfl, e24, Nat.le_of_ble_eq_true rfl, Nat.le_of_ble_eq_true rfl⟩)
  dsimp only [Pt.U, Pt.locs, Pt.cells, Pt.slots] at X28 l28 y28 z28 st28 hQ28
  subst l28 y28 z28
  obtain ⟨t', kt', rfl, Nq28, Kq28, sq28, Aq28⟩ := hQ28
  have N28 := Fr.app N22 Nq28
  have b_t' : h0.size ≤ t' := sq28
  have gn_t' : n0 ≤ t' := Nat.le_trans Z0 b_t'
  have s0_t' : h0.size ≤ t' := Nat.le_trans KK0.1 b_t'
  have ne_b_t' : b ≠ t' := Nat.ne_of_lt (Nat.lt_of_lt_of_le E.lt b_t')
  have ne_t_t' : t ≠ t' := Nat.ne_of_lt (Nat.lt_of_lt_of_le A.lt b_t')
  have KK1 : Keep h0 T28.heap [b] := KK0.trans Kq28 all0
  have Zs1 : n0 ≤ T28.heap.size := Nat.le_trans Z0 Kq28.1
  have e28 : T28.heap = T28.heap := rfl
  have cc30 : oS p e below S0' T28 (mkF m 18 #[sR b, sR t'] [(.ref b)]) := Steps.trans (cc27.trans (st28 _ (Steps.refl _))) (by
    refine XS.astoreN X28.here hx rfl (dB d16_16) rfl rfl rfl ?_
    refine XS.aloadN X28.here hx rfl (dB d16_17) rfl rfl ?_
    exact Steps.refl _)
  have fa29 : Fld Z T28.heap b "java/lang/AbstractStringBuilder" "value" "[B" (.ref t) := (V.keep Kq28 nin0)
  obtain ⟨T31, X31, e31, st31⟩ := getF X28 hx hZ hown (host := "") (Or.inl w_73) Via.refl e28 fa29 (g := (mkF m 18 #[sR b, sR t'] [(.ref b)])) rfl rfl (dB d16_18)
  have cc33 : oS p e below S0' T31 (mkF m 25 #[sR b, sR t'] [(.ref b), (.int 0), (.ref t'), (.int 0), (.ref t)]) := Steps.trans (cc30.trans (st31 _ (Steps.refl _))) (by
    refine iconstV X31.here hx rfl 0 (dB d16_21) (by decide) ?_
    refine XS.aloadN X31.here hx rfl (dB d16_22) rfl rfl ?_
    refine iconstV X31.here hx rfl 0 (dB d16_23) (by decide) ?_
    refine XS.aloadN X31.here hx rfl (dB d16_24) rfl rfl ?_
    exact Steps.refl _)
  have fa32 : Fld Z T28.heap b "java/lang/AbstractStringBuilder" "count" "I" (.int (Int32.ofNat bs.length)) := (N.keep Kq28 nin0)
  obtain ⟨T34, X34, e34, st34⟩ := getF X31 hx hZ hown (host := "") (Or.inl (own_w hw 97 rfl)) Via.refl e31 fa32 (g := (mkF m 25 #[sR b, sR t'] [(.ref b), (.int 0), (.ref t'), (.int 0), (.ref t)])) rfl rfl (dB d16_25)
  have cc36 : oS p e below S0' T34 (mkF m 28 #[sR b, sR t'] [(.int (Int32.ofNat bs.length)), (.int 0), (.ref t'), (.int 0), (.ref t)]) := (cc33.trans (st34 _ (Steps.refl _)))
  have fa35 : Old Z n0 T28.heap := (X00.keep Kq28 all0)
  have fa37 : Arv Z T28.heap t kt .byte (16 : Int32) (own_by bs) (.int (0 : Int32)) := (A.keep Kq28 nin0)
  obtain ⟨_, _, ⟨T38, L38, k38, n38⟩, -, X38, ⟨Lc38, hQ38, l38, y38, z38⟩, st38⟩ := Jvm.LawKit.callS X34 hx (y := yM15) hown (mvT hZ (own_w hw 219 rfl)) (mvT hZ (own_w hw 220 rfl)) (mvT hZ w_183) (mvT hZ w_221) (by decide) (backOf (W := 0) (own_sinf l Z a0 hw t t' kt kt' 16 bs [] f T28.heap n0 Zs1 fa35 O3 O4 hf fa37 (fun i hi => lt32 (b := 16) (by decide) (by omega)) Aq28 hp (by simp; omega) hl ne_t_t' gn_t') hZ w_221 w_183 (by decide) (by decide)) (g := (mkF m 28 #[sR b, sR t'] [(.int (Int32.ofNat bs.length)), (.int 0), (.ref t'), (.int 0), (.ref t)])) rfl (by rw [hml]; rfl) (argsL := [(.ref t), (.int 0), (.ref t'), (.int 0), (.int (Int32.ofNat bs.length))]) (rest := []) (lenOf own_pd8 rfl) rfl (Nat.le_of_eq rfl) (dB d16_28) (fun _ _ => ⟨rfl, e34, Nat.le_of_ble_eq_true rfl, Nat.le_of_ble_eq_true rfl⟩)
  dsimp only [Pt.U, Pt.locs, Pt.cells, Pt.slots] at X38 l38 y38 z38 st38 hQ38
  subst l38 y38 z38
  obtain ⟨rfl, Nq38, Kq38, Aq38⟩ := hQ38
  have N38 := Fr.app N28 Nq38
  have KK2 : Keep h0 T38.heap [b] := KK1.trans Kq38 (allS (Or.inr s0_t') all0)
  have Zs2 : n0 ≤ T38.heap.size := Nat.le_trans Zs1 Kq38.1
  have e38 : T38.heap = T38.heap := rfl
  have cc40 : oS p e below S0' T38 (mkF m 33 #[sR b, sR t'] [(.ref t'), (.ref b)]) := Steps.trans (cc36.trans (st38 _ (Steps.refl _))) (by
    refine XS.aloadN X38.here hx rfl (dB d16_31) rfl rfl ?_
    refine XS.aloadN X38.here hx rfl (dB d16_32) rfl rfl ?_
    exact Steps.refl _)
  have fa39 : Fld Z T38.heap b "java/lang/AbstractStringBuilder" "value" "[B" (.ref t) := (fa29.keep Kq38 (ninS ne_b_t' nin0))
  have fa41 : Exa Z T38.heap b "java/lang/StringBuilder" := ((E.keep Kq28).keep Kq38)
  obtain ⟨T42, h42, X42, e42, W42, st42⟩ := putF X38 hx hZ hown (host := "") (Or.inl w_73) Via.refl e38 fa39 fa41 (Or.inl w_74) w_60 (ty := (.array .byte)) (by decide) rfl rfl (g := (mkF m 33 #[sR b, sR t'] [(.ref t'), (.ref b)])) rfl rfl (dB d16_33)
  have K42 := Keep.of_wr W42
  have N42 := Fr.snoc X42 N38 gb
  have KK3 : Keep h0 h42 [b] := KK2.trans K42 (allS (Or.inl (List.mem_of_getElem? (i := 0) rfl)) all0)
  have Zs3 : n0 ≤ h42.size := Nat.le_trans Zs2 K42.1
  have cc44 : oS p e below S0' T42 (mkF m 38 #[sR b, sR t'] [(.int 1), (.ref b)]) := Steps.trans (cc40.trans (st42 _ (Steps.refl _))) (by
    refine XS.aloadN X42.here hx rfl (dB d16_36) rfl rfl ?_
    refine iconstV X42.here hx rfl 1 (dB d16_37) (by decide) ?_
    exact Steps.refl _)
  have fa43 : Fld Z h42 b "java/lang/AbstractStringBuilder" "coder" "B" (.int (0 : Int32)) := (((C.keep Kq28 nin0).keep Kq38 (ninS ne_b_t' nin0)).other W42 (Or.inr (slot_ne (Or.inl w_76) (Or.inl w_74) (by decide) (t := .byte) (t' := (.array .byte)) (by decide) (by decide))))
  have fa45 : Exa Z h42 b "java/lang/StringBuilder" := (fa41.keep K42)
  obtain ⟨T46, h46, X46, e46, W46, st46⟩ := putFN X42 hx hZ hown (own_w hw 75 rfl) Via.refl e42 fa43 fa45 (Or.inl w_76) w_60 (ty := .byte) (v' := (.int (1 : Int32))) (by decide) rfl rfl (g := (mkF m 38 #[sR b, sR t'] [(.int 1), (.ref b)])) rfl rfl (dB d16_38)
  have K46 := Keep.of_wr W46
  have N46 := Fr.snoc X46 N42 gb
  have KK4 : Keep h0 h46 [b] := KK3.trans K46 (allS (Or.inl (List.mem_of_getElem? (i := 0) rfl)) all0)
  have Zs4 : n0 ≤ h46.size := Nat.le_trans Zs3 K46.1
  have cc48 : oS p e below S0' T46 (mkF m 41 #[sR b, sR t'] []) := (cc44.trans (st46 _ (Steps.refl _)))
  have fa47 : Fld Z h46 b "java/lang/AbstractStringBuilder" "count" "I" (.int (Int32.ofNat bs.length)) := (((fa32.keep Kq38 (ninS ne_b_t' nin0)).other W42 (Or.inr (slot_ne (Or.inl w_98) (Or.inl w_74) (by decide) (t := .int) (t' := (.array .byte)) (by decide) (by decide)))).other W46 (Or.inr (slot_ne (Or.inl w_98) (Or.inl w_76) (by decide) (t := .int) (t' := .byte) (by decide) (by decide))))
  have fa49 : Fld Z h46 b "java/lang/AbstractStringBuilder" "value" "[B" (.ref t') := ((Fld.same W42 fa39).other W46 (Or.inr (slot_ne (Or.inl w_74) (Or.inl w_76) (by decide) (t := (.array .byte)) (t' := .byte) (by decide) (by decide))))
  have fa50 : Fld Z h46 b "java/lang/AbstractStringBuilder" "maybeLatin1" "Z" (.int (0 : Int32)) := ((((M.keep Kq28 nin0).keep Kq38 (ninS ne_b_t' nin0)).other W42 (Or.inr (slot_ne (Or.inl w_239) (Or.inl w_74) (by decide) (t := .boolean) (t' := (.array .byte)) (by decide) (by decide)))).other W46 (Or.inr (slot_ne (Or.inl w_239) (Or.inl w_76) (by decide) (t := .boolean) (t' := .byte) (by decide) (by decide))))
  have fa51 : Arv Z h46 t' kt' .byte (32 : Int32) (StrChars.Road.wideBytes bs) (.int (0 : Int32)) := ((Aq38.keep K42 (ninS (Ne.symm ne_b_t') nin0)).keep K46 (ninS (Ne.symm ne_b_t') nin0))
  have cE := cc48
  rw [hS0'] at cE
  obtain ⟨fs, hr_, hrun, hended, hW, hsame⟩ := X46.leave (v := none) (fun _ => rfl)
  refine ⟨_, _, cE.trans (X46.returnOut hx Bd.returns (dB d16_41) hr_), hrun, hended, _, _, rfl, ?_, ⟨_, rfl⟩, hW, hsame.mono (by first | decide | omega) (by first | decide | omega)⟩
  show Q_own_binf Z b t kt bs z f h0 n0 _ T46.heap _
  rw [e46]
  exact ⟨t', kt', rfl, N46, KK4, s0_t', (Fld.same W46 fa43), fa47, fa49, fa50, fa51⟩
theorem d16_7 : decode kM16 7 = .ok (.return_, 1) := by decide +kernel
def Q_own_binf1 (Z : State) (b : Addr) (z : Int32) (h0 : Heap) (n0 : Nat) (v : Option Value) (h : Heap) (L : List Loc) : Prop := v = none ∧ Fr n0 L ∧ h = h0
set_option maxRecDepth 65536 in
set_option maxHeartbeats 40000000 in
theorem own_binf1 (l : Launch) (Z : State) (a0 : Array Value) (hw : ∀ d ∈ tables_1, d.before a0 Z = true) (b : Addr) (z : Int32) (h0 : Heap) (n0 : Nat) (Z0 : n0 ≤ h0.size) (X00 : Old Z n0 h0) (O2 : Sta Z Z.heap "java/lang/String" "COMPACT_STRINGS" "Z" (.int z)) (P5 : ¬ z = 0) (E : Exa Z h0 b "java/lang/StringBuilder") (C : Fld Z h0 b "java/lang/AbstractStringBuilder" "coder" "B" (.int (1 : Int32))) :
    MetFree l yM16 (head1 [Jvm.Cond.code yM16 jdk_68_method_11_code 2 none] rM11) (fun a_ U_ => a_ = #[(.ref b)] ∧ Z.Warmed39 U_.vm ∧ U_.heap = h0) (fun _ _ _ _ _ => True) (fun _ U_ o_ V_ => ∃ v_ L_, o_ = .returned v_ ∧ Q_own_binf1 Z b z h0 n0 v_ V_.heap L_ ∧ FrameEnd U_ o_ V_ L_ rM11.cells rM11.slots) := by
  refine MetFree.of_bodySF (plainFor_of_name own_pn1) hisR ?_
  intro p e s m args below meth c s₁ Bd hml0 hP hK
  obtain ⟨rfl, hZ, hh⟩ := hP
  have hx := Bd.exec
  have hby := Bd.bytes
  have dB := @own_d c _ hby
  have hml : c.maxLocals = 2 := hml0
  have hown : s.vm.findClass "java/lang/AbstractStringBuilder" = some m.cls := findClass_of_methodNamed Bd.named
  have hnm := (name_of_methodNamed Bd.named Bd.method).1
  have X0 : Stand p l e rM11 s m #[(.ref b)] below meth c s₁ [] 0 0 := Stand.of_body Bd
  have e0 : s₁.heap = h0 := by rw [← hh, Bd.state]; rfl
  have N0 := Fr.nil n0
  have KK0 := Keep.refl h0 ([] : List Addr)
  have cc0 : Steps p.tables e below (s₁.setTop (entryFrame m #[(.ref b)] 2)) (s₁.setTop (mkF m 0 #[sR b, .unset] [])) := XT.entry rfl
  obtain ⟨S0', hS0'⟩ : ∃ S, S = (s₁.setTop (entryFrame m #[(.ref b)] 2)) := ⟨_, rfl⟩
  rw [← hS0'] at cc0
  have w_153 := own_w hw 153 rfl
  have cc21 : oS p e below S0' s₁ (mkF m 1 #[sR b, .unset] [(.ref b)]) := Steps.trans cc0 (by
    refine XS.aloadN X0.here hx rfl (dB d16_0) rfl rfl ?_
    exact Steps.refl _)
  obtain ⟨cq22, kq22, qa22, qb22, qc22⟩ := isOf hZ e0 E
  obtain ⟨_, _, ⟨T22, L22, k22, n22⟩, -, X22, ⟨Lc22, hQ22, l22, y22, z22⟩, st22⟩ := X0.virtualBack hx (y := yM3) (z := yM3) hown (mvT hZ (own_w hw 217 rfl)) (mvT hZ (own_w hw 151 rfl)) (notFace_of_selects (args := #[]) (mvT hZ w_153)) (mvT hZ w_153) (mvT hZ (own_w hw 152 rfl)) (by decide) (backOf (W := 0) (own_sil1 l Z a0 hw b z h0 n0 Z0 X00 O2 P5 C) hZ (own_w hw 154 rfl) (own_w hw 69 rfl) (by decide) (by decide)) qa22 qc22 (g := (mkF m 1 #[sR b, .unset] [(.ref b)])) rfl (by rw [hml]; rfl) (Steps.refl _) (argsL := []) (rest := []) (lenOf own_pd9 rfl) rfl (Nat.le_of_eq rfl) (dB d16_1) (fun _ _ => ⟨rfl, e0, Nat.le_of_ble_eq_true rfl, Nat.le_of_ble_eq_true rfl⟩)
  dsimp only [Pt.U, Pt.locs, Pt.cells, Pt.slots] at X22 l22 y22 z22 st22 hQ22
  subst l22 y22 z22
  obtain ⟨rfl, Nq22, eq22⟩ := hQ22
  have N22 := Fr.app N0 Nq22
  have e22 : T22.heap = h0 := eq22
  have cc23 : oS p e below S0' T22 (mkF m 7 #[sR b, .unset] []) := Steps.trans (Steps.trans cc21 st22) (by
    refine XS.ifNo X22.here hx rfl (dB d16_4) rfl (i0_ne_f rfl) ?_
    exact Steps.refl _)
  have cE := cc23
  rw [hS0'] at cE
  obtain ⟨fs, hr_, hrun, hended, hW, hsame⟩ := X22.leave (v := none) (fun _ => rfl)
  refine ⟨_, _, cE.trans (X22.returnOut hx Bd.returns (dB d16_7) hr_), hrun, hended, _, _, rfl, ?_, ⟨_, rfl⟩, hW, hsame.mono (by first | decide | omega) (by first | decide | omega)⟩
  show Q_own_binf1 Z b z h0 n0 _ T22.heap _
  rw [e22]
  exact ⟨rfl, N22, rfl⟩
theorem d17_0 : decode kM17 0 = .ok (.getstatic 18, 3) := by decide +kernel
theorem d17_3 : decode kM17 3 = .ok (.ifCond .eq 18, 3) := by decide +kernel
theorem d17_6 : decode kM17 6 = .ok (.aload_n 0, 1) := by decide +kernel
theorem d17_7 : decode kM17 7 = .ok (.getfield 22, 3) := by decide +kernel
theorem d17_10 : decode kM17 10 = .ok (.aload_n 1, 1) := by decide +kernel
theorem d17_11 : decode kM17 11 = .ok (.invokevirtual 40, 3) := by decide +kernel
theorem d17_14 : decode kM17 14 = .ok (.if_icmp .eq 7, 3) := by decide +kernel
theorem d17_21 : decode kM17 21 = .ok (.return_, 1) := by decide +kernel
def Q_own_ifn00 (Z : State) (b s1 : Addr) (z : Int32) (h0 : Heap) (n0 : Nat) (v : Option Value) (h : Heap) (L : List Loc) : Prop := v = none ∧ Fr n0 L ∧ h = h0
set_option maxRecDepth 65536 in
set_option maxHeartbeats 40000000 in
theorem own_ifn00 (l : Launch) (Z : State) (a0 : Array Value) (hw : ∀ d ∈ tables_1, d.before a0 Z = true) (b s1 : Addr) (z : Int32) (h0 : Heap) (n0 : Nat) (Z0 : n0 ≤ h0.size) (X00 : Old Z n0 h0) (O2 : Sta Z Z.heap "java/lang/String" "COMPACT_STRINGS" "Z" (.int z)) (P5 : ¬ z = 0) (E : Exa Z h0 b "java/lang/StringBuilder") (C : Fld Z h0 b "java/lang/AbstractStringBuilder" "coder" "B" (.int (0 : Int32))) (Es : Exa Z h0 s1 "java/lang/String") (Cs : Fld Z h0 s1 "java/lang/String" "coder" "B" (.int (0 : Int32))) :
    MetFree l yM17 (head1 [Jvm.Cond.code yM17 jdk_68_method_71_code 2 none] rM12) (fun a_ U_ => a_ = #[(.ref b), (.ref s1)] ∧ Z.Warmed39 U_.vm ∧ U_.heap = h0) (fun _ _ _ _ _ => True) (fun _ U_ o_ V_ => ∃ v_ L_, o_ = .returned v_ ∧ Q_own_ifn00 Z b s1 z h0 n0 v_ V_.heap L_ ∧ FrameEnd U_ o_ V_ L_ rM12.cells rM12.slots) := by
  refine MetFree.of_bodySF (plainFor_of_name own_pn1) hisR ?_
  intro p e s m args below meth c s₁ Bd hml0 hP hK
  obtain ⟨rfl, hZ, hh⟩ := hP
  have hx := Bd.exec
  have hby := Bd.bytes
  have dB := @own_d c _ hby
  have hml : c.maxLocals = 2 := hml0
  have hown : s.vm.findClass "java/lang/AbstractStringBuilder" = some m.cls := findClass_of_methodNamed Bd.named
  have hnm := (name_of_methodNamed Bd.named Bd.method).1
  have X0 : Stand p l e rM12 s m #[(.ref b), (.ref s1)] below meth c s₁ [] 0 0 := Stand.of_body Bd
  have e0 : s₁.heap = h0 := by rw [← hh, Bd.state]; rfl
  have N0 := Fr.nil n0
  have KK0 := Keep.refl h0 ([] : List Addr)
  have cc0 : Steps p.tables e below (s₁.setTop (entryFrame m #[(.ref b), (.ref s1)] 2)) (s₁.setTop (mkF m 0 #[sR b, sR s1] [])) := XT.entry rfl
  obtain ⟨S0', hS0'⟩ : ∃ S, S = (s₁.setTop (entryFrame m #[(.ref b), (.ref s1)] 2)) := ⟨_, rfl⟩
  rw [← hS0'] at cc0
  have w_95 := own_w hw 95 rfl
  obtain ⟨T21, X21, e21, st21⟩ := getS2 X0 hx hZ hown (host := "") (Or.inl (own_w hw 72 rfl)) Via.refl e0 (O2.ext X00.2) (g := (mkF m 0 #[sR b, sR s1] [])) rfl (dB d17_0)
  have cc22 : oS p e below S0' T21 (mkF m 7 #[sR b, sR s1] [(.ref b)]) := Steps.trans (cc0.trans (st21 _ (Steps.refl _))) (by
    refine XS.ifNo X21.here hx rfl (dB d17_3) rfl (i0_eq_f P5) ?_
    refine XS.aloadN X21.here hx rfl (dB d17_6) rfl rfl ?_
    exact Steps.refl _)
  obtain ⟨T23, X23, e23, st23⟩ := getF X21 hx hZ hown (host := "") (Or.inl (own_w hw 75 rfl)) Via.refl e21 C (g := (mkF m 7 #[sR b, sR s1] [(.ref b)])) rfl rfl (dB d17_7)
  have cc24 : oS p e below S0' T23 (mkF m 11 #[sR b, sR s1] [(.ref s1), (.int (0 : Int32))]) := Steps.trans (cc22.trans (st23 _ (Steps.refl _))) (by
    refine XS.aloadN X23.here hx rfl (dB d17_10) rfl rfl ?_
    exact Steps.refl _)
  obtain ⟨cq25, kq25, qa25, qb25, qc25⟩ := isOf hZ e23 Es
  obtain ⟨_, _, ⟨T25, L25, k25, n25⟩, -, X25, ⟨Lc25, hQ25, l25, y25, z25⟩, st25⟩ := X23.virtualBack hx (y := yM2) (z := yM2) hown (mvT hZ (own_w hw 114 rfl)) (mvT hZ (own_w hw 93 rfl)) (notFace_of_selects (args := #[]) (mvT hZ w_95)) (mvT hZ w_95) (mvT hZ (own_w hw 94 rfl)) (by decide) (backOf (W := 1) (own_cod0 l Z a0 hw s1 z h0 n0 Z0 X00 O2 P5 Cs) hZ (own_w hw 96 rfl) (own_w hw 7 rfl) (by decide) (by decide)) qa25 qc25 (g := (mkF m 11 #[sR b, sR s1] [(.ref s1), (.int (0 : Int32))])) rfl (by rw [hml]; rfl) (Steps.refl _) (argsL := []) (rest := [(.int (0 : Int32))]) (lenOf own_pd11 rfl) rfl (Nat.le_of_eq rfl) (dB d17_11) (fun _ _ => ⟨rfl, e23, Nat.le_of_ble_eq_true rfl, Nat.le_of_ble_eq_true rfl⟩)
  dsimp only [Pt.U, Pt.locs, Pt.cells, Pt.slots] at X25 l25 y25 z25 st25 hQ25
  subst l25 y25 z25
  obtain ⟨rfl, Nq25, eq25⟩ := hQ25
  have N25 := Fr.app N0 Nq25
  have e25 : T25.heap = h0 := eq25
  have cc26 : oS p e below S0' T25 (mkF m 21 #[sR b, sR s1] []) := Steps.trans (Steps.trans cc24 st25) (by
    refine XS.icmpYes X25.here hx rfl (pc0 := 14) rfl (dB d17_14) rfl (ii_eq_t rfl) (by decide) rfl ?_
    exact Steps.refl _)
  have cE := cc26
  rw [hS0'] at cE
  obtain ⟨fs, hr_, hrun, hended, hW, hsame⟩ := X25.leave (v := none) (fun _ => rfl)
  refine ⟨_, _, cE.trans (X25.returnOut hx Bd.returns (dB d17_21) hr_), hrun, hended, _, _, rfl, ?_, ⟨_, rfl⟩, hW, hsame.mono (by first | decide | omega) (by first | decide | omega)⟩
  show Q_own_ifn00 Z b s1 z h0 n0 _ T25.heap _
  rw [e25]
  exact ⟨rfl, N25, rfl⟩
theorem d17_17 : decode kM17 17 = .ok (.aload_n 0, 1) := by decide +kernel
theorem d17_18 : decode kM17 18 = .ok (.invokevirtual 195, 3) := by decide +kernel
def Q_own_ifn10 (Z : State) (b s1 : Addr) (z : Int32) (h0 : Heap) (n0 : Nat) (v : Option Value) (h : Heap) (L : List Loc) : Prop := v = none ∧ Fr n0 L ∧ h = h0
set_option maxRecDepth 65536 in
set_option maxHeartbeats 40000000 in
theorem own_ifn10 (l : Launch) (Z : State) (a0 : Array Value) (hw : ∀ d ∈ tables_1, d.before a0 Z = true) (b s1 : Addr) (z : Int32) (h0 : Heap) (n0 : Nat) (Z0 : n0 ≤ h0.size) (X00 : Old Z n0 h0) (O2 : Sta Z Z.heap "java/lang/String" "COMPACT_STRINGS" "Z" (.int z)) (P5 : ¬ z = 0) (E : Exa Z h0 b "java/lang/StringBuilder") (C : Fld Z h0 b "java/lang/AbstractStringBuilder" "coder" "B" (.int (1 : Int32))) (Es : Exa Z h0 s1 "java/lang/String") (Cs : Fld Z h0 s1 "java/lang/String" "coder" "B" (.int (0 : Int32))) :
    MetFree l yM17 (head1 [Jvm.Cond.code yM17 jdk_68_method_71_code 2 none] rM12) (fun a_ U_ => a_ = #[(.ref b), (.ref s1)] ∧ Z.Warmed39 U_.vm ∧ U_.heap = h0) (fun _ _ _ _ _ => True) (fun _ U_ o_ V_ => ∃ v_ L_, o_ = .returned v_ ∧ Q_own_ifn10 Z b s1 z h0 n0 v_ V_.heap L_ ∧ FrameEnd U_ o_ V_ L_ rM12.cells rM12.slots) := by
  refine MetFree.of_bodySF (plainFor_of_name own_pn1) hisR ?_
  intro p e s m args below meth c s₁ Bd hml0 hP hK
  obtain ⟨rfl, hZ, hh⟩ := hP
  have hx := Bd.exec
  have hby := Bd.bytes
  have dB := @own_d c _ hby
  have hml : c.maxLocals = 2 := hml0
  have hown : s.vm.findClass "java/lang/AbstractStringBuilder" = some m.cls := findClass_of_methodNamed Bd.named
  have hnm := (name_of_methodNamed Bd.named Bd.method).1
  have X0 : Stand p l e rM12 s m #[(.ref b), (.ref s1)] below meth c s₁ [] 0 0 := Stand.of_body Bd
  have e0 : s₁.heap = h0 := by rw [← hh, Bd.state]; rfl
  have N0 := Fr.nil n0
  have KK0 := Keep.refl h0 ([] : List Addr)
  have cc0 : Steps p.tables e below (s₁.setTop (entryFrame m #[(.ref b), (.ref s1)] 2)) (s₁.setTop (mkF m 0 #[sR b, sR s1] [])) := XT.entry rfl
  obtain ⟨S0', hS0'⟩ : ∃ S, S = (s₁.setTop (entryFrame m #[(.ref b), (.ref s1)] 2)) := ⟨_, rfl⟩
  rw [← hS0'] at cc0
  have w_95 := own_w hw 95 rfl
  have w_213 := own_w hw 213 rfl
  have w_214 := own_w hw 214 rfl
  have w_216 := own_w hw 216 rfl
  obtain ⟨T21, X21, e21, st21⟩ := getS2 X0 hx hZ hown (host := "") (Or.inl (own_w hw 72 rfl)) Via.refl e0 (O2.ext X00.2) (g := (mkF m 0 #[sR b, sR s1] [])) rfl (dB d17_0)
  have cc22 : oS p e below S0' T21 (mkF m 7 #[sR b, sR s1] [(.ref b)]) := Steps.trans (cc0.trans (st21 _ (Steps.refl _))) (by
    refine XS.ifNo X21.here hx rfl (dB d17_3) rfl (i0_eq_f P5) ?_
    refine XS.aloadN X21.here hx rfl (dB d17_6) rfl rfl ?_
    exact Steps.refl _)
  obtain ⟨T23, X23, e23, st23⟩ := getF X21 hx hZ hown (host := "") (Or.inl (own_w hw 75 rfl)) Via.refl e21 C (g := (mkF m 7 #[sR b, sR s1] [(.ref b)])) rfl rfl (dB d17_7)
  have cc24 : oS p e below S0' T23 (mkF m 11 #[sR b, sR s1] [(.ref s1), (.int (1 : Int32))]) := Steps.trans (cc22.trans (st23 _ (Steps.refl _))) (by
    refine XS.aloadN X23.here hx rfl (dB d17_10) rfl rfl ?_
    exact Steps.refl _)
  obtain ⟨cq25, kq25, qa25, qb25, qc25⟩ := isOf hZ e23 Es
  obtain ⟨_, _, ⟨T25, L25, k25, n25⟩, -, X25, ⟨Lc25, hQ25, l25, y25, z25⟩, st25⟩ := X23.virtualBack hx (y := yM2) (z := yM2) hown (mvT hZ (own_w hw 114 rfl)) (mvT hZ (own_w hw 93 rfl)) (notFace_of_selects (args := #[]) (mvT hZ w_95)) (mvT hZ w_95) (mvT hZ (own_w hw 94 rfl)) (by decide) (backOf (W := 1) (own_cod0 l Z a0 hw s1 z h0 n0 Z0 X00 O2 P5 Cs) hZ (own_w hw 96 rfl) (own_w hw 7 rfl) (by decide) (by decide)) qa25 qc25 (g := (mkF m 11 #[sR b, sR s1] [(.ref s1), (.int (1 : Int32))])) rfl (by rw [hml]; rfl) (Steps.refl _) (argsL := []) (rest := [(.int (1 : Int32))]) (lenOf own_pd11 rfl) rfl (Nat.le_of_eq rfl) (dB d17_11) (fun _ _ => ⟨rfl, e23, Nat.le_of_ble_eq_true rfl, Nat.le_of_ble_eq_true rfl⟩)
  dsimp only [Pt.U, Pt.locs, Pt.cells, Pt.slots] at X25 l25 y25 z25 st25 hQ25
  subst l25 y25 z25
  obtain ⟨rfl, Nq25, eq25⟩ := hQ25
  have N25 := Fr.app N0 Nq25
  have e25 : T25.heap = h0 := eq25
  have cc26 : oS p e below S0' T25 (mkF m 18 #[sR b, sR s1] [(.ref b)]) := Steps.trans (Steps.trans cc24 st25) (by
    refine XS.icmpNo X25.here hx rfl (dB d17_14) rfl (ii_eq_f (by decide)) ?_
    refine XS.aloadN X25.here hx rfl (dB d17_17) rfl rfl ?_
    exact Steps.refl _)
  obtain ⟨cq27, q27a, q27b⟩ := E.cell
  obtain ⟨_, _, ⟨T27, L27, k27, n27⟩, -, X27, ⟨Lc27, hQ27, l27, y27, z27⟩, st27⟩ := X25.privateBack hx (y := yM16) hown (mvT hZ (own_w hw 212 rfl)) (mvT hZ w_213) (own_selP hZ (own_w hw 215 rfl) w_214 w_213 (by decide)) (Cond.privateMethod_at (mvP hZ w_214 (args := #[]))) (mvT hZ w_216) (by decide) (backOf (W := 0) (own_binf1 l Z a0 hw b z h0 n0 Z0 X00 O2 P5 E C) hZ w_216 (own_w hw 69 rfl) (by decide) (by decide)) (g := (mkF m 18 #[sR b, sR s1] [(.ref b)])) rfl (by rw [hml]; rfl) (Steps.refl _) (a := b) (by rw [e25]; exact q27a) q27b (argsL := []) (rest := []) (lenOf own_pd12 rfl) rfl (Nat.le_of_eq rfl) (dB d17_18) (fun _ _ => ⟨rfl, e25, Nat.le_of_ble_eq_true rfl, Nat.le_of_ble_eq_true rfl⟩)
  dsimp only [Pt.U, Pt.locs, Pt.cells, Pt.slots] at X27 l27 y27 z27 st27 hQ27
  subst l27 y27 z27
  obtain ⟨rfl, Nq27, eq27⟩ := hQ27
  have N27 := Fr.app N25 Nq27
  have e27 : T27.heap = h0 := eq27
  have cc28 : oS p e below S0' T27 (mkF m 21 #[sR b, sR s1] []) := (Steps.trans cc26 st27)
  have cE := cc28
  rw [hS0'] at cE
  obtain ⟨fs, hr_, hrun, hended, hW, hsame⟩ := X27.leave (v := none) (fun _ => rfl)
  refine ⟨_, _, cE.trans (X27.returnOut hx Bd.returns (dB d17_21) hr_), hrun, hended, _, _, rfl, ?_, ⟨_, rfl⟩, hW, hsame.mono (by first | decide | omega) (by first | decide | omega)⟩
  show Q_own_ifn10 Z b s1 z h0 n0 _ T27.heap _
  rw [e27]
  exact ⟨rfl, N27, rfl⟩
def Q_own_ifn11 (Z : State) (b s1 : Addr) (z : Int32) (h0 : Heap) (n0 : Nat) (v : Option Value) (h : Heap) (L : List Loc) : Prop := v = none ∧ Fr n0 L ∧ h = h0
set_option maxRecDepth 65536 in
set_option maxHeartbeats 40000000 in
theorem own_ifn11 (l : Launch) (Z : State) (a0 : Array Value) (hw : ∀ d ∈ tables_1, d.before a0 Z = true) (b s1 : Addr) (z : Int32) (h0 : Heap) (n0 : Nat) (Z0 : n0 ≤ h0.size) (X00 : Old Z n0 h0) (O2 : Sta Z Z.heap "java/lang/String" "COMPACT_STRINGS" "Z" (.int z)) (P5 : ¬ z = 0) (E : Exa Z h0 b "java/lang/StringBuilder") (C : Fld Z h0 b "java/lang/AbstractStringBuilder" "coder" "B" (.int (1 : Int32))) (Es : Exa Z h0 s1 "java/lang/String") (Cs : Fld Z h0 s1 "java/lang/String" "coder" "B" (.int (1 : Int32))) :
    MetFree l yM17 (head1 [Jvm.Cond.code yM17 jdk_68_method_71_code 2 none] rM12) (fun a_ U_ => a_ = #[(.ref b), (.ref s1)] ∧ Z.Warmed39 U_.vm ∧ U_.heap = h0) (fun _ _ _ _ _ => True) (fun _ U_ o_ V_ => ∃ v_ L_, o_ = .returned v_ ∧ Q_own_ifn11 Z b s1 z h0 n0 v_ V_.heap L_ ∧ FrameEnd U_ o_ V_ L_ rM12.cells rM12.slots) := by
  refine MetFree.of_bodySF (plainFor_of_name own_pn1) hisR ?_
  intro p e s m args below meth c s₁ Bd hml0 hP hK
  obtain ⟨rfl, hZ, hh⟩ := hP
  have hx := Bd.exec
  have hby := Bd.bytes
  have dB := @own_d c _ hby
  have hml : c.maxLocals = 2 := hml0
  have hown : s.vm.findClass "java/lang/AbstractStringBuilder" = some m.cls := findClass_of_methodNamed Bd.named
  have hnm := (name_of_methodNamed Bd.named Bd.method).1
  have X0 : Stand p l e rM12 s m #[(.ref b), (.ref s1)] below meth c s₁ [] 0 0 := Stand.of_body Bd
  have e0 : s₁.heap = h0 := by rw [← hh, Bd.state]; rfl
  have N0 := Fr.nil n0
  have KK0 := Keep.refl h0 ([] : List Addr)
  have cc0 : Steps p.tables e below (s₁.setTop (entryFrame m #[(.ref b), (.ref s1)] 2)) (s₁.setTop (mkF m 0 #[sR b, sR s1] [])) := XT.entry rfl
  obtain ⟨S0', hS0'⟩ : ∃ S, S = (s₁.setTop (entryFrame m #[(.ref b), (.ref s1)] 2)) := ⟨_, rfl⟩
  rw [← hS0'] at cc0
  have w_95 := own_w hw 95 rfl
  obtain ⟨T21, X21, e21, st21⟩ := getS2 X0 hx hZ hown (host := "") (Or.inl (own_w hw 72 rfl)) Via.refl e0 (O2.ext X00.2) (g := (mkF m 0 #[sR b, sR s1] [])) rfl (dB d17_0)
  have cc22 : oS p e below S0' T21 (mkF m 7 #[sR b, sR s1] [(.ref b)]) := Steps.trans (cc0.trans (st21 _ (Steps.refl _))) (by
    refine XS.ifNo X21.here hx rfl (dB d17_3) rfl (i0_eq_f P5) ?_
    refine XS.aloadN X21.here hx rfl (dB d17_6) rfl rfl ?_
    exact Steps.refl _)
  obtain ⟨T23, X23, e23, st23⟩ := getF X21 hx hZ hown (host := "") (Or.inl (own_w hw 75 rfl)) Via.refl e21 C (g := (mkF m 7 #[sR b, sR s1] [(.ref b)])) rfl rfl (dB d17_7)
  have cc24 : oS p e below S0' T23 (mkF m 11 #[sR b, sR s1] [(.ref s1), (.int (1 : Int32))]) := Steps.trans (cc22.trans (st23 _ (Steps.refl _))) (by
    refine XS.aloadN X23.here hx rfl (dB d17_10) rfl rfl ?_
    exact Steps.refl _)
  obtain ⟨cq25, kq25, qa25, qb25, qc25⟩ := isOf hZ e23 Es
  obtain ⟨_, _, ⟨T25, L25, k25, n25⟩, -, X25, ⟨Lc25, hQ25, l25, y25, z25⟩, st25⟩ := X23.virtualBack hx (y := yM2) (z := yM2) hown (mvT hZ (own_w hw 114 rfl)) (mvT hZ (own_w hw 93 rfl)) (notFace_of_selects (args := #[]) (mvT hZ w_95)) (mvT hZ w_95) (mvT hZ (own_w hw 94 rfl)) (by decide) (backOf (W := 1) (own_cod1 l Z a0 hw s1 z h0 n0 Z0 X00 O2 P5 Cs) hZ (own_w hw 96 rfl) (own_w hw 7 rfl) (by decide) (by decide)) qa25 qc25 (g := (mkF m 11 #[sR b, sR s1] [(.ref s1), (.int (1 : Int32))])) rfl (by rw [hml]; rfl) (Steps.refl _) (argsL := []) (rest := [(.int (1 : Int32))]) (lenOf own_pd11 rfl) rfl (Nat.le_of_eq rfl) (dB d17_11) (fun _ _ => ⟨rfl, e23, Nat.le_of_ble_eq_true rfl, Nat.le_of_ble_eq_true rfl⟩)
  dsimp only [Pt.U, Pt.locs, Pt.cells, Pt.slots] at X25 l25 y25 z25 st25 hQ25
  subst l25 y25 z25
  obtain ⟨rfl, Nq25, eq25⟩ := hQ25
  have N25 := Fr.app N0 Nq25
  have e25 : T25.heap = h0 := eq25
  have cc26 : oS p e below S0' T25 (mkF m 21 #[sR b, sR s1] []) := Steps.trans (Steps.trans cc24 st25) (by
    refine XS.icmpYes X25.here hx rfl (pc0 := 14) rfl (dB d17_14) rfl (ii_eq_t rfl) (by decide) rfl ?_
    exact Steps.refl _)
  have cE := cc26
  rw [hS0'] at cE
  obtain ⟨fs, hr_, hrun, hended, hW, hsame⟩ := X25.leave (v := none) (fun _ => rfl)
  refine ⟨_, _, cE.trans (X25.returnOut hx Bd.returns (dB d17_21) hr_), hrun, hended, _, _, rfl, ?_, ⟨_, rfl⟩, hW, hsame.mono (by first | decide | omega) (by first | decide | omega)⟩
  show Q_own_ifn11 Z b s1 z h0 n0 _ T25.heap _
  rw [e25]
  exact ⟨rfl, N25, rfl⟩
def Q_own_ifn01 (Z : State) (b t : Addr) (kt : ClassId) (bs : List Int32) (s1 : Addr) (z : Int32) (f : Value) (h0 : Heap) (n0 : Nat) (v : Option Value) (h : Heap) (L : List Loc) : Prop := ∃ (t' : Addr) (kt' : ClassId), v = none ∧ Fr n0 L ∧ Keep h0 h [b] ∧ h0.size ≤ t' ∧ Fld Z h b "java/lang/AbstractStringBuilder" "coder" "B" (.int (1 : Int32)) ∧ Fld Z h b "java/lang/AbstractStringBuilder" "count" "I" (.int (Int32.ofNat bs.length)) ∧ Fld Z h b "java/lang/AbstractStringBuilder" "value" "[B" (.ref t') ∧ Fld Z h b "java/lang/AbstractStringBuilder" "maybeLatin1" "Z" (.int (0 : Int32)) ∧ Arv Z h t' kt' .byte (32 : Int32) (StrChars.Road.wideBytes bs) (.int (0 : Int32))
set_option maxRecDepth 65536 in
set_option maxHeartbeats 40000000 in
theorem own_ifn01 (l : Launch) (Z : State) (a0 : Array Value) (hw : ∀ d ∈ tables_1, d.before a0 Z = true) (b t : Addr) (kt : ClassId) (bs : List Int32) (s1 : Addr) (z : Int32) (f : Value) (h0 : Heap) (n0 : Nat) (Z0 : n0 ≤ h0.size) (X00 : Old Z n0 h0) (O2 : Sta Z Z.heap "java/lang/String" "COMPACT_STRINGS" "Z" (.int z)) (P5 : ¬ z = 0) (O3 : StrChars.Road.U3Z Z Z.heap) (O4 : Sta Z Z.heap "jdk/internal/util/Preconditions" "SIOOBE_FORMATTER" "Ljava/util/function/BiFunction;" f) (hf : f.isRef = true) (E : Exa Z h0 b "java/lang/StringBuilder") (C : Fld Z h0 b "java/lang/AbstractStringBuilder" "coder" "B" (.int (0 : Int32))) (N : Fld Z h0 b "java/lang/AbstractStringBuilder" "count" "I" (.int (Int32.ofNat bs.length))) (V : Fld Z h0 b "java/lang/AbstractStringBuilder" "value" "[B" (.ref t)) (M : Fld Z h0 b "java/lang/AbstractStringBuilder" "maybeLatin1" "Z" (.int (0 : Int32))) (A : Arv Z h0 t kt .byte (16 : Int32) (own_by bs) (.int (0 : Int32))) (Es : Exa Z h0 s1 "java/lang/String") (Cs : Fld Z h0 s1 "java/lang/String" "coder" "B" (.int (1 : Int32))) (hp : ∀ c ∈ bs, ¬ c < 0 ∧ ¬ (255 : Int32) < c) (hb6 : bs.length ≤ 6) (gb : n0 ≤ b) :
    MetFree l yM17 (head1 [Jvm.Cond.code yM17 jdk_68_method_71_code 2 none] rM13) (fun a_ U_ => a_ = #[(.ref b), (.ref s1)] ∧ Z.Warmed39 U_.vm ∧ U_.heap = h0) (fun _ _ _ _ _ => True) (fun _ U_ o_ V_ => ∃ v_ L_, o_ = .returned v_ ∧ Q_own_ifn01 Z b t kt bs s1 z f h0 n0 v_ V_.heap L_ ∧ FrameEnd U_ o_ V_ L_ rM13.cells rM13.slots) := by
  refine MetFree.of_bodySF (plainFor_of_name own_pn1) hisR ?_
  intro p e s m args below meth c s₁ Bd hml0 hP hK
  obtain ⟨rfl, hZ, hh⟩ := hP
  have hx := Bd.exec
  have hby := Bd.bytes
  have dB := @own_d c _ hby
  have hml : c.maxLocals = 2 := hml0
  have hown : s.vm.findClass "java/lang/AbstractStringBuilder" = some m.cls := findClass_of_methodNamed Bd.named
  have hnm := (name_of_methodNamed Bd.named Bd.method).1
  have X0 : Stand p l e rM13 s m #[(.ref b), (.ref s1)] below meth c s₁ [] 0 0 := Stand.of_body Bd
  have e0 : s₁.heap = h0 := by rw [← hh, Bd.state]; rfl
  have N0 := Fr.nil n0
  have KK0 := Keep.refl h0 [b]
  have cc0 : Steps p.tables e below (s₁.setTop (entryFrame m #[(.ref b), (.ref s1)] 2)) (s₁.setTop (mkF m 0 #[sR b, sR s1] [])) := XT.entry rfl
  obtain ⟨S0', hS0'⟩ : ∃ S, S = (s₁.setTop (entryFrame m #[(.ref b), (.ref s1)] 2)) := ⟨_, rfl⟩
  rw [← hS0'] at cc0
  have w_95 := own_w hw 95 rfl
  have w_213 := own_w hw 213 rfl
  have w_214 := own_w hw 214 rfl
  have w_216 := own_w hw 216 rfl
  obtain ⟨T21, X21, e21, st21⟩ := getS2 X0 hx hZ hown (host := "") (Or.inl (own_w hw 72 rfl)) Via.refl e0 (O2.ext X00.2) (g := (mkF m 0 #[sR b, sR s1] [])) rfl (dB d17_0)
  have cc22 : oS p e below S0' T21 (mkF m 7 #[sR b, sR s1] [(.ref b)]) := Steps.trans (cc0.trans (st21 _ (Steps.refl _))) (by
    refine XS.ifNo X21.here hx rfl (dB d17_3) rfl (i0_eq_f P5) ?_
    refine XS.aloadN X21.here hx rfl (dB d17_6) rfl rfl ?_
    exact Steps.refl _)
  obtain ⟨T23, X23, e23, st23⟩ := getF X21 hx hZ hown (host := "") (Or.inl (own_w hw 75 rfl)) Via.refl e21 C (g := (mkF m 7 #[sR b, sR s1] [(.ref b)])) rfl rfl (dB d17_7)
  have cc24 : oS p e below S0' T23 (mkF m 11 #[sR b, sR s1] [(.ref s1), (.int (0 : Int32))]) := Steps.trans (cc22.trans (st23 _ (Steps.refl _))) (by
    refine XS.aloadN X23.here hx rfl (dB d17_10) rfl rfl ?_
    exact Steps.refl _)
  obtain ⟨cq25, kq25, qa25, qb25, qc25⟩ := isOf hZ e23 Es
  obtain ⟨_, _, ⟨T25, L25, k25, n25⟩, -, X25, ⟨Lc25, hQ25, l25, y25, z25⟩, st25⟩ := X23.virtualBack hx (y := yM2) (z := yM2) hown (mvT hZ (own_w hw 114 rfl)) (mvT hZ (own_w hw 93 rfl)) (notFace_of_selects (args := #[]) (mvT hZ w_95)) (mvT hZ w_95) (mvT hZ (own_w hw 94 rfl)) (by decide) (backOf (W := 1) (own_cod1 l Z a0 hw s1 z h0 n0 Z0 X00 O2 P5 Cs) hZ (own_w hw 96 rfl) (own_w hw 7 rfl) (by decide) (by decide)) qa25 qc25 (g := (mkF m 11 #[sR b, sR s1] [(.ref s1), (.int (0 : Int32))])) rfl (by rw [hml]; rfl) (Steps.refl _) (argsL := []) (rest := [(.int (0 : Int32))]) (lenOf own_pd11 rfl) rfl (Nat.le_of_eq rfl) (dB d17_11) (fun _ _ => ⟨rfl, e23, Nat.le_of_ble_eq_true rfl, Nat.le_of_ble_eq_true rfl⟩)
  dsimp only [Pt.U, Pt.locs, Pt.cells, Pt.slots] at X25 l25 y25 z25 st25 hQ25
  subst l25 y25 z25
  obtain ⟨rfl, Nq25, eq25⟩ := hQ25
  have N25 := Fr.app N0 Nq25
  have e25 : T25.heap = h0 := eq25
  have cc26 : oS p e below S0' T25 (mkF m 18 #[sR b, sR s1] [(.ref b)]) := Steps.trans (Steps.trans cc24 st25) (by
    refine XS.icmpNo X25.here hx rfl (dB d17_14) rfl (ii_eq_f (by decide)) ?_
    refine XS.aloadN X25.here hx rfl (dB d17_17) rfl rfl ?_
    exact Steps.refl _)
  obtain ⟨cq27, q27a, q27b⟩ := E.cell
  obtain ⟨_, _, ⟨T27, L27, k27, n27⟩, -, X27, ⟨Lc27, hQ27, l27, y27, z27⟩, st27⟩ := X25.privateBack hx (y := yM16) hown (mvT hZ (own_w hw 212 rfl)) (mvT hZ w_213) (own_selP hZ (own_w hw 215 rfl) w_214 w_213 (by decide)) (Cond.privateMethod_at (mvP hZ w_214 (args := #[]))) (mvT hZ w_216) (by decide) (backOf (W := 0) (own_binf l Z a0 hw b t kt bs z f h0 n0 Z0 X00 O2 P5 O3 O4 hf E C N V M A hp hb6 gb) hZ w_216 (own_w hw 69 rfl) (by decide) (by decide)) (g := (mkF m 18 #[sR b, sR s1] [(.ref b)])) rfl (by rw [hml]; rfl) (Steps.refl _) (a := b) (by rw [e25]; exact q27a) q27b (argsL := []) (rest := []) (lenOf own_pd12 rfl) rfl (Nat.le_of_eq rfl) (dB d17_18) (fun _ _ => ⟨rfl, e25, Nat.le_of_ble_eq_true rfl, Nat.le_of_ble_eq_true rfl⟩)
  dsimp only [Pt.U, Pt.locs, Pt.cells, Pt.slots] at X27 l27 y27 z27 st27 hQ27
  subst l27 y27 z27
  obtain ⟨t', kt', rfl, Nq27, Kq27, sq27, f127, f227, f327, f427, f527⟩ := hQ27
  have N27 := Fr.app N25 Nq27
  have KK1 : Keep h0 T27.heap [b] := KK0.trans Kq27 (allS (Or.inl (List.mem_of_getElem? (i := 0) rfl)) all0)
  have Zs1 : n0 ≤ T27.heap.size := Nat.le_trans Z0 Kq27.1
  have e27 : T27.heap = T27.heap := rfl
  have cc28 : oS p e below S0' T27 (mkF m 21 #[sR b, sR s1] []) := (Steps.trans cc26 st27)
  have cE := cc28
  rw [hS0'] at cE
  obtain ⟨fs, hr_, hrun, hended, hW, hsame⟩ := X27.leave (v := none) (fun _ => rfl)
  refine ⟨_, _, cE.trans (X27.returnOut hx Bd.returns (dB d17_21) hr_), hrun, hended, _, _, rfl, ?_, ⟨_, rfl⟩, hW, hsame.mono (by first | decide | omega) (by first | decide | omega)⟩
  show Q_own_ifn01 Z b t kt bs s1 z f h0 n0 _ T27.heap _
  rw [e27]
  exact ⟨t', kt', rfl, N27, KK1, sq27, f127, f227, f327, f427, f527⟩
theorem own_shl0 (x : Int32) : x <<< ((0 : Int32) &&& 31) = x := by
  have e : ((0 : Int32) &&& 31) = 0 := by decide
  rw [e]
  apply Int32.toBitVec_inj.mp
  rw [Int32.toBitVec_shiftLeft]
  have e1 : ((0 : Int32).toBitVec.smod 32) = 0#32 := by decide
  rw [e1, BitVec.shiftLeft_eq']
  exact BitVec.shiftLeft_zero _
theorem own_copy (bs cs : List Int32) (hl : bs.length + cs.length ≤ 16) : List.take bs.length (own_by bs ++ List.replicate (16 - bs.length) (.int (0 : Int32))) ++ own_by cs ++ List.drop (bs.length + cs.length) (own_by bs ++ List.replicate (16 - bs.length) (.int (0 : Int32))) = own_by (bs ++ cs) ++ List.replicate (16 - bs.length - cs.length) (.int (0 : Int32)) := by
  have h1 : List.take bs.length (own_by bs ++ List.replicate (16 - bs.length) (Value.int (0 : Int32))) = own_by bs := by
    rw [List.take_append_of_le_length (by simp), List.take_of_length_le (by simp)]
  have h2 : List.drop (bs.length + cs.length) (own_by bs ++ List.replicate (16 - bs.length) (Value.int (0 : Int32))) = List.replicate (16 - bs.length - cs.length) (Value.int (0 : Int32)) := by
    rw [List.drop_append, List.drop_of_length_le (by simp), own_by_len, List.drop_replicate]
    simp
  rw [h1, h2, own_by_app]
theorem d18_0 : decode kM18 0 = .ok (.aload_n 0, 1) := by decide +kernel
theorem d18_1 : decode kM18 1 = .ok (.invokevirtual 335, 3) := by decide +kernel
theorem d18_4 : decode kM18 4 = .ok (.iload_n 3, 1) := by decide +kernel
theorem d18_5 : decode kM18 5 = .ok (.if_icmp .ne 23, 3) := by decide +kernel
theorem d18_8 : decode kM18 8 = .ok (.aload_n 0, 1) := by decide +kernel
theorem d18_9 : decode kM18 9 = .ok (.getfield 9, 3) := by decide +kernel
theorem d18_12 : decode kM18 12 = .ok (.iconst 0, 1) := by decide +kernel
theorem d18_13 : decode kM18 13 = .ok (.aload_n 1, 1) := by decide +kernel
theorem d18_14 : decode kM18 14 = .ok (.iload_n 2, 1) := by decide +kernel
theorem d18_15 : decode kM18 15 = .ok (.iload_n 3, 1) := by decide +kernel
theorem d18_16 : decode kM18 16 = .ok (.ishl, 1) := by decide +kernel
theorem d18_17 : decode kM18 17 = .ok (.aload_n 0, 1) := by decide +kernel
theorem d18_18 : decode kM18 18 = .ok (.getfield 9, 3) := by decide +kernel
theorem d18_21 : decode kM18 21 = .ok (.arraylength, 1) := by decide +kernel
theorem d18_22 : decode kM18 22 = .ok (.invokestatic 212, 3) := by decide +kernel
theorem d18_25 : decode kM18 25 = .ok (.goto 18, 3) := by decide +kernel
theorem d18_43 : decode kM18 43 = .ok (.return_, 1) := by decide +kernel
def Q_own_gb00 (Z : State) (s1 : Addr) (cs : List Int32) (t : Addr) (kt : ClassId) (bs : List Int32) (z : Int32) (h0 : Heap) (n0 : Nat) (v : Option Value) (h : Heap) (L : List Loc) : Prop := v = none ∧ Fr n0 L ∧ Keep h0 h [t] ∧ Arv Z h t kt .byte (16 : Int32) (own_by (bs ++ cs)) (.int (0 : Int32))
set_option maxRecDepth 65536 in
set_option maxHeartbeats 40000000 in
theorem own_gb00 (l : Launch) (Z : State) (a0 : Array Value) (hw : ∀ d ∈ tables_1, d.before a0 Z = true) (s1 : Addr) (cs : List Int32) (t : Addr) (kt : ClassId) (bs : List Int32) (z : Int32) (h0 : Heap) (n0 : Nat) (Z0 : n0 ≤ h0.size) (X00 : Old Z n0 h0) (O2 : Sta Z Z.heap "java/lang/String" "COMPACT_STRINGS" "Z" (.int z)) (P5 : ¬ z = 0) (Hs : own_Lat Z h0 s1 cs) (A : Arv Z h0 t kt .byte (16 : Int32) (own_by bs) (.int (0 : Int32))) (gt : n0 ≤ t) (hl : bs.length + cs.length ≤ 16) :
    MetFree l yM18 (head1 [Jvm.Cond.code yM18 jdk_42_method_147_code 4 none] rM14) (fun a_ U_ => a_ = #[(.ref s1), (.ref t), (.int (Int32.ofNat bs.length)), (.int 0)] ∧ Z.Warmed39 U_.vm ∧ U_.heap = h0) (fun _ _ _ _ _ => True) (fun _ U_ o_ V_ => ∃ v_ L_, o_ = .returned v_ ∧ Q_own_gb00 Z s1 cs t kt bs z h0 n0 v_ V_.heap L_ ∧ FrameEnd U_ o_ V_ L_ rM14.cells rM14.slots) := by
  refine MetFree.of_bodySF (plainFor_of_name own_pn0) hisR ?_
  intro p e s m args below meth c s₁ Bd hml0 hP hK
  obtain ⟨rfl, hZ, hh⟩ := hP
  have hx := Bd.exec
  have hby := Bd.bytes
  have dB := @own_d c _ hby
  have hml : c.maxLocals = 4 := hml0
  have hown : s.vm.findClass "java/lang/String" = some m.cls := findClass_of_methodNamed Bd.named
  have hnm := (name_of_methodNamed Bd.named Bd.method).1
  have X0 : Stand p l e rM14 s m #[(.ref s1), (.ref t), (.int (Int32.ofNat bs.length)), (.int 0)] below meth c s₁ [] 0 0 := Stand.of_body Bd
  have e0 : s₁.heap = h0 := by rw [← hh, Bd.state]; rfl
  have N0 := Fr.nil n0
  have KK0 := Keep.refl h0 [t]
  have cc0 : Steps p.tables e below (s₁.setTop (entryFrame m #[(.ref s1), (.ref t), (.int (Int32.ofNat bs.length)), (.int 0)] 4)) (s₁.setTop (mkF m 0 #[sR s1, sR t, sI (Int32.ofNat bs.length), sI 0] [])) := XT.entry rfl
  obtain ⟨S0', hS0'⟩ : ∃ S, S = (s₁.setTop (entryFrame m #[(.ref s1), (.ref t), (.int (Int32.ofNat bs.length)), (.int 0)] 4)) := ⟨_, rfl⟩
  rw [← hS0'] at cc0
  have w_33 := own_w hw 33 rfl
  have w_95 := own_w hw 95 rfl
  obtain ⟨Es1, Cs1, ps1, ls1, ts1, ks1, Vs1, As1⟩ := Hs
  have Ap : Arv Z h0 t kt .byte (16 : Int32) ((own_by bs) ++ List.replicate (16 - bs.length) (.int (0 : Int32))) (.int (0 : Int32)) := A.pad (pad_rep _ _ _)
  have cc21 : oS p e below S0' s₁ (mkF m 1 #[sR s1, sR t, sI (Int32.ofNat bs.length), sI 0] [(.ref s1)]) := Steps.trans cc0 (by
    refine XS.aloadN X0.here hx rfl (dB d18_0) rfl rfl ?_
    exact Steps.refl _)
  obtain ⟨cq22, kq22, qa22, qb22, qc22⟩ := isOf hZ e0 Es1
  obtain ⟨_, _, ⟨T22, L22, k22, n22⟩, -, X22, ⟨Lc22, hQ22, l22, y22, z22⟩, st22⟩ := X0.virtualBack hx (y := yM2) (z := yM2) hown (mvT hZ (own_w hw 92 rfl)) (mvT hZ (own_w hw 93 rfl)) (notFace_of_selects (args := #[]) (mvT hZ w_95)) (mvT hZ w_95) (mvT hZ (own_w hw 94 rfl)) (by decide) (backOf (W := 0) (own_cod0 l Z a0 hw s1 z h0 n0 Z0 X00 O2 P5 Cs1) hZ (own_w hw 96 rfl) (own_w hw 7 rfl) (by decide) (by decide)) qa22 qc22 (g := (mkF m 1 #[sR s1, sR t, sI (Int32.ofNat bs.length), sI 0] [(.ref s1)])) rfl (by rw [hml]; rfl) (Steps.refl _) (argsL := []) (rest := []) (lenOf own_pd11 rfl) rfl (Nat.le_of_eq rfl) (dB d18_1) (fun _ _ => ⟨rfl, e0, Nat.le_of_ble_eq_true rfl, Nat.le_of_ble_eq_true rfl⟩)
  dsimp only [Pt.U, Pt.locs, Pt.cells, Pt.slots] at X22 l22 y22 z22 st22 hQ22
  subst l22 y22 z22
  obtain ⟨rfl, Nq22, eq22⟩ := hQ22
  have N22 := Fr.app N0 Nq22
  have e22 : T22.heap = h0 := eq22
  have cc23 : oS p e below S0' T22 (mkF m 9 #[sR s1, sR t, sI (Int32.ofNat bs.length), sI 0] [(.ref s1)]) := Steps.trans (Steps.trans cc21 st22) (by
    refine XS.iloadN X22.here hx rfl (dB d18_4) rfl ?_
    refine XS.icmpNo X22.here hx rfl (dB d18_5) rfl (ii_ne_f rfl) ?_
    refine XS.aloadN X22.here hx rfl (dB d18_8) rfl rfl ?_
    exact Steps.refl _)
  obtain ⟨T24, X24, e24, st24⟩ := getF X22 hx hZ hown (host := "") (Or.inl w_33) Via.refl e22 Vs1 (g := (mkF m 9 #[sR s1, sR t, sI (Int32.ofNat bs.length), sI 0] [(.ref s1)])) rfl rfl (dB d18_9)
  have cc25 : oS p e below S0' T24 (mkF m 18 #[sR s1, sR t, sI (Int32.ofNat bs.length), sI 0] [(.ref s1), (.int ((Int32.ofNat bs.length) <<< ((0 : Int32) &&& 31))), (.ref t), (.int 0), (.ref ts1)]) := Steps.trans (cc23.trans (st24 _ (Steps.refl _))) (by
    refine iconstV X24.here hx rfl 0 (dB d18_12) (by decide) ?_
    refine XS.aloadN X24.here hx rfl (dB d18_13) rfl rfl ?_
    refine XS.iloadN X24.here hx rfl (dB d18_14) rfl ?_
    refine XS.iloadN X24.here hx rfl (dB d18_15) rfl ?_
    refine XT.ishl X24.here hx rfl (dB d18_16) rfl ?_
    refine XS.aloadN X24.here hx rfl (dB d18_17) rfl rfl ?_
    exact Steps.refl _)
  obtain ⟨T26, X26, e26, st26⟩ := getF X24 hx hZ hown (host := "") (Or.inl w_33) Via.refl e24 Vs1 (g := (mkF m 18 #[sR s1, sR t, sI (Int32.ofNat bs.length), sI 0] [(.ref s1), (.int ((Int32.ofNat bs.length) <<< ((0 : Int32) &&& 31))), (.ref t), (.int 0), (.ref ts1)])) rfl rfl (dB d18_18)
  have cc27 : oS p e below S0' T26 (mkF m 21 #[sR s1, sR t, sI (Int32.ofNat bs.length), sI 0] [(.ref ts1), (.int ((Int32.ofNat bs.length) <<< ((0 : Int32) &&& 31))), (.ref t), (.int 0), (.ref ts1)]) := (cc25.trans (st26 _ (Steps.refl _)))
  obtain ⟨clu28, Aru28, -, Su28, Ngu28, -, -⟩ := id As1
  have cl_u28 := X26.arraylength hx (by rw [e26]; exact Aru28.1) (State.isArrayOf_alike (hZ).alike Aru28.2.1) (g := (mkF m 21 #[sR s1, sR t, sI (Int32.ofNat bs.length), sI 0] [(.ref ts1), (.int ((Int32.ofNat bs.length) <<< ((0 : Int32) &&& 31))), (.ref t), (.int 0), (.ref ts1)])) rfl rfl (dB d18_21) _ (Steps.refl _)
  rw [len_of Su28 Ngu28] at cl_u28
  have cc29 : oS p e below S0' T26 (mkF m 22 #[sR s1, sR t, sI (Int32.ofNat bs.length), sI 0] [(.int (Int32.ofNat cs.length)), (.int ((Int32.ofNat bs.length) <<< ((0 : Int32) &&& 31))), (.ref t), (.int 0), (.ref ts1)]) := (Steps.trans cc27 cl_u28)
  have cz30 : oS p e below S0' T26 (mkF m 22 #[sR s1, sR t, sI (Int32.ofNat bs.length), sI 0] [(.int (Int32.ofNat cs.length)), (.int (Int32.ofNat bs.length)), (.ref t), (.int 0), (.ref ts1)]) := by
    have := cc29
    rw [show Int32.ofNat bs.length <<< ((0 : Int32) &&& 31) = Int32.ofNat bs.length from own_shl0 _] at this
    exact this
  have e1 : (Int32.ofNat cs.length).toNatClampNeg = cs.length := n32 (by omega)
  have e2 : (Int32.ofNat bs.length).toNatClampNeg = bs.length := n32 (by omega)
  obtain ⟨T31, h31, L31, X31, e31, N31, K31, V31, st31⟩ := cpA X26 hx hZ hown (own_w hw 120 rfl) (own_w hw 123 rfl) (own_w hw 121 rfl) (own_w hw 122 rfl) e26 As1 Ap (Or.inl ⟨rfl, rfl⟩) (by decide) (Int32.ofNat_not_neg (by omega)) (Int32.ofNat_not_neg (by omega)) (us := (own_by cs)) (by rw [e1]; show 0 + _ ≤ _; omega) (by rw [e1, e2]; show _ ≤ 16; omega) (by rw [e1]; exact (own_take cs).symm) (by rw [e1, e2, List.length_append, List.length_replicate, own_by_len]; omega) N22 gt (g := (mkF m 22 #[sR s1, sR t, sI (Int32.ofNat bs.length), sI 0] [(.int (Int32.ofNat cs.length)), (.int (Int32.ofNat bs.length)), (.ref t), (.int 0), (.ref ts1)])) rfl (by rw [hml]; rfl) rfl (dB d18_22) (by decide) (W := 0) (by show 2 * 0 + _ ≤ _; exact Nat.le_of_eq rfl) (by decide)
  have KK1 : Keep h0 h31 [t] := KK0.trans K31 (allS (Or.inl (List.mem_of_getElem? (i := 0) rfl)) all0)
  have Zs1 : n0 ≤ h31.size := Nat.le_trans Z0 K31.1
  have V31' : Arv Z h31 t kt .byte (16 : Int32) ((own_by (bs ++ cs)) ++ List.replicate (16 - bs.length - cs.length) (.int (0 : Int32))) (.int (0 : Int32)) := own_arv_eq V31 (by rw [e1, e2]; exact own_copy bs cs hl)
  have cc32 : oS p e below S0' T31 (mkF m 43 #[sR s1, sR t, sI (Int32.ofNat bs.length), sI 0] []) := Steps.trans (cz30.trans (st31 _ (Steps.refl _))) (by
    refine XS.goto X31.here hx rfl (pc0 := 25) rfl (dB d18_25) (by decide) rfl ?_
    exact Steps.refl _)
  have cE := cc32
  rw [hS0'] at cE
  obtain ⟨fs, hr_, hrun, hended, hW, hsame⟩ := X31.leave (v := none) (fun _ => rfl)
  refine ⟨_, _, cE.trans (X31.returnOut hx Bd.returns (dB d18_43) hr_), hrun, hended, _, _, rfl, ?_, ⟨_, rfl⟩, hW, hsame.mono (by first | decide | omega) (by first | decide | omega)⟩
  show Q_own_gb00 Z s1 cs t kt bs z h0 n0 _ T31.heap _
  rw [e31]
  exact ⟨rfl, N31, KK1, (V31').pad (fun i => (pad_rep _ _ _ i).symm)⟩
def Q_own_gb11 (Z : State) (s1 : Addr) (cs : List Int32) (t : Addr) (kt : ClassId) (bs : List Int32) (z : Int32) (h0 : Heap) (n0 : Nat) (v : Option Value) (h : Heap) (L : List Loc) : Prop := v = none ∧ Fr n0 L ∧ Keep h0 h [t] ∧ Arv Z h t kt .byte (32 : Int32) (StrChars.Road.wideBytes (bs ++ cs)) (.int (0 : Int32))
set_option maxRecDepth 65536 in
set_option maxHeartbeats 40000000 in
theorem own_gb11 (l : Launch) (Z : State) (a0 : Array Value) (hw : ∀ d ∈ tables_1, d.before a0 Z = true) (s1 : Addr) (cs : List Int32) (t : Addr) (kt : ClassId) (bs : List Int32) (z : Int32) (h0 : Heap) (n0 : Nat) (Z0 : n0 ≤ h0.size) (X00 : Old Z n0 h0) (O2 : Sta Z Z.heap "java/lang/String" "COMPACT_STRINGS" "Z" (.int z)) (P5 : ¬ z = 0) (Hs : own_Wid Z h0 s1 cs) (A : Arv Z h0 t kt .byte (32 : Int32) (StrChars.Road.wideBytes bs) (.int (0 : Int32))) (gt : n0 ≤ t) (hl : bs.length + cs.length ≤ 16) :
    MetFree l yM18 (head1 [Jvm.Cond.code yM18 jdk_42_method_147_code 4 none] rM14) (fun a_ U_ => a_ = #[(.ref s1), (.ref t), (.int (Int32.ofNat bs.length)), (.int 1)] ∧ Z.Warmed39 U_.vm ∧ U_.heap = h0) (fun _ _ _ _ _ => True) (fun _ U_ o_ V_ => ∃ v_ L_, o_ = .returned v_ ∧ Q_own_gb11 Z s1 cs t kt bs z h0 n0 v_ V_.heap L_ ∧ FrameEnd U_ o_ V_ L_ rM14.cells rM14.slots) := by
  refine MetFree.of_bodySF (plainFor_of_name own_pn0) hisR ?_
  intro p e s m args below meth c s₁ Bd hml0 hP hK
  obtain ⟨rfl, hZ, hh⟩ := hP
  have hx := Bd.exec
  have hby := Bd.bytes
  have dB := @own_d c _ hby
  have hml : c.maxLocals = 4 := hml0
  have hown : s.vm.findClass "java/lang/String" = some m.cls := findClass_of_methodNamed Bd.named
  have hnm := (name_of_methodNamed Bd.named Bd.method).1
  have X0 : Stand p l e rM14 s m #[(.ref s1), (.ref t), (.int (Int32.ofNat bs.length)), (.int 1)] below meth c s₁ [] 0 0 := Stand.of_body Bd
  have e0 : s₁.heap = h0 := by rw [← hh, Bd.state]; rfl
  have N0 := Fr.nil n0
  have KK0 := Keep.refl h0 [t]
  have cc0 : Steps p.tables e below (s₁.setTop (entryFrame m #[(.ref s1), (.ref t), (.int (Int32.ofNat bs.length)), (.int 1)] 4)) (s₁.setTop (mkF m 0 #[sR s1, sR t, sI (Int32.ofNat bs.length), sI 1] [])) := XT.entry rfl
  obtain ⟨S0', hS0'⟩ : ∃ S, S = (s₁.setTop (entryFrame m #[(.ref s1), (.ref t), (.int (Int32.ofNat bs.length)), (.int 1)] 4)) := ⟨_, rfl⟩
  rw [← hS0'] at cc0
  have w_33 := own_w hw 33 rfl
  have w_95 := own_w hw 95 rfl
  obtain ⟨Es1, Cs1, ps1, ls1, ws1, ts1, ks1, Vs1, As1⟩ := Hs
  have Ap : Arv Z h0 t kt .byte (32 : Int32) ((StrChars.Road.wideBytes bs) ++ List.replicate (32 - 2 * bs.length) (.int (0 : Int32))) (.int (0 : Int32)) := A.pad (pad_rep _ _ _)
  have cc21 : oS p e below S0' s₁ (mkF m 1 #[sR s1, sR t, sI (Int32.ofNat bs.length), sI 1] [(.ref s1)]) := Steps.trans cc0 (by
    refine XS.aloadN X0.here hx rfl (dB d18_0) rfl rfl ?_
    exact Steps.refl _)
  obtain ⟨cq22, kq22, qa22, qb22, qc22⟩ := isOf hZ e0 Es1
  obtain ⟨_, _, ⟨T22, L22, k22, n22⟩, -, X22, ⟨Lc22, hQ22, l22, y22, z22⟩, st22⟩ := X0.virtualBack hx (y := yM2) (z := yM2) hown (mvT hZ (own_w hw 92 rfl)) (mvT hZ (own_w hw 93 rfl)) (notFace_of_selects (args := #[]) (mvT hZ w_95)) (mvT hZ w_95) (mvT hZ (own_w hw 94 rfl)) (by decide) (backOf (W := 0) (own_cod1 l Z a0 hw s1 z h0 n0 Z0 X00 O2 P5 Cs1) hZ (own_w hw 96 rfl) (own_w hw 7 rfl) (by decide) (by decide)) qa22 qc22 (g := (mkF m 1 #[sR s1, sR t, sI (Int32.ofNat bs.length), sI 1] [(.ref s1)])) rfl (by rw [hml]; rfl) (Steps.refl _) (argsL := []) (rest := []) (lenOf own_pd11 rfl) rfl (Nat.le_of_eq rfl) (dB d18_1) (fun _ _ => ⟨rfl, e0, Nat.le_of_ble_eq_true rfl, Nat.le_of_ble_eq_true rfl⟩)
  dsimp only [Pt.U, Pt.locs, Pt.cells, Pt.slots] at X22 l22 y22 z22 st22 hQ22
  subst l22 y22 z22
  obtain ⟨rfl, Nq22, eq22⟩ := hQ22
  have N22 := Fr.app N0 Nq22
  have e22 : T22.heap = h0 := eq22
  have cc23 : oS p e below S0' T22 (mkF m 9 #[sR s1, sR t, sI (Int32.ofNat bs.length), sI 1] [(.ref s1)]) := Steps.trans (Steps.trans cc21 st22) (by
    refine XS.iloadN X22.here hx rfl (dB d18_4) rfl ?_
    refine XS.icmpNo X22.here hx rfl (dB d18_5) rfl (ii_ne_f rfl) ?_
    refine XS.aloadN X22.here hx rfl (dB d18_8) rfl rfl ?_
    exact Steps.refl _)
  obtain ⟨T24, X24, e24, st24⟩ := getF X22 hx hZ hown (host := "") (Or.inl w_33) Via.refl e22 Vs1 (g := (mkF m 9 #[sR s1, sR t, sI (Int32.ofNat bs.length), sI 1] [(.ref s1)])) rfl rfl (dB d18_9)
  have cc25 : oS p e below S0' T24 (mkF m 18 #[sR s1, sR t, sI (Int32.ofNat bs.length), sI 1] [(.ref s1), (.int ((Int32.ofNat bs.length) <<< ((1 : Int32) &&& 31))), (.ref t), (.int 0), (.ref ts1)]) := Steps.trans (cc23.trans (st24 _ (Steps.refl _))) (by
    refine iconstV X24.here hx rfl 0 (dB d18_12) (by decide) ?_
    refine XS.aloadN X24.here hx rfl (dB d18_13) rfl rfl ?_
    refine XS.iloadN X24.here hx rfl (dB d18_14) rfl ?_
    refine XS.iloadN X24.here hx rfl (dB d18_15) rfl ?_
    refine XT.ishl X24.here hx rfl (dB d18_16) rfl ?_
    refine XS.aloadN X24.here hx rfl (dB d18_17) rfl rfl ?_
    exact Steps.refl _)
  obtain ⟨T26, X26, e26, st26⟩ := getF X24 hx hZ hown (host := "") (Or.inl w_33) Via.refl e24 Vs1 (g := (mkF m 18 #[sR s1, sR t, sI (Int32.ofNat bs.length), sI 1] [(.ref s1), (.int ((Int32.ofNat bs.length) <<< ((1 : Int32) &&& 31))), (.ref t), (.int 0), (.ref ts1)])) rfl rfl (dB d18_18)
  have cc27 : oS p e below S0' T26 (mkF m 21 #[sR s1, sR t, sI (Int32.ofNat bs.length), sI 1] [(.ref ts1), (.int ((Int32.ofNat bs.length) <<< ((1 : Int32) &&& 31))), (.ref t), (.int 0), (.ref ts1)]) := (cc25.trans (st26 _ (Steps.refl _)))
  obtain ⟨clu28, Aru28, -, Su28, Ngu28, -, -⟩ := id As1
  have cl_u28 := X26.arraylength hx (by rw [e26]; exact Aru28.1) (State.isArrayOf_alike (hZ).alike Aru28.2.1) (g := (mkF m 21 #[sR s1, sR t, sI (Int32.ofNat bs.length), sI 1] [(.ref ts1), (.int ((Int32.ofNat bs.length) <<< ((1 : Int32) &&& 31))), (.ref t), (.int 0), (.ref ts1)])) rfl rfl (dB d18_21) _ (Steps.refl _)
  rw [len_of Su28 Ngu28] at cl_u28
  have cc29 : oS p e below S0' T26 (mkF m 22 #[sR s1, sR t, sI (Int32.ofNat bs.length), sI 1] [(.int (Int32.ofNat (2 * cs.length))), (.int ((Int32.ofNat bs.length) <<< ((1 : Int32) &&& 31))), (.ref t), (.int 0), (.ref ts1)]) := (Steps.trans cc27 cl_u28)
  have cz30 : oS p e below S0' T26 (mkF m 22 #[sR s1, sR t, sI (Int32.ofNat bs.length), sI 1] [(.int (Int32.ofNat (2 * cs.length))), (.int (Int32.ofNat (2 * bs.length))), (.ref t), (.int 0), (.ref ts1)]) := by
    have := cc29
    rw [StrChars.shl1] at this
    exact this
  have e1 : (Int32.ofNat (2 * cs.length)).toNatClampNeg = (2 * cs.length) := n32 (by omega)
  have e2 : (Int32.ofNat (2 * bs.length)).toNatClampNeg = 2 * bs.length := n32 (by omega)
  obtain ⟨T31, h31, L31, X31, e31, N31, K31, V31, st31⟩ := cpA X26 hx hZ hown (own_w hw 120 rfl) (own_w hw 123 rfl) (own_w hw 121 rfl) (own_w hw 122 rfl) e26 As1 Ap (Or.inl ⟨rfl, rfl⟩) (by decide) (Int32.ofNat_not_neg (by omega)) (Int32.ofNat_not_neg (by omega)) (us := (StrChars.Road.wideBytes cs)) (by rw [e1]; show 0 + _ ≤ _; omega) (by rw [e1, e2]; show _ ≤ 32; omega) (by rw [e1]; exact (own_wtake cs).symm) (by rw [e1, e2, List.length_append, List.length_replicate, own_wb_len]; omega) N22 gt (g := (mkF m 22 #[sR s1, sR t, sI (Int32.ofNat bs.length), sI 1] [(.int (Int32.ofNat (2 * cs.length))), (.int (Int32.ofNat (2 * bs.length))), (.ref t), (.int 0), (.ref ts1)])) rfl (by rw [hml]; rfl) rfl (dB d18_22) (by decide) (W := 0) (by show 2 * 0 + _ ≤ _; exact Nat.le_of_eq rfl) (by decide)
  have KK1 : Keep h0 h31 [t] := KK0.trans K31 (allS (Or.inl (List.mem_of_getElem? (i := 0) rfl)) all0)
  have Zs1 : n0 ≤ h31.size := Nat.le_trans Z0 K31.1
  have V31' : Arv Z h31 t kt .byte (32 : Int32) ((StrChars.Road.wideBytes (bs ++ cs)) ++ List.replicate (32 - 2 * bs.length - 2 * cs.length) (.int (0 : Int32))) (.int (0 : Int32)) := own_arv_eq V31 (by rw [e1, e2]; exact own_wcopy bs cs hl)
  have cc32 : oS p e below S0' T31 (mkF m 43 #[sR s1, sR t, sI (Int32.ofNat bs.length), sI 1] []) := Steps.trans (cz30.trans (st31 _ (Steps.refl _))) (by
    refine XS.goto X31.here hx rfl (pc0 := 25) rfl (dB d18_25) (by decide) rfl ?_
    exact Steps.refl _)
  have cE := cc32
  rw [hS0'] at cE
  obtain ⟨fs, hr_, hrun, hended, hW, hsame⟩ := X31.leave (v := none) (fun _ => rfl)
  refine ⟨_, _, cE.trans (X31.returnOut hx Bd.returns (dB d18_43) hr_), hrun, hended, _, _, rfl, ?_, ⟨_, rfl⟩, hW, hsame.mono (by first | decide | omega) (by first | decide | omega)⟩
  show Q_own_gb11 Z s1 cs t kt bs z h0 n0 _ T31.heap _
  rw [e31]
  exact ⟨rfl, N31, KK1, (V31').pad (fun i => (pad_rep _ _ _ i).symm)⟩
theorem d18_28 : decode kM18 28 = .ok (.aload_n 0, 1) := by decide +kernel
theorem d18_29 : decode kM18 29 = .ok (.getfield 9, 3) := by decide +kernel
theorem d18_32 : decode kM18 32 = .ok (.iconst 0, 1) := by decide +kernel
theorem d18_33 : decode kM18 33 = .ok (.aload_n 1, 1) := by decide +kernel
theorem d18_34 : decode kM18 34 = .ok (.iload_n 2, 1) := by decide +kernel
theorem d18_35 : decode kM18 35 = .ok (.aload_n 0, 1) := by decide +kernel
theorem d18_36 : decode kM18 36 = .ok (.getfield 9, 3) := by decide +kernel
theorem d18_39 : decode kM18 39 = .ok (.arraylength, 1) := by decide +kernel
theorem d18_40 : decode kM18 40 = .ok (.invokestatic 106, 3) := by decide +kernel
def Q_own_gb10 (Z : State) (s1 : Addr) (cs : List Int32) (t : Addr) (kt : ClassId) (bs : List Int32) (z : Int32) (f : Value) (h0 : Heap) (n0 : Nat) (v : Option Value) (h : Heap) (L : List Loc) : Prop := v = none ∧ Fr n0 L ∧ Keep h0 h [t] ∧ Arv Z h t kt .byte (32 : Int32) (StrChars.Road.wideBytes (bs ++ cs)) (.int (0 : Int32))
set_option maxRecDepth 65536 in
set_option maxHeartbeats 40000000 in
theorem own_gb10 (l : Launch) (Z : State) (a0 : Array Value) (hw : ∀ d ∈ tables_1, d.before a0 Z = true) (s1 : Addr) (cs : List Int32) (t : Addr) (kt : ClassId) (bs : List Int32) (z : Int32) (f : Value) (h0 : Heap) (n0 : Nat) (Z0 : n0 ≤ h0.size) (X00 : Old Z n0 h0) (O2 : Sta Z Z.heap "java/lang/String" "COMPACT_STRINGS" "Z" (.int z)) (P5 : ¬ z = 0) (O3 : StrChars.Road.U3Z Z Z.heap) (O4 : Sta Z Z.heap "jdk/internal/util/Preconditions" "SIOOBE_FORMATTER" "Ljava/util/function/BiFunction;" f) (hf : f.isRef = true) (Hs : own_Lat Z h0 s1 cs) (A : Arv Z h0 t kt .byte (32 : Int32) (StrChars.Road.wideBytes bs) (.int (0 : Int32))) (gt : n0 ≤ t) (h6 : cs.length ≤ 6) (ne : ∀ t1 : Addr, Fld Z h0 s1 "java/lang/String" "value" "[B" (.ref t1) → t1 ≠ t) (hl : bs.length + cs.length ≤ 16) :
    MetFree l yM18 (head1 [Jvm.Cond.code yM18 jdk_42_method_147_code 4 none] rM15) (fun a_ U_ => a_ = #[(.ref s1), (.ref t), (.int (Int32.ofNat bs.length)), (.int 1)] ∧ Z.Warmed39 U_.vm ∧ U_.heap = h0) (fun _ _ _ _ _ => True) (fun _ U_ o_ V_ => ∃ v_ L_, o_ = .returned v_ ∧ Q_own_gb10 Z s1 cs t kt bs z f h0 n0 v_ V_.heap L_ ∧ FrameEnd U_ o_ V_ L_ rM15.cells rM15.slots) := by
  refine MetFree.of_bodySF (plainFor_of_name own_pn0) hisR ?_
  intro p e s m args below meth c s₁ Bd hml0 hP hK
  obtain ⟨rfl, hZ, hh⟩ := hP
  have hx := Bd.exec
  have hby := Bd.bytes
  have dB := @own_d c _ hby
  have hml : c.maxLocals = 4 := hml0
  have hown : s.vm.findClass "java/lang/String" = some m.cls := findClass_of_methodNamed Bd.named
  have hnm := (name_of_methodNamed Bd.named Bd.method).1
  have X0 : Stand p l e rM15 s m #[(.ref s1), (.ref t), (.int (Int32.ofNat bs.length)), (.int 1)] below meth c s₁ [] 0 0 := Stand.of_body Bd
  have e0 : s₁.heap = h0 := by rw [← hh, Bd.state]; rfl
  have N0 := Fr.nil n0
  have KK0 := Keep.refl h0 [t]
  have cc0 : Steps p.tables e below (s₁.setTop (entryFrame m #[(.ref s1), (.ref t), (.int (Int32.ofNat bs.length)), (.int 1)] 4)) (s₁.setTop (mkF m 0 #[sR s1, sR t, sI (Int32.ofNat bs.length), sI 1] [])) := XT.entry rfl
  obtain ⟨S0', hS0'⟩ : ∃ S, S = (s₁.setTop (entryFrame m #[(.ref s1), (.ref t), (.int (Int32.ofNat bs.length)), (.int 1)] 4)) := ⟨_, rfl⟩
  rw [← hS0'] at cc0
  have w_33 := own_w hw 33 rfl
  have w_95 := own_w hw 95 rfl
  have w_183 := own_w hw 183 rfl
  have w_221 := own_w hw 221 rfl
  obtain ⟨Es1, Cs1, ps1, ls1, ts1, ks1, Vs1, As1⟩ := Hs
  have cc21 : oS p e below S0' s₁ (mkF m 1 #[sR s1, sR t, sI (Int32.ofNat bs.length), sI 1] [(.ref s1)]) := Steps.trans cc0 (by
    refine XS.aloadN X0.here hx rfl (dB d18_0) rfl rfl ?_
    exact Steps.refl _)
  obtain ⟨cq22, kq22, qa22, qb22, qc22⟩ := isOf hZ e0 Es1
  obtain ⟨_, _, ⟨T22, L22, k22, n22⟩, -, X22, ⟨Lc22, hQ22, l22, y22, z22⟩, st22⟩ := X0.virtualBack hx (y := yM2) (z := yM2) hown (mvT hZ (own_w hw 92 rfl)) (mvT hZ (own_w hw 93 rfl)) (notFace_of_selects (args := #[]) (mvT hZ w_95)) (mvT hZ w_95) (mvT hZ (own_w hw 94 rfl)) (by decide) (backOf (W := 0) (own_cod0 l Z a0 hw s1 z h0 n0 Z0 X00 O2 P5 Cs1) hZ (own_w hw 96 rfl) (own_w hw 7 rfl) (by decide) (by decide)) qa22 qc22 (g := (mkF m 1 #[sR s1, sR t, sI (Int32.ofNat bs.length), sI 1] [(.ref s1)])) rfl (by rw [hml]; rfl) (Steps.refl _) (argsL := []) (rest := []) (lenOf own_pd11 rfl) rfl (Nat.le_of_eq rfl) (dB d18_1) (fun _ _ => ⟨rfl, e0, Nat.le_of_ble_eq_true rfl, Nat.le_of_ble_eq_true rfl⟩)
  dsimp only [Pt.U, Pt.locs, Pt.cells, Pt.slots] at X22 l22 y22 z22 st22 hQ22
  subst l22 y22 z22
  obtain ⟨rfl, Nq22, eq22⟩ := hQ22
  have N22 := Fr.app N0 Nq22
  have e22 : T22.heap = h0 := eq22
  have cc23 : oS p e below S0' T22 (mkF m 29 #[sR s1, sR t, sI (Int32.ofNat bs.length), sI 1] [(.ref s1)]) := Steps.trans (Steps.trans cc21 st22) (by
    refine XS.iloadN X22.here hx rfl (dB d18_4) rfl ?_
    refine XS.icmpYes X22.here hx rfl (pc0 := 5) rfl (dB d18_5) rfl (ii_ne_t (by decide)) (by decide) rfl ?_
    refine XS.aloadN X22.here hx rfl (dB d18_28) rfl rfl ?_
    exact Steps.refl _)
  obtain ⟨T24, X24, e24, st24⟩ := getF X22 hx hZ hown (host := "") (Or.inl w_33) Via.refl e22 Vs1 (g := (mkF m 29 #[sR s1, sR t, sI (Int32.ofNat bs.length), sI 1] [(.ref s1)])) rfl rfl (dB d18_29)
  have cc25 : oS p e below S0' T24 (mkF m 36 #[sR s1, sR t, sI (Int32.ofNat bs.length), sI 1] [(.ref s1), (.int (Int32.ofNat bs.length)), (.ref t), (.int 0), (.ref ts1)]) := Steps.trans (cc23.trans (st24 _ (Steps.refl _))) (by
    refine iconstV X24.here hx rfl 0 (dB d18_32) (by decide) ?_
    refine XS.aloadN X24.here hx rfl (dB d18_33) rfl rfl ?_
    refine XS.iloadN X24.here hx rfl (dB d18_34) rfl ?_
    refine XS.aloadN X24.here hx rfl (dB d18_35) rfl rfl ?_
    exact Steps.refl _)
  obtain ⟨T26, X26, e26, st26⟩ := getF X24 hx hZ hown (host := "") (Or.inl w_33) Via.refl e24 Vs1 (g := (mkF m 36 #[sR s1, sR t, sI (Int32.ofNat bs.length), sI 1] [(.ref s1), (.int (Int32.ofNat bs.length)), (.ref t), (.int 0), (.ref ts1)])) rfl rfl (dB d18_36)
  have cc27 : oS p e below S0' T26 (mkF m 39 #[sR s1, sR t, sI (Int32.ofNat bs.length), sI 1] [(.ref ts1), (.int (Int32.ofNat bs.length)), (.ref t), (.int 0), (.ref ts1)]) := (cc25.trans (st26 _ (Steps.refl _)))
  obtain ⟨clu28, Aru28, -, Su28, Ngu28, -, -⟩ := id As1
  have cl_u28 := X26.arraylength hx (by rw [e26]; exact Aru28.1) (State.isArrayOf_alike (hZ).alike Aru28.2.1) (g := (mkF m 39 #[sR s1, sR t, sI (Int32.ofNat bs.length), sI 1] [(.ref ts1), (.int (Int32.ofNat bs.length)), (.ref t), (.int 0), (.ref ts1)])) rfl rfl (dB d18_39) _ (Steps.refl _)
  rw [len_of Su28 Ngu28] at cl_u28
  have cc29 : oS p e below S0' T26 (mkF m 40 #[sR s1, sR t, sI (Int32.ofNat bs.length), sI 1] [(.int (Int32.ofNat cs.length)), (.int (Int32.ofNat bs.length)), (.ref t), (.int 0), (.ref ts1)]) := (Steps.trans cc27 cl_u28)
  obtain ⟨_, _, ⟨T30, L30, k30, n30⟩, -, X30, ⟨Lc30, hQ30, l30, y30, z30⟩, st30⟩ := Jvm.LawKit.callS X26 hx (y := yM15) hown (mvT hZ (own_w hw 237 rfl)) (mvT hZ (own_w hw 220 rfl)) (mvT hZ w_183) (mvT hZ w_221) (by decide) (backOf (W := 0) (own_sinf l Z a0 hw ts1 t ks1 kt _ cs bs f h0 n0 Z0 X00 O3 O4 hf As1 (fun i hi => lt32 (by omega) hi) A ps1 hl h6 (ne _ Vs1) gt) hZ w_221 w_183 (by decide) (by decide)) (g := (mkF m 40 #[sR s1, sR t, sI (Int32.ofNat bs.length), sI 1] [(.int (Int32.ofNat cs.length)), (.int (Int32.ofNat bs.length)), (.ref t), (.int 0), (.ref ts1)])) rfl (by rw [hml]; rfl) (argsL := [(.ref ts1), (.int 0), (.ref t), (.int (Int32.ofNat bs.length)), (.int (Int32.ofNat cs.length))]) (rest := []) (lenOf own_pd8 rfl) rfl (Nat.le_of_eq rfl) (dB d18_40) (fun _ _ => ⟨rfl, e26, Nat.le_of_ble_eq_true rfl, Nat.le_of_ble_eq_true rfl⟩)
  dsimp only [Pt.U, Pt.locs, Pt.cells, Pt.slots] at X30 l30 y30 z30 st30 hQ30
  subst l30 y30 z30
  obtain ⟨rfl, Nq30, Kq30, Aq30⟩ := hQ30
  have N30 := Fr.app N22 Nq30
  have KK1 : Keep h0 T30.heap [t] := KK0.trans Kq30 (allS (Or.inl (List.mem_of_getElem? (i := 0) rfl)) all0)
  have Zs1 : n0 ≤ T30.heap.size := Nat.le_trans Z0 Kq30.1
  have e30 : T30.heap = T30.heap := rfl
  have cc31 : oS p e below S0' T30 (mkF m 43 #[sR s1, sR t, sI (Int32.ofNat bs.length), sI 1] []) := (cc29.trans (st30 _ (Steps.refl _)))
  have cE := cc31
  rw [hS0'] at cE
  obtain ⟨fs, hr_, hrun, hended, hW, hsame⟩ := X30.leave (v := none) (fun _ => rfl)
  refine ⟨_, _, cE.trans (X30.returnOut hx Bd.returns (dB d18_43) hr_), hrun, hended, _, _, rfl, ?_, ⟨_, rfl⟩, hW, hsame.mono (by first | decide | omega) (by first | decide | omega)⟩
  show Q_own_gb10 Z s1 cs t kt bs z f h0 n0 _ T30.heap _
  rw [e30]
  exact ⟨rfl, N30, KK1, Aq30⟩
theorem d19_0 : decode kM19 0 = .ok (.aload_n 0, 1) := by decide +kernel
theorem d19_1 : decode kM19 1 = .ok (.aload_n 2, 1) := by decide +kernel
theorem d19_2 : decode kM19 2 = .ok (.invokevirtual 397, 3) := by decide +kernel
theorem d19_5 : decode kM19 5 = .ok (.aload_n 2, 1) := by decide +kernel
theorem d19_6 : decode kM19 6 = .ok (.aload_n 0, 1) := by decide +kernel
theorem d19_7 : decode kM19 7 = .ok (.getfield 15, 3) := by decide +kernel
theorem d19_10 : decode kM19 10 = .ok (.iload_n 1, 1) := by decide +kernel
theorem d19_11 : decode kM19 11 = .ok (.aload_n 0, 1) := by decide +kernel
theorem d19_12 : decode kM19 12 = .ok (.getfield 22, 3) := by decide +kernel
theorem d19_15 : decode kM19 15 = .ok (.invokevirtual 399, 3) := by decide +kernel
theorem d19_18 : decode kM19 18 = .ok (.return_, 1) := by decide +kernel
def Q_own_psa00 (Z : State) (b t : Addr) (kt : ClassId) (bs : List Int32) (s1 : Addr) (cs : List Int32) (z : Int32) (f : Value) (h0 : Heap) (n0 : Nat) (v : Option Value) (h : Heap) (L : List Loc) : Prop := v = none ∧ Fr n0 L ∧ Keep h0 h [t] ∧ Arv Z h t kt .byte (16 : Int32) (own_by (bs ++ cs)) (.int (0 : Int32))
set_option maxRecDepth 65536 in
set_option maxHeartbeats 40000000 in
theorem own_psa00 (l : Launch) (Z : State) (a0 : Array Value) (hw : ∀ d ∈ tables_1, d.before a0 Z = true) (b t : Addr) (kt : ClassId) (bs : List Int32) (s1 : Addr) (cs : List Int32) (z : Int32) (f : Value) (h0 : Heap) (n0 : Nat) (Z0 : n0 ≤ h0.size) (X00 : Old Z n0 h0) (O2 : Sta Z Z.heap "java/lang/String" "COMPACT_STRINGS" "Z" (.int z)) (P5 : ¬ z = 0) (O3 : StrChars.Road.U3Z Z Z.heap) (O4 : Sta Z Z.heap "jdk/internal/util/Preconditions" "SIOOBE_FORMATTER" "Ljava/util/function/BiFunction;" f) (hf : f.isRef = true) (E : Exa Z h0 b "java/lang/StringBuilder") (C : Fld Z h0 b "java/lang/AbstractStringBuilder" "coder" "B" (.int (0 : Int32))) (N : Fld Z h0 b "java/lang/AbstractStringBuilder" "count" "I" (.int (Int32.ofNat bs.length))) (V : Fld Z h0 b "java/lang/AbstractStringBuilder" "value" "[B" (.ref t)) (M : Fld Z h0 b "java/lang/AbstractStringBuilder" "maybeLatin1" "Z" (.int (0 : Int32))) (A : Arv Z h0 t kt .byte (16 : Int32) (own_by bs) (.int (0 : Int32))) (Hs : own_Lat Z h0 s1 cs) (gb : n0 ≤ b) (gt : n0 ≤ t) (hl : bs.length + cs.length ≤ 16) :
    MetFree l yM19 (head1 [Jvm.Cond.code yM19 jdk_68_method_73_code 3 none] rM16) (fun a_ U_ => a_ = #[(.ref b), (.int (Int32.ofNat bs.length)), (.ref s1)] ∧ Z.Warmed39 U_.vm ∧ U_.heap = h0) (fun _ _ _ _ _ => True) (fun _ U_ o_ V_ => ∃ v_ L_, o_ = .returned v_ ∧ Q_own_psa00 Z b t kt bs s1 cs z f h0 n0 v_ V_.heap L_ ∧ FrameEnd U_ o_ V_ L_ rM16.cells rM16.slots) := by
  refine MetFree.of_bodySF (plainFor_of_name own_pn1) hisR ?_
  intro p e s m args below meth c s₁ Bd hml0 hP hK
  obtain ⟨rfl, hZ, hh⟩ := hP
  have hx := Bd.exec
  have hby := Bd.bytes
  have dB := @own_d c _ hby
  have hml : c.maxLocals = 3 := hml0
  have hown : s.vm.findClass "java/lang/AbstractStringBuilder" = some m.cls := findClass_of_methodNamed Bd.named
  have hnm := (name_of_methodNamed Bd.named Bd.method).1
  have X0 : Stand p l e rM16 s m #[(.ref b), (.int (Int32.ofNat bs.length)), (.ref s1)] below meth c s₁ [] 0 0 := Stand.of_body Bd
  have e0 : s₁.heap = h0 := by rw [← hh, Bd.state]; rfl
  have N0 := Fr.nil n0
  have KK0 := Keep.refl h0 [t]
  have cc0 : Steps p.tables e below (s₁.setTop (entryFrame m #[(.ref b), (.int (Int32.ofNat bs.length)), (.ref s1)] 3)) (s₁.setTop (mkF m 0 #[sR b, sI (Int32.ofNat bs.length), sR s1] [])) := XT.entry rfl
  obtain ⟨S0', hS0'⟩ : ∃ S, S = (s₁.setTop (entryFrame m #[(.ref b), (.int (Int32.ofNat bs.length)), (.ref s1)] 3)) := ⟨_, rfl⟩
  rw [← hS0'] at cc0
  have w_110 := own_w hw 110 rfl
  have w_111 := own_w hw 111 rfl
  have w_113 := own_w hw 113 rfl
  have w_118 := own_w hw 118 rfl
  have Hs' := Hs
  obtain ⟨Es1, Cs1, ps1, ls1, ts1, ks1, Vs1, As1⟩ := Hs'
  have cc21 : oS p e below S0' s₁ (mkF m 2 #[sR b, sI (Int32.ofNat bs.length), sR s1] [(.ref s1), (.ref b)]) := Steps.trans cc0 (by
    refine XS.aloadN X0.here hx rfl (dB d19_0) rfl rfl ?_
    refine XS.aloadN X0.here hx rfl (dB d19_1) rfl rfl ?_
    exact Steps.refl _)
  obtain ⟨cq22, q22a, q22b⟩ := E.cell
  obtain ⟨_, _, ⟨T22, L22, k22, n22⟩, -, X22, ⟨Lc22, hQ22, l22, y22, z22⟩, st22⟩ := X0.privateBack hx (y := yM17) hown (mvT hZ (own_w hw 109 rfl)) (mvT hZ w_110) (own_selP hZ (own_w hw 112 rfl) w_111 w_110 (by decide)) (Cond.privateMethod_at (mvP hZ w_111 (args := #[]))) (mvT hZ w_113) (by decide) (backOf (W := 0) (own_ifn00 l Z a0 hw b s1 z h0 n0 Z0 X00 O2 P5 E C Es1 Cs1) hZ w_113 (own_w hw 69 rfl) (by decide) (by decide)) (g := (mkF m 2 #[sR b, sI (Int32.ofNat bs.length), sR s1] [(.ref s1), (.ref b)])) rfl (by rw [hml]; rfl) (Steps.refl _) (a := b) (by rw [e0]; exact q22a) q22b (argsL := [(.ref s1)]) (rest := []) (lenOf own_pd13 rfl) rfl (Nat.le_of_eq rfl) (dB d19_2) (fun _ _ => ⟨rfl, e0, Nat.le_of_ble_eq_true rfl, Nat.le_of_ble_eq_true rfl⟩)
  dsimp only [Pt.U, Pt.locs, Pt.cells, Pt.slots] at X22 l22 y22 z22 st22 hQ22
  subst l22 y22 z22
  obtain ⟨rfl, Nq22, eq22⟩ := hQ22
  have N22 := Fr.app N0 Nq22
  have e22 : T22.heap = h0 := eq22
  have cc23 : oS p e below S0' T22 (mkF m 7 #[sR b, sI (Int32.ofNat bs.length), sR s1] [(.ref b), (.ref s1)]) := Steps.trans (Steps.trans cc21 st22) (by
    refine XS.aloadN X22.here hx rfl (dB d19_5) rfl rfl ?_
    refine XS.aloadN X22.here hx rfl (dB d19_6) rfl rfl ?_
    exact Steps.refl _)
  obtain ⟨T24, X24, e24, st24⟩ := getF X22 hx hZ hown (host := "") (Or.inl (own_w hw 73 rfl)) Via.refl e22 V (g := (mkF m 7 #[sR b, sI (Int32.ofNat bs.length), sR s1] [(.ref b), (.ref s1)])) rfl rfl (dB d19_7)
  have cc25 : oS p e below S0' T24 (mkF m 12 #[sR b, sI (Int32.ofNat bs.length), sR s1] [(.ref b), (.int (Int32.ofNat bs.length)), (.ref t), (.ref s1)]) := Steps.trans (cc23.trans (st24 _ (Steps.refl _))) (by
    refine XS.iloadN X24.here hx rfl (dB d19_10) rfl ?_
    refine XS.aloadN X24.here hx rfl (dB d19_11) rfl rfl ?_
    exact Steps.refl _)
  obtain ⟨T26, X26, e26, st26⟩ := getF X24 hx hZ hown (host := "") (Or.inl (own_w hw 75 rfl)) Via.refl e24 C (g := (mkF m 12 #[sR b, sI (Int32.ofNat bs.length), sR s1] [(.ref b), (.int (Int32.ofNat bs.length)), (.ref t), (.ref s1)])) rfl rfl (dB d19_12)
  have cc27 : oS p e below S0' T26 (mkF m 15 #[sR b, sI (Int32.ofNat bs.length), sR s1] [(.int (0 : Int32)), (.int (Int32.ofNat bs.length)), (.ref t), (.ref s1)]) := (cc25.trans (st26 _ (Steps.refl _)))
  obtain ⟨cq28, kq28, qa28, qb28, qc28⟩ := isOf hZ e26 Es1
  obtain ⟨_, _, ⟨T28, L28, k28, n28⟩, -, X28, ⟨Lc28, hQ28, l28, y28, z28⟩, st28⟩ := X26.virtualBack hx (y := yM18) (z := yM18) hown (mvT hZ (own_w hw 115 rfl)) (mvT hZ (own_w hw 116 rfl)) (notFace_of_selects (args := #[]) (mvT hZ w_118)) (mvT hZ w_118) (mvT hZ (own_w hw 117 rfl)) (by decide) (backOf (W := 0) (own_gb00 l Z a0 hw s1 cs t kt bs z h0 n0 Z0 X00 O2 P5 (⟨Es1, Cs1, ps1, ls1, ts1, ks1, Vs1, As1⟩ : own_Lat Z h0 s1 cs) A gt hl) hZ (own_w hw 119 rfl) (own_w hw 7 rfl) (by decide) (by decide)) qa28 qc28 (g := (mkF m 15 #[sR b, sI (Int32.ofNat bs.length), sR s1] [(.int (0 : Int32)), (.int (Int32.ofNat bs.length)), (.ref t), (.ref s1)])) rfl (by rw [hml]; rfl) (Steps.refl _) (argsL := [(.ref t), (.int (Int32.ofNat bs.length)), (.int (0 : Int32))]) (rest := []) (lenOf own_pd14 rfl) rfl (Nat.le_of_eq rfl) (dB d19_15) (fun _ _ => ⟨rfl, e26, Nat.le_of_ble_eq_true rfl, Nat.le_of_ble_eq_true rfl⟩)
  dsimp only [Pt.U, Pt.locs, Pt.cells, Pt.slots] at X28 l28 y28 z28 st28 hQ28
  subst l28 y28 z28
  obtain ⟨rfl, Nq28, Kq28, Aq28⟩ := hQ28
  have N28 := Fr.app N22 Nq28
  have KK1 : Keep h0 T28.heap [t] := KK0.trans Kq28 (allS (Or.inl (List.mem_of_getElem? (i := 0) rfl)) all0)
  have Zs1 : n0 ≤ T28.heap.size := Nat.le_trans Z0 Kq28.1
  have e28 : T28.heap = T28.heap := rfl
  have cc29 : oS p e below S0' T28 (mkF m 18 #[sR b, sI (Int32.ofNat bs.length), sR s1] []) := (Steps.trans cc27 st28)
  have cE := cc29
  rw [hS0'] at cE
  obtain ⟨fs, hr_, hrun, hended, hW, hsame⟩ := X28.leave (v := none) (fun _ => rfl)
  refine ⟨_, _, cE.trans (X28.returnOut hx Bd.returns (dB d19_18) hr_), hrun, hended, _, _, rfl, ?_, ⟨_, rfl⟩, hW, hsame.mono (by first | decide | omega) (by first | decide | omega)⟩
  show Q_own_psa00 Z b t kt bs s1 cs z f h0 n0 _ T28.heap _
  rw [e28]
  exact ⟨rfl, N28, KK1, Aq28⟩
theorem d20_0 : decode kM20 0 = .ok (.aload_n 1, 1) := by decide +kernel
theorem d20_1 : decode kM20 1 = .ok (.ifnonnull 8, 3) := by decide +kernel
theorem d20_9 : decode kM20 9 = .ok (.aload_n 1, 1) := by decide +kernel
theorem d20_10 : decode kM20 10 = .ok (.invokevirtual 32, 3) := by decide +kernel
theorem d20_13 : decode kM20 13 = .ok (.istore_n 2, 1) := by decide +kernel
theorem d20_14 : decode kM20 14 = .ok (.aload_n 0, 1) := by decide +kernel
theorem d20_15 : decode kM20 15 = .ok (.aload_n 0, 1) := by decide +kernel
theorem d20_16 : decode kM20 16 = .ok (.getfield 79, 3) := by decide +kernel
theorem d20_19 : decode kM20 19 = .ok (.iload_n 2, 1) := by decide +kernel
theorem d20_20 : decode kM20 20 = .ok (.iadd, 1) := by decide +kernel
theorem d20_21 : decode kM20 21 = .ok (.invokevirtual 100, 3) := by decide +kernel
theorem d20_24 : decode kM20 24 = .ok (.aload_n 0, 1) := by decide +kernel
theorem d20_25 : decode kM20 25 = .ok (.aload_n 0, 1) := by decide +kernel
theorem d20_26 : decode kM20 26 = .ok (.getfield 79, 3) := by decide +kernel
theorem d20_29 : decode kM20 29 = .ok (.aload_n 1, 1) := by decide +kernel
theorem d20_30 : decode kM20 30 = .ok (.invokevirtual 208, 3) := by decide +kernel
theorem d20_33 : decode kM20 33 = .ok (.aload_n 0, 1) := by decide +kernel
theorem d20_34 : decode kM20 34 = .ok (.dup, 1) := by decide +kernel
theorem d20_35 : decode kM20 35 = .ok (.getfield 79, 3) := by decide +kernel
theorem d20_38 : decode kM20 38 = .ok (.iload_n 2, 1) := by decide +kernel
theorem d20_39 : decode kM20 39 = .ok (.iadd, 1) := by decide +kernel
theorem d20_40 : decode kM20 40 = .ok (.putfield 79, 3) := by decide +kernel
theorem d20_43 : decode kM20 43 = .ok (.aload_n 0, 1) := by decide +kernel
theorem d20_44 : decode kM20 44 = .ok (.areturn, 1) := by decide +kernel
def Q_own_aap00 (Z : State) (b t : Addr) (kt : ClassId) (bs : List Int32) (s1 : Addr) (cs : List Int32) (z : Int32) (f : Value) (h0 : Heap) (n0 : Nat) (v : Option Value) (h : Heap) (L : List Loc) : Prop := v = some (.ref b) ∧ Fr n0 L ∧ Keep h0 h [b, t] ∧ Fld Z h b "java/lang/AbstractStringBuilder" "coder" "B" (.int (0 : Int32)) ∧ Fld Z h b "java/lang/AbstractStringBuilder" "count" "I" (.int (Int32.ofNat (bs ++ cs).length)) ∧ Fld Z h b "java/lang/AbstractStringBuilder" "value" "[B" (.ref t) ∧ Fld Z h b "java/lang/AbstractStringBuilder" "maybeLatin1" "Z" (.int (0 : Int32)) ∧ Arv Z h t kt .byte (16 : Int32) (own_by (bs ++ cs)) (.int (0 : Int32))
set_option maxRecDepth 65536 in
set_option maxHeartbeats 40000000 in
theorem own_aap00 (l : Launch) (Z : State) (a0 : Array Value) (hw : ∀ d ∈ tables_1, d.before a0 Z = true) (b t : Addr) (kt : ClassId) (bs : List Int32) (s1 : Addr) (cs : List Int32) (z : Int32) (f : Value) (h0 : Heap) (n0 : Nat) (Z0 : n0 ≤ h0.size) (X00 : Old Z n0 h0) (O2 : Sta Z Z.heap "java/lang/String" "COMPACT_STRINGS" "Z" (.int z)) (P5 : ¬ z = 0) (O3 : StrChars.Road.U3Z Z Z.heap) (O4 : Sta Z Z.heap "jdk/internal/util/Preconditions" "SIOOBE_FORMATTER" "Ljava/util/function/BiFunction;" f) (hf : f.isRef = true) (E : Exa Z h0 b "java/lang/StringBuilder") (C : Fld Z h0 b "java/lang/AbstractStringBuilder" "coder" "B" (.int (0 : Int32))) (N : Fld Z h0 b "java/lang/AbstractStringBuilder" "count" "I" (.int (Int32.ofNat bs.length))) (V : Fld Z h0 b "java/lang/AbstractStringBuilder" "value" "[B" (.ref t)) (M : Fld Z h0 b "java/lang/AbstractStringBuilder" "maybeLatin1" "Z" (.int (0 : Int32))) (A : Arv Z h0 t kt .byte (16 : Int32) (own_by bs) (.int (0 : Int32))) (Hs : own_Lat Z h0 s1 cs) (gb : n0 ≤ b) (gt : n0 ≤ t) (hl : bs.length + cs.length ≤ 16) :
    MetFree l yM21 (head1 [Jvm.Cond.code yM21 jdk_68_method_22_code 3 (some (.object "java/lang/AbstractStringBuilder"))] rM17) (fun a_ U_ => a_ = #[(.ref b), (.ref s1)] ∧ Z.Warmed39 U_.vm ∧ U_.heap = h0) (fun _ _ _ _ _ => True) (fun _ U_ o_ V_ => ∃ v_ L_, o_ = .returned v_ ∧ Q_own_aap00 Z b t kt bs s1 cs z f h0 n0 v_ V_.heap L_ ∧ FrameEnd U_ o_ V_ L_ rM17.cells rM17.slots) := by
  refine MetFree.of_bodySF (plainFor_of_name own_pn1) hisR ?_
  intro p e s m args below meth c s₁ Bd hml0 hP hK
  obtain ⟨rfl, hZ, hh⟩ := hP
  have hx := Bd.exec
  have hby := Bd.bytes
  have dB := @own_d c _ hby
  have hml : c.maxLocals = 3 := hml0
  have hown : s.vm.findClass "java/lang/AbstractStringBuilder" = some m.cls := findClass_of_methodNamed Bd.named
  have hnm := (name_of_methodNamed Bd.named Bd.method).1
  have X0 : Stand p l e rM17 s m #[(.ref b), (.ref s1)] below meth c s₁ [] 0 0 := Stand.of_body Bd
  have e0 : s₁.heap = h0 := by rw [← hh, Bd.state]; rfl
  have N0 := Fr.nil n0
  have KK0 := Keep.refl h0 [b, t]
  have cc0 : Steps p.tables e below (s₁.setTop (entryFrame m #[(.ref b), (.ref s1)] 3)) (s₁.setTop (mkF m 0 #[sR b, sR s1, .unset] [])) := XT.entry rfl
  obtain ⟨S0', hS0'⟩ : ∃ S, S = (s₁.setTop (entryFrame m #[(.ref b), (.ref s1)] 3)) := ⟨_, rfl⟩
  rw [← hS0'] at cc0
  have w_60 := own_w hw 60 rfl
  have w_69 := own_w hw 69 rfl
  have w_90 := own_w hw 90 rfl
  have w_97 := own_w hw 97 rfl
  have w_98 := own_w hw 98 rfl
  have w_100 := own_w hw 100 rfl
  have w_101 := own_w hw 101 rfl
  have w_103 := own_w hw 103 rfl
  have w_105 := own_w hw 105 rfl
  have w_106 := own_w hw 106 rfl
  have w_108 := own_w hw 108 rfl
  have hw_wordsLen : ∀ d ∈ StrChars.Road.wordsLen, d.before a0 Z = true := fun d hd => hw d ((by decide +kernel : ∀ d ∈ StrChars.Road.wordsLen, d ∈ tables_1) d hd)
  have Hs' := Hs
  obtain ⟨Es1, Cs1, ps1, ls1, ts1, ks1, Vs1, As1⟩ := Hs'
  have ne_b_t : b ≠ t := own_ne_arv E w_60 A
  have cc21 : oS p e below S0' s₁ (mkF m 10 #[sR b, sR s1, .unset] [(.ref s1)]) := Steps.trans cc0 (by
    refine XS.aloadN X0.here hx rfl (dB d20_0) rfl rfl ?_
    refine XT.ifnonnullYes X0.here hx rfl (pc0 := 1) rfl (dB d20_1) rfl (by decide) rfl ?_
    refine XS.aloadN X0.here hx rfl (dB d20_9) rfl rfl ?_
    exact Steps.refl _)
  obtain ⟨cq22, kq22, qa22, qb22, qc22⟩ := isOf hZ e0 Es1
  obtain ⟨_, _, ⟨T22, L22, k22, n22⟩, -, X22, ⟨Lc22, hQ22, l22, y22, z22⟩, st22⟩ := X0.virtualBack hx (y := yM20) (z := yM20) hown (mvT hZ (own_w hw 87 rfl)) (mvT hZ (own_w hw 88 rfl)) (notFace_of_selects (args := #[]) (mvT hZ w_90)) (mvT hZ w_90) (mvT hZ (own_w hw 89 rfl)) (by decide) (StrChars.Road.lenW (W := 0) hZ hw_wordsLen (kI := 4) (own_w hw 6 rfl) (cs := cs) Es1 Vs1 Cs1 As1 (StrChars.Road.codOf (cs := cs) rfl (fun c hc => (ps1 c hc).2)) (own_up _ ps1) (O2.ext X00.2) P5 ls1 (by decide) (by decide)) qa22 qc22 (g := (mkF m 10 #[sR b, sR s1, .unset] [(.ref s1)])) rfl (by rw [hml]; rfl) (Steps.refl _) (argsL := []) (rest := []) (lenOf own_pd15 rfl) rfl (Nat.le_of_eq rfl) (dB d20_10) (fun _ _ => ⟨rfl, e0, Nat.le_of_ble_eq_true rfl, Nat.le_of_ble_eq_true rfl⟩)
  dsimp only [Pt.U, Pt.locs, Pt.cells, Pt.slots] at X22 l22 y22 z22 st22 hQ22
  subst l22 y22 z22
  obtain ⟨rfl, rfl, eq22⟩ := hQ22
  have N22 := Fr.app N0 (Fr.nil n0)
  have e22 : T22.heap = h0 := eq22
  have cc23 : oS p e below S0' T22 (mkF m 16 #[sR b, sR s1, sI (Int32.ofNat cs.length)] [(.ref b), (.ref b)]) := Steps.trans (Steps.trans cc21 st22) (by
    refine XS.istoreN X22.here hx rfl (dB d20_13) rfl rfl ?_
    refine XS.aloadN X22.here hx rfl (dB d20_14) rfl rfl ?_
    refine XS.aloadN X22.here hx rfl (dB d20_15) rfl rfl ?_
    exact Steps.refl _)
  obtain ⟨T24, X24, e24, st24⟩ := getF X22 hx hZ hown (host := "") (Or.inl w_97) Via.refl e22 N (g := (mkF m 16 #[sR b, sR s1, sI (Int32.ofNat cs.length)] [(.ref b), (.ref b)])) rfl rfl (dB d20_16)
  have cc25 : oS p e below S0' T24 (mkF m 21 #[sR b, sR s1, sI (Int32.ofNat cs.length)] [(.int ((Int32.ofNat bs.length) + (Int32.ofNat cs.length))), (.ref b)]) := Steps.trans (cc23.trans (st24 _ (Steps.refl _))) (by
    refine XS.iloadN X24.here hx rfl (dB d20_19) rfl ?_
    refine XS.iadd X24.here hx rfl (dB d20_20) rfl ?_
    exact Steps.refl _)
  have cz26 : oS p e below S0' T24 (mkF m 21 #[sR b, sR s1, sI (Int32.ofNat cs.length)] [(.int (Int32.ofNat (bs.length + cs.length))), (.ref b)]) := by
    have := cc25
    rw [add32n] at this
    exact this
  obtain ⟨cq27, q27a, q27b⟩ := E.cell
  obtain ⟨_, _, ⟨T27, L27, k27, n27⟩, -, X27, ⟨Lc27, hQ27, l27, y27, z27⟩, st27⟩ := X24.privateBack hx (y := yM6) hown (mvT hZ (own_w hw 99 rfl)) (mvT hZ w_100) (own_selP hZ (own_w hw 102 rfl) w_101 w_100 (by decide)) (Cond.privateMethod_at (mvP hZ w_101 (args := #[]))) (mvT hZ w_103) (by decide) (backOf (W := 0) (own_eci0 l Z a0 hw b t kt bs (bs.length + cs.length) h0 n0 Z0 E C N V M A hl) hZ w_103 w_69 (by decide) (by decide)) (g := (mkF m 21 #[sR b, sR s1, sI (Int32.ofNat cs.length)] [(.int (Int32.ofNat (bs.length + cs.length))), (.ref b)])) rfl (by rw [hml]; rfl) (Steps.refl _) (a := b) (by rw [e24]; exact q27a) q27b (argsL := [(.int (Int32.ofNat (bs.length + cs.length)))]) (rest := []) (lenOf own_pd1 rfl) rfl (Nat.le_of_eq rfl) (dB d20_21) (fun _ _ => ⟨rfl, e24, Nat.le_of_ble_eq_true rfl, Nat.le_of_ble_eq_true rfl⟩)
  dsimp only [Pt.U, Pt.locs, Pt.cells, Pt.slots] at X27 l27 y27 z27 st27 hQ27
  subst l27 y27 z27
  obtain ⟨rfl, Nq27, eq27⟩ := hQ27
  have N27 := Fr.app N22 Nq27
  have e27 : T27.heap = h0 := eq27
  have cc28 : oS p e below S0' T27 (mkF m 26 #[sR b, sR s1, sI (Int32.ofNat cs.length)] [(.ref b), (.ref b)]) := Steps.trans (Steps.trans cz26 st27) (by
    refine XS.aloadN X27.here hx rfl (dB d20_24) rfl rfl ?_
    refine XS.aloadN X27.here hx rfl (dB d20_25) rfl rfl ?_
    exact Steps.refl _)
  obtain ⟨T29, X29, e29, st29⟩ := getF X27 hx hZ hown (host := "") (Or.inl w_97) Via.refl e27 N (g := (mkF m 26 #[sR b, sR s1, sI (Int32.ofNat cs.length)] [(.ref b), (.ref b)])) rfl rfl (dB d20_26)
  have cc30 : oS p e below S0' T29 (mkF m 30 #[sR b, sR s1, sI (Int32.ofNat cs.length)] [(.ref s1), (.int (Int32.ofNat bs.length)), (.ref b)]) := Steps.trans (cc28.trans (st29 _ (Steps.refl _))) (by
    refine XS.aloadN X29.here hx rfl (dB d20_29) rfl rfl ?_
    exact Steps.refl _)
  obtain ⟨cq31, q31a, q31b⟩ := E.cell
  obtain ⟨_, _, ⟨T31, L31, k31, n31⟩, -, X31, ⟨Lc31, hQ31, l31, y31, z31⟩, st31⟩ := X29.privateBack hx (y := yM19) hown (mvT hZ (own_w hw 104 rfl)) (mvT hZ w_105) (own_selP hZ (own_w hw 107 rfl) w_106 w_105 (by decide)) (Cond.privateMethod_at (mvP hZ w_106 (args := #[]))) (mvT hZ w_108) (by decide) (backOf (W := 0) (own_psa00 l Z a0 hw b t kt bs s1 cs z f h0 n0 Z0 X00 O2 P5 O3 O4 hf E C N V M A Hs gb gt hl) hZ w_108 w_69 (by decide) (by decide)) (g := (mkF m 30 #[sR b, sR s1, sI (Int32.ofNat cs.length)] [(.ref s1), (.int (Int32.ofNat bs.length)), (.ref b)])) rfl (by rw [hml]; rfl) (Steps.refl _) (a := b) (by rw [e29]; exact q31a) q31b (argsL := [(.int (Int32.ofNat bs.length)), (.ref s1)]) (rest := []) (lenOf own_pd16 rfl) rfl (Nat.le_of_eq rfl) (dB d20_30) (fun _ _ => ⟨rfl, e29, Nat.le_of_ble_eq_true rfl, Nat.le_of_ble_eq_true rfl⟩)
  dsimp only [Pt.U, Pt.locs, Pt.cells, Pt.slots] at X31 l31 y31 z31 st31 hQ31
  subst l31 y31 z31
  obtain ⟨rfl, Nq31, Kq31, Aq31⟩ := hQ31
  have N31 := Fr.app N27 Nq31
  have KK1 : Keep h0 T31.heap [b, t] := KK0.trans Kq31 (allS (Or.inl (List.mem_of_getElem? (i := 1) rfl)) all0)
  have Zs1 : n0 ≤ T31.heap.size := Nat.le_trans Z0 Kq31.1
  have e31 : T31.heap = T31.heap := rfl
  have cc33 : oS p e below S0' T31 (mkF m 35 #[sR b, sR s1, sI (Int32.ofNat cs.length)] [(.ref b), (.ref b)]) := Steps.trans (Steps.trans cc30 st31) (by
    refine XS.aloadN X31.here hx rfl (dB d20_33) rfl rfl ?_
    refine XS.dup X31.here hx rfl (dB d20_34) rfl rfl ?_
    exact Steps.refl _)
  have fa32 : Fld Z T31.heap b "java/lang/AbstractStringBuilder" "count" "I" (.int (Int32.ofNat bs.length)) := (N.keep Kq31 (ninS ne_b_t nin0))
  obtain ⟨T34, X34, e34, st34⟩ := getF X31 hx hZ hown (host := "") (Or.inl w_97) Via.refl e31 fa32 (g := (mkF m 35 #[sR b, sR s1, sI (Int32.ofNat cs.length)] [(.ref b), (.ref b)])) rfl rfl (dB d20_35)
  have cc35 : oS p e below S0' T34 (mkF m 40 #[sR b, sR s1, sI (Int32.ofNat cs.length)] [(.int ((Int32.ofNat bs.length) + (Int32.ofNat cs.length))), (.ref b)]) := Steps.trans (cc33.trans (st34 _ (Steps.refl _))) (by
    refine XS.iloadN X34.here hx rfl (dB d20_38) rfl ?_
    refine XS.iadd X34.here hx rfl (dB d20_39) rfl ?_
    exact Steps.refl _)
  have cz36 : oS p e below S0' T34 (mkF m 40 #[sR b, sR s1, sI (Int32.ofNat cs.length)] [(.int (Int32.ofNat (bs ++ cs).length)), (.ref b)]) := by
    have := cc35
    rw [add32n, ← List.length_append] at this
    exact this
  have fa37 : Exa Z T31.heap b "java/lang/StringBuilder" := (E.keep Kq31)
  obtain ⟨T38, h38, X38, e38, W38, st38⟩ := putF X34 hx hZ hown (host := "") (Or.inl w_97) Via.refl e34 fa32 fa37 (Or.inl w_98) w_60 (ty := .int) (by decide) rfl rfl (g := (mkF m 40 #[sR b, sR s1, sI (Int32.ofNat cs.length)] [(.int (Int32.ofNat (bs ++ cs).length)), (.ref b)])) rfl rfl (dB d20_40)
  have K38 := Keep.of_wr W38
  have N38 := Fr.snoc X38 N31 gb
  have KK2 : Keep h0 h38 [b, t] := KK1.trans K38 (allS (Or.inl (List.mem_of_getElem? (i := 0) rfl)) all0)
  have Zs2 : n0 ≤ h38.size := Nat.le_trans Zs1 K38.1
  have cc40 : oS p e below S0' T38 (mkF m 44 #[sR b, sR s1, sI (Int32.ofNat cs.length)] [(.ref b)]) := Steps.trans (cz36.trans (st38 _ (Steps.refl _))) (by
    refine XS.aloadN X38.here hx rfl (dB d20_43) rfl rfl ?_
    exact Steps.refl _)
  have fa39 : Fld Z h38 b "java/lang/AbstractStringBuilder" "coder" "B" (.int (0 : Int32)) := ((C.keep Kq31 (ninS ne_b_t nin0)).other W38 (Or.inr (slot_ne (Or.inl (own_w hw 76 rfl)) (Or.inl w_98) (by decide) (t := .byte) (t' := .int) (by decide) (by decide))))
  have fa41 : Fld Z h38 b "java/lang/AbstractStringBuilder" "value" "[B" (.ref t) := ((V.keep Kq31 (ninS ne_b_t nin0)).other W38 (Or.inr (slot_ne (Or.inl (own_w hw 74 rfl)) (Or.inl w_98) (by decide) (t := (.array .byte)) (t' := .int) (by decide) (by decide))))
  have fa42 : Fld Z h38 b "java/lang/AbstractStringBuilder" "maybeLatin1" "Z" (.int (0 : Int32)) := ((M.keep Kq31 (ninS ne_b_t nin0)).other W38 (Or.inr (slot_ne (Or.inl (own_w hw 239 rfl)) (Or.inl w_98) (by decide) (t := .boolean) (t' := .int) (by decide) (by decide))))
  have fa43 : Arv Z h38 t kt .byte (16 : Int32) (own_by (bs ++ cs)) (.int (0 : Int32)) := (Aq31.keep K38 (ninS (Ne.symm ne_b_t) nin0))
  have cE := cc40
  rw [hS0'] at cE
  obtain ⟨fs, hr_, hrun, hended, hW, hsame⟩ := X38.leave (v := some (.ref b)) (fun h => by rw [Bd.returns] at h; cases h)
  refine ⟨_, _, cE.trans (X38.areturnOut hx (rfl) Bd.returns rfl (dB d20_44) hr_), hrun, hended, _, _, rfl, ?_, ⟨_, rfl⟩, hW, hsame.mono (by first | decide | omega) (by first | decide | omega)⟩
  show Q_own_aap00 Z b t kt bs s1 cs z f h0 n0 _ T38.heap _
  rw [e38]
  exact ⟨rfl, N38, KK2, fa39, (Fld.same W38 fa32), fa41, fa42, fa43⟩
theorem d21_0 : decode kM21 0 = .ok (.aload_n 0, 1) := by decide +kernel
theorem d21_1 : decode kM21 1 = .ok (.aload_n 1, 1) := by decide +kernel
theorem d21_2 : decode kM21 2 = .ok (.invokespecial 29, 3) := by decide +kernel
theorem d21_5 : decode kM21 5 = .ok (.pop, 1) := by decide +kernel
theorem d21_6 : decode kM21 6 = .ok (.aload_n 0, 1) := by decide +kernel
theorem d21_7 : decode kM21 7 = .ok (.areturn, 1) := by decide +kernel
def Q_own_app00 (Z : State) (b t : Addr) (kt : ClassId) (bs : List Int32) (s1 : Addr) (cs : List Int32) (z : Int32) (f : Value) (h0 : Heap) (n0 : Nat) (v : Option Value) (h : Heap) (L : List Loc) : Prop := v = some (.ref b) ∧ Fr n0 L ∧ Keep h0 h [b, t] ∧ Fld Z h b "java/lang/AbstractStringBuilder" "coder" "B" (.int (0 : Int32)) ∧ Fld Z h b "java/lang/AbstractStringBuilder" "count" "I" (.int (Int32.ofNat (bs ++ cs).length)) ∧ Fld Z h b "java/lang/AbstractStringBuilder" "value" "[B" (.ref t) ∧ Fld Z h b "java/lang/AbstractStringBuilder" "maybeLatin1" "Z" (.int (0 : Int32)) ∧ Arv Z h t kt .byte (16 : Int32) (own_by (bs ++ cs)) (.int (0 : Int32))
set_option maxRecDepth 65536 in
set_option maxHeartbeats 40000000 in
theorem own_app00 (l : Launch) (Z : State) (a0 : Array Value) (hw : ∀ d ∈ tables_1, d.before a0 Z = true) (b t : Addr) (kt : ClassId) (bs : List Int32) (s1 : Addr) (cs : List Int32) (z : Int32) (f : Value) (h0 : Heap) (n0 : Nat) (Z0 : n0 ≤ h0.size) (X00 : Old Z n0 h0) (O2 : Sta Z Z.heap "java/lang/String" "COMPACT_STRINGS" "Z" (.int z)) (P5 : ¬ z = 0) (O3 : StrChars.Road.U3Z Z Z.heap) (O4 : Sta Z Z.heap "jdk/internal/util/Preconditions" "SIOOBE_FORMATTER" "Ljava/util/function/BiFunction;" f) (hf : f.isRef = true) (E : Exa Z h0 b "java/lang/StringBuilder") (C : Fld Z h0 b "java/lang/AbstractStringBuilder" "coder" "B" (.int (0 : Int32))) (N : Fld Z h0 b "java/lang/AbstractStringBuilder" "count" "I" (.int (Int32.ofNat bs.length))) (V : Fld Z h0 b "java/lang/AbstractStringBuilder" "value" "[B" (.ref t)) (M : Fld Z h0 b "java/lang/AbstractStringBuilder" "maybeLatin1" "Z" (.int (0 : Int32))) (A : Arv Z h0 t kt .byte (16 : Int32) (own_by bs) (.int (0 : Int32))) (Hs : own_Lat Z h0 s1 cs) (gb : n0 ≤ b) (gt : n0 ≤ t) (hl : bs.length + cs.length ≤ 16) :
    MetFree l yM22 (head1 [Jvm.Cond.code yM22 jdk_67_method_7_code 2 (some (.object "java/lang/StringBuilder"))] rM18) (fun a_ U_ => a_ = #[(.ref b), (.ref s1)] ∧ Z.Warmed39 U_.vm ∧ U_.heap = h0) (fun _ _ _ _ _ => True) (fun _ U_ o_ V_ => ∃ v_ L_, o_ = .returned v_ ∧ Q_own_app00 Z b t kt bs s1 cs z f h0 n0 v_ V_.heap L_ ∧ FrameEnd U_ o_ V_ L_ rM18.cells rM18.slots) := by
  refine MetFree.of_bodySF (plainFor_of_name own_pn2) hisR ?_
  intro p e s m args below meth c s₁ Bd hml0 hP hK
  obtain ⟨rfl, hZ, hh⟩ := hP
  have hx := Bd.exec
  have hby := Bd.bytes
  have dB := @own_d c _ hby
  have hml : c.maxLocals = 2 := hml0
  have hown : s.vm.findClass "java/lang/StringBuilder" = some m.cls := findClass_of_methodNamed Bd.named
  have hnm := (name_of_methodNamed Bd.named Bd.method).1
  have X0 : Stand p l e rM18 s m #[(.ref b), (.ref s1)] below meth c s₁ [] 0 0 := Stand.of_body Bd
  have e0 : s₁.heap = h0 := by rw [← hh, Bd.state]; rfl
  have N0 := Fr.nil n0
  have KK0 := Keep.refl h0 [b, t]
  have cc0 : Steps p.tables e below (s₁.setTop (entryFrame m #[(.ref b), (.ref s1)] 2)) (s₁.setTop (mkF m 0 #[sR b, sR s1] [])) := XT.entry rfl
  obtain ⟨S0', hS0'⟩ : ∃ S, S = (s₁.setTop (entryFrame m #[(.ref b), (.ref s1)] 2)) := ⟨_, rfl⟩
  rw [← hS0'] at cc0
  have w_83 := own_w hw 83 rfl
  have w_86 := own_w hw 86 rfl
  have cc21 : oS p e below S0' s₁ (mkF m 2 #[sR b, sR s1] [(.ref s1), (.ref b)]) := Steps.trans cc0 (by
    refine XS.aloadN X0.here hx rfl (dB d21_0) rfl rfl ?_
    refine XS.aloadN X0.here hx rfl (dB d21_1) rfl rfl ?_
    exact Steps.refl _)
  obtain ⟨_, _, ⟨T22, L22, k22, n22⟩, -, X22, ⟨Lc22, hQ22, l22, y22, z22⟩, st22⟩ := superBack X0 hx hZ (y := yM21) hown (own_w hw 82 rfl) (own_sameM w_83 (own_w hw 102 rfl) rfl (by decide)) w_83 (own_w hw 84 rfl) (by decide) (backOf (W := 0) (own_aap00 l Z a0 hw b t kt bs s1 cs z f h0 n0 Z0 X00 O2 P5 O3 O4 hf E C N V M A Hs gb gt hl) hZ w_86 (own_w hw 69 rfl) (by decide) (by decide)) e0 (Ins.self E) (g := (mkF m 2 #[sR b, sR s1] [(.ref s1), (.ref b)])) rfl (by rw [hml]; rfl) w_86 (argsL := [(.ref s1)]) (rest := []) (lenOf own_pd17 rfl) rfl (Nat.le_of_eq rfl) (dB d21_2) (fun _ _ => ⟨rfl, e0, Nat.le_of_ble_eq_true rfl, Nat.le_of_ble_eq_true rfl⟩)
  dsimp only [Pt.U, Pt.locs, Pt.cells, Pt.slots] at X22 l22 y22 z22 st22 hQ22
  subst l22 y22 z22
  obtain ⟨rfl, Nq22, Kq22, f122, f222, f322, f422, f522⟩ := hQ22
  have N22 := Fr.app N0 Nq22
  have KK1 : Keep h0 T22.heap [b, t] := KK0.trans Kq22 (allS (Or.inl (List.mem_of_getElem? (i := 0) rfl)) (allS (Or.inl (List.mem_of_getElem? (i := 1) rfl)) all0))
  have Zs1 : n0 ≤ T22.heap.size := Nat.le_trans Z0 Kq22.1
  have e22 : T22.heap = T22.heap := rfl
  have cc23 : oS p e below S0' T22 (mkF m 7 #[sR b, sR s1] [(.ref b)]) := Steps.trans (Steps.trans cc21 st22) (by
    refine XT.pop X22.here hx rfl (dB d21_5) rfl rfl ?_
    refine XS.aloadN X22.here hx rfl (dB d21_6) rfl rfl ?_
    exact Steps.refl _)
  have cE := cc23
  rw [hS0'] at cE
  obtain ⟨fs, hr_, hrun, hended, hW, hsame⟩ := X22.leave (v := some (.ref b)) (fun h => by rw [Bd.returns] at h; cases h)
  refine ⟨_, _, cE.trans (X22.areturnOut hx (rfl) Bd.returns rfl (dB d21_7) hr_), hrun, hended, _, _, rfl, ?_, ⟨_, rfl⟩, hW, hsame.mono (by first | decide | omega) (by first | decide | omega)⟩
  show Q_own_app00 Z b t kt bs s1 cs z f h0 n0 _ T22.heap _
  rw [e22]
  exact ⟨rfl, N22, KK1, f122, f222, f322, f422, f522⟩
def Q_own_psa01 (Z : State) (b t : Addr) (kt : ClassId) (bs : List Int32) (s1 : Addr) (cs : List Int32) (z : Int32) (f : Value) (h0 : Heap) (n0 : Nat) (v : Option Value) (h : Heap) (L : List Loc) : Prop := ∃ (t' : Addr) (kt' : ClassId), v = none ∧ Fr n0 L ∧ Keep h0 h [b] ∧ h0.size ≤ t' ∧ Fld Z h b "java/lang/AbstractStringBuilder" "coder" "B" (.int (1 : Int32)) ∧ Fld Z h b "java/lang/AbstractStringBuilder" "count" "I" (.int (Int32.ofNat bs.length)) ∧ Fld Z h b "java/lang/AbstractStringBuilder" "value" "[B" (.ref t') ∧ Fld Z h b "java/lang/AbstractStringBuilder" "maybeLatin1" "Z" (.int (0 : Int32)) ∧ Arv Z h t' kt' .byte (32 : Int32) (StrChars.Road.wideBytes (bs ++ cs)) (.int (0 : Int32))
set_option maxRecDepth 65536 in
set_option maxHeartbeats 40000000 in
theorem own_psa01 (l : Launch) (Z : State) (a0 : Array Value) (hw : ∀ d ∈ tables_1, d.before a0 Z = true) (b t : Addr) (kt : ClassId) (bs : List Int32) (s1 : Addr) (cs : List Int32) (z : Int32) (f : Value) (h0 : Heap) (n0 : Nat) (Z0 : n0 ≤ h0.size) (X00 : Old Z n0 h0) (O2 : Sta Z Z.heap "java/lang/String" "COMPACT_STRINGS" "Z" (.int z)) (P5 : ¬ z = 0) (O3 : StrChars.Road.U3Z Z Z.heap) (O4 : Sta Z Z.heap "jdk/internal/util/Preconditions" "SIOOBE_FORMATTER" "Ljava/util/function/BiFunction;" f) (hf : f.isRef = true) (E : Exa Z h0 b "java/lang/StringBuilder") (C : Fld Z h0 b "java/lang/AbstractStringBuilder" "coder" "B" (.int (0 : Int32))) (N : Fld Z h0 b "java/lang/AbstractStringBuilder" "count" "I" (.int (Int32.ofNat bs.length))) (V : Fld Z h0 b "java/lang/AbstractStringBuilder" "value" "[B" (.ref t)) (M : Fld Z h0 b "java/lang/AbstractStringBuilder" "maybeLatin1" "Z" (.int (0 : Int32))) (A : Arv Z h0 t kt .byte (16 : Int32) (own_by bs) (.int (0 : Int32))) (Hs : own_Wid Z h0 s1 cs) (gb : n0 ≤ b) (gt : n0 ≤ t) (hl : bs.length + cs.length ≤ 16) (hp : ∀ c ∈ bs, ¬ c < 0 ∧ ¬ (255 : Int32) < c) (hb6 : bs.length ≤ 6) :
    MetFree l yM19 (head1 [Jvm.Cond.code yM19 jdk_68_method_73_code 3 none] rM19) (fun a_ U_ => a_ = #[(.ref b), (.int (Int32.ofNat bs.length)), (.ref s1)] ∧ Z.Warmed39 U_.vm ∧ U_.heap = h0) (fun _ _ _ _ _ => True) (fun _ U_ o_ V_ => ∃ v_ L_, o_ = .returned v_ ∧ Q_own_psa01 Z b t kt bs s1 cs z f h0 n0 v_ V_.heap L_ ∧ FrameEnd U_ o_ V_ L_ rM19.cells rM19.slots) := by
  refine MetFree.of_bodySF (plainFor_of_name own_pn1) hisR ?_
  intro p e s m args below meth c s₁ Bd hml0 hP hK
  obtain ⟨rfl, hZ, hh⟩ := hP
  have hx := Bd.exec
  have hby := Bd.bytes
  have dB := @own_d c _ hby
  have hml : c.maxLocals = 3 := hml0
  have hown : s.vm.findClass "java/lang/AbstractStringBuilder" = some m.cls := findClass_of_methodNamed Bd.named
  have hnm := (name_of_methodNamed Bd.named Bd.method).1
  have X0 : Stand p l e rM19 s m #[(.ref b), (.int (Int32.ofNat bs.length)), (.ref s1)] below meth c s₁ [] 0 0 := Stand.of_body Bd
  have e0 : s₁.heap = h0 := by rw [← hh, Bd.state]; rfl
  have N0 := Fr.nil n0
  have KK0 := Keep.refl h0 [b]
  have cc0 : Steps p.tables e below (s₁.setTop (entryFrame m #[(.ref b), (.int (Int32.ofNat bs.length)), (.ref s1)] 3)) (s₁.setTop (mkF m 0 #[sR b, sI (Int32.ofNat bs.length), sR s1] [])) := XT.entry rfl
  obtain ⟨S0', hS0'⟩ : ∃ S, S = (s₁.setTop (entryFrame m #[(.ref b), (.int (Int32.ofNat bs.length)), (.ref s1)] 3)) := ⟨_, rfl⟩
  rw [← hS0'] at cc0
  have w_110 := own_w hw 110 rfl
  have w_111 := own_w hw 111 rfl
  have w_113 := own_w hw 113 rfl
  have w_118 := own_w hw 118 rfl
  have Hs' := Hs
  obtain ⟨Es1, Cs1, ps1, ls1, ws1, ts1, ks1, Vs1, As1⟩ := Hs'
  have ne_s1_b : s1 ≠ b := ne_exa Es1 E (by decide)
  have ne_ts1_b : ts1 ≠ b := Ne.symm (own_ne_arv E (own_w hw 60 rfl) As1)
  have cc21 : oS p e below S0' s₁ (mkF m 2 #[sR b, sI (Int32.ofNat bs.length), sR s1] [(.ref s1), (.ref b)]) := Steps.trans cc0 (by
    refine XS.aloadN X0.here hx rfl (dB d19_0) rfl rfl ?_
    refine XS.aloadN X0.here hx rfl (dB d19_1) rfl rfl ?_
    exact Steps.refl _)
  obtain ⟨cq22, q22a, q22b⟩ := E.cell
  obtain ⟨_, _, ⟨T22, L22, k22, n22⟩, -, X22, ⟨Lc22, hQ22, l22, y22, z22⟩, st22⟩ := X0.privateBack hx (y := yM17) hown (mvT hZ (own_w hw 109 rfl)) (mvT hZ w_110) (own_selP hZ (own_w hw 112 rfl) w_111 w_110 (by decide)) (Cond.privateMethod_at (mvP hZ w_111 (args := #[]))) (mvT hZ w_113) (by decide) (backOf (W := 0) (own_ifn01 l Z a0 hw b t kt bs s1 z f h0 n0 Z0 X00 O2 P5 O3 O4 hf E C N V M A Es1 Cs1 hp hb6 gb) hZ w_113 (own_w hw 69 rfl) (by decide) (by decide)) (g := (mkF m 2 #[sR b, sI (Int32.ofNat bs.length), sR s1] [(.ref s1), (.ref b)])) rfl (by rw [hml]; rfl) (Steps.refl _) (a := b) (by rw [e0]; exact q22a) q22b (argsL := [(.ref s1)]) (rest := []) (lenOf own_pd13 rfl) rfl (Nat.le_of_eq rfl) (dB d19_2) (fun _ _ => ⟨rfl, e0, Nat.le_of_ble_eq_true rfl, Nat.le_of_ble_eq_true rfl⟩)
  dsimp only [Pt.U, Pt.locs, Pt.cells, Pt.slots] at X22 l22 y22 z22 st22 hQ22
  subst l22 y22 z22
  obtain ⟨t', kt', rfl, Nq22, Kq22, sq22, f122, f222, f322, f422, f522⟩ := hQ22
  have N22 := Fr.app N0 Nq22
  have b_t' : h0.size ≤ t' := sq22
  have gn_t' : n0 ≤ t' := Nat.le_trans Z0 b_t'
  have s0_t' : h0.size ≤ t' := Nat.le_trans KK0.1 b_t'
  have ne_b_t' : b ≠ t' := Nat.ne_of_lt (Nat.lt_of_lt_of_le E.lt b_t')
  have ne_t_t' : t ≠ t' := Nat.ne_of_lt (Nat.lt_of_lt_of_le A.lt b_t')
  have ne_s1_t' : s1 ≠ t' := Nat.ne_of_lt (Nat.lt_of_lt_of_le Es1.lt b_t')
  have ne_ts1_t' : ts1 ≠ t' := Nat.ne_of_lt (Nat.lt_of_lt_of_le As1.lt b_t')
  have KK1 : Keep h0 T22.heap [b] := KK0.trans Kq22 (allS (Or.inl (List.mem_of_getElem? (i := 0) rfl)) all0)
  have Zs1 : n0 ≤ T22.heap.size := Nat.le_trans Z0 Kq22.1
  have e22 : T22.heap = T22.heap := rfl
  have cc24 : oS p e below S0' T22 (mkF m 5 #[sR b, sI (Int32.ofNat bs.length), sR s1] []) := (Steps.trans cc21 st22)
  have fa23 : Exa Z T22.heap b "java/lang/StringBuilder" := (E.keep Kq22)
  have cc25 : oS p e below S0' T22 (mkF m 7 #[sR b, sI (Int32.ofNat bs.length), sR s1] [(.ref b), (.ref s1)]) := Steps.trans cc24 (by
    refine XS.aloadN X22.here hx rfl (dB d19_5) rfl rfl ?_
    refine XS.aloadN X22.here hx rfl (dB d19_6) rfl rfl ?_
    exact Steps.refl _)
  obtain ⟨T26, X26, e26, st26⟩ := getF X22 hx hZ hown (host := "") (Or.inl (own_w hw 73 rfl)) Via.refl e22 f322 (g := (mkF m 7 #[sR b, sI (Int32.ofNat bs.length), sR s1] [(.ref b), (.ref s1)])) rfl rfl (dB d19_7)
  have cc27 : oS p e below S0' T26 (mkF m 12 #[sR b, sI (Int32.ofNat bs.length), sR s1] [(.ref b), (.int (Int32.ofNat bs.length)), (.ref t'), (.ref s1)]) := Steps.trans (cc25.trans (st26 _ (Steps.refl _))) (by
    refine XS.iloadN X26.here hx rfl (dB d19_10) rfl ?_
    refine XS.aloadN X26.here hx rfl (dB d19_11) rfl rfl ?_
    exact Steps.refl _)
  obtain ⟨T28, X28, e28, st28⟩ := getF X26 hx hZ hown (host := "") (Or.inl (own_w hw 75 rfl)) Via.refl e26 f122 (g := (mkF m 12 #[sR b, sI (Int32.ofNat bs.length), sR s1] [(.ref b), (.int (Int32.ofNat bs.length)), (.ref t'), (.ref s1)])) rfl rfl (dB d19_12)
  have cc30 : oS p e below S0' T28 (mkF m 15 #[sR b, sI (Int32.ofNat bs.length), sR s1] [(.int (1 : Int32)), (.int (Int32.ofNat bs.length)), (.ref t'), (.ref s1)]) := (cc27.trans (st28 _ (Steps.refl _)))
  have fa29 : Old Z n0 T22.heap := (X00.keep Kq22 (allS gb all0))
  have fa31 : Exa Z T22.heap s1 "java/lang/String" := (Es1.keep Kq22)
  have fa32 : Fld Z T22.heap s1 "java/lang/String" "coder" "B" (.int (1 : Int32)) := (Cs1.keep Kq22 (ninS ne_s1_b nin0))
  have fa33 : Fld Z T22.heap s1 "java/lang/String" "value" "[B" (.ref ts1) := (Vs1.keep Kq22 (ninS ne_s1_b nin0))
  have fa34 : Arv Z T22.heap ts1 ks1 .byte (Int32.ofNat (2 * cs.length)) (StrChars.Road.wideBytes cs) (.int (0 : Int32)) := (As1.keep Kq22 (ninS ne_ts1_b nin0))
  obtain ⟨cq35, kq35, qa35, qb35, qc35⟩ := isOf hZ e28 fa31
  obtain ⟨_, _, ⟨T35, L35, k35, n35⟩, -, X35, ⟨Lc35, hQ35, l35, y35, z35⟩, st35⟩ := X28.virtualBack hx (y := yM18) (z := yM18) hown (mvT hZ (own_w hw 115 rfl)) (mvT hZ (own_w hw 116 rfl)) (notFace_of_selects (args := #[]) (mvT hZ w_118)) (mvT hZ w_118) (mvT hZ (own_w hw 117 rfl)) (by decide) (backOf (W := 0) (own_gb11 l Z a0 hw s1 cs t' kt' bs z T22.heap n0 Zs1 fa29 O2 P5 (⟨fa31, fa32, ps1, ls1, ws1, ts1, ks1, fa33, fa34⟩ : own_Wid Z T22.heap s1 cs) f522 gn_t' hl) hZ (own_w hw 119 rfl) (own_w hw 7 rfl) (by decide) (by decide)) qa35 qc35 (g := (mkF m 15 #[sR b, sI (Int32.ofNat bs.length), sR s1] [(.int (1 : Int32)), (.int (Int32.ofNat bs.length)), (.ref t'), (.ref s1)])) rfl (by rw [hml]; rfl) (Steps.refl _) (argsL := [(.ref t'), (.int (Int32.ofNat bs.length)), (.int (1 : Int32))]) (rest := []) (lenOf own_pd14 rfl) rfl (Nat.le_of_eq rfl) (dB d19_15) (fun _ _ => ⟨rfl, e28, Nat.le_of_ble_eq_true rfl, Nat.le_of_ble_eq_true rfl⟩)
  dsimp only [Pt.U, Pt.locs, Pt.cells, Pt.slots] at X35 l35 y35 z35 st35 hQ35
  subst l35 y35 z35
  obtain ⟨rfl, Nq35, Kq35, Aq35⟩ := hQ35
  have N35 := Fr.app N22 Nq35
  have KK2 : Keep h0 T35.heap [b] := KK1.trans Kq35 (allS (Or.inr s0_t') all0)
  have Zs2 : n0 ≤ T35.heap.size := Nat.le_trans Zs1 Kq35.1
  have e35 : T35.heap = T35.heap := rfl
  have cc37 : oS p e below S0' T35 (mkF m 18 #[sR b, sI (Int32.ofNat bs.length), sR s1] []) := (Steps.trans cc30 st35)
  have fa36 : Fld Z T35.heap b "java/lang/AbstractStringBuilder" "coder" "B" (.int (1 : Int32)) := (f122.keep Kq35 (ninS ne_b_t' nin0))
  have fa38 : Fld Z T35.heap b "java/lang/AbstractStringBuilder" "count" "I" (.int (Int32.ofNat bs.length)) := (f222.keep Kq35 (ninS ne_b_t' nin0))
  have fa39 : Fld Z T35.heap b "java/lang/AbstractStringBuilder" "value" "[B" (.ref t') := (f322.keep Kq35 (ninS ne_b_t' nin0))
  have fa40 : Fld Z T35.heap b "java/lang/AbstractStringBuilder" "maybeLatin1" "Z" (.int (0 : Int32)) := (f422.keep Kq35 (ninS ne_b_t' nin0))
  have cE := cc37
  rw [hS0'] at cE
  obtain ⟨fs, hr_, hrun, hended, hW, hsame⟩ := X35.leave (v := none) (fun _ => rfl)
  refine ⟨_, _, cE.trans (X35.returnOut hx Bd.returns (dB d19_18) hr_), hrun, hended, _, _, rfl, ?_, ⟨_, rfl⟩, hW, hsame.mono (by first | decide | omega) (by first | decide | omega)⟩
  show Q_own_psa01 Z b t kt bs s1 cs z f h0 n0 _ T35.heap _
  rw [e35]
  exact ⟨t', kt', rfl, N35, KK2, s0_t', fa36, fa38, fa39, fa40, Aq35⟩
def Q_own_aap01 (Z : State) (b t : Addr) (kt : ClassId) (bs : List Int32) (s1 : Addr) (cs : List Int32) (z : Int32) (f : Value) (h0 : Heap) (n0 : Nat) (v : Option Value) (h : Heap) (L : List Loc) : Prop := ∃ (t' : Addr) (kt' : ClassId), v = some (.ref b) ∧ Fr n0 L ∧ Keep h0 h [b] ∧ h0.size ≤ t' ∧ Fld Z h b "java/lang/AbstractStringBuilder" "coder" "B" (.int (1 : Int32)) ∧ Fld Z h b "java/lang/AbstractStringBuilder" "count" "I" (.int (Int32.ofNat (bs ++ cs).length)) ∧ Fld Z h b "java/lang/AbstractStringBuilder" "value" "[B" (.ref t') ∧ Fld Z h b "java/lang/AbstractStringBuilder" "maybeLatin1" "Z" (.int (0 : Int32)) ∧ Arv Z h t' kt' .byte (32 : Int32) (StrChars.Road.wideBytes (bs ++ cs)) (.int (0 : Int32))
set_option maxRecDepth 65536 in
set_option maxHeartbeats 40000000 in
theorem own_aap01 (l : Launch) (Z : State) (a0 : Array Value) (hw : ∀ d ∈ tables_1, d.before a0 Z = true) (b t : Addr) (kt : ClassId) (bs : List Int32) (s1 : Addr) (cs : List Int32) (z : Int32) (f : Value) (h0 : Heap) (n0 : Nat) (Z0 : n0 ≤ h0.size) (X00 : Old Z n0 h0) (O2 : Sta Z Z.heap "java/lang/String" "COMPACT_STRINGS" "Z" (.int z)) (P5 : ¬ z = 0) (O3 : StrChars.Road.U3Z Z Z.heap) (O4 : Sta Z Z.heap "jdk/internal/util/Preconditions" "SIOOBE_FORMATTER" "Ljava/util/function/BiFunction;" f) (hf : f.isRef = true) (E : Exa Z h0 b "java/lang/StringBuilder") (C : Fld Z h0 b "java/lang/AbstractStringBuilder" "coder" "B" (.int (0 : Int32))) (N : Fld Z h0 b "java/lang/AbstractStringBuilder" "count" "I" (.int (Int32.ofNat bs.length))) (V : Fld Z h0 b "java/lang/AbstractStringBuilder" "value" "[B" (.ref t)) (M : Fld Z h0 b "java/lang/AbstractStringBuilder" "maybeLatin1" "Z" (.int (0 : Int32))) (A : Arv Z h0 t kt .byte (16 : Int32) (own_by bs) (.int (0 : Int32))) (Hs : own_Wid Z h0 s1 cs) (gb : n0 ≤ b) (gt : n0 ≤ t) (hl : bs.length + cs.length ≤ 16) (hp : ∀ c ∈ bs, ¬ c < 0 ∧ ¬ (255 : Int32) < c) (hb6 : bs.length ≤ 6) :
    MetFree l yM21 (head1 [Jvm.Cond.code yM21 jdk_68_method_22_code 3 (some (.object "java/lang/AbstractStringBuilder"))] rM20) (fun a_ U_ => a_ = #[(.ref b), (.ref s1)] ∧ Z.Warmed39 U_.vm ∧ U_.heap = h0) (fun _ _ _ _ _ => True) (fun _ U_ o_ V_ => ∃ v_ L_, o_ = .returned v_ ∧ Q_own_aap01 Z b t kt bs s1 cs z f h0 n0 v_ V_.heap L_ ∧ FrameEnd U_ o_ V_ L_ rM20.cells rM20.slots) := by
  refine MetFree.of_bodySF (plainFor_of_name own_pn1) hisR ?_
  intro p e s m args below meth c s₁ Bd hml0 hP hK
  obtain ⟨rfl, hZ, hh⟩ := hP
  have hx := Bd.exec
  have hby := Bd.bytes
  have dB := @own_d c _ hby
  have hml : c.maxLocals = 3 := hml0
  have hown : s.vm.findClass "java/lang/AbstractStringBuilder" = some m.cls := findClass_of_methodNamed Bd.named
  have hnm := (name_of_methodNamed Bd.named Bd.method).1
  have X0 : Stand p l e rM20 s m #[(.ref b), (.ref s1)] below meth c s₁ [] 0 0 := Stand.of_body Bd
  have e0 : s₁.heap = h0 := by rw [← hh, Bd.state]; rfl
  have N0 := Fr.nil n0
  have KK0 := Keep.refl h0 [b]
  have cc0 : Steps p.tables e below (s₁.setTop (entryFrame m #[(.ref b), (.ref s1)] 3)) (s₁.setTop (mkF m 0 #[sR b, sR s1, .unset] [])) := XT.entry rfl
  obtain ⟨S0', hS0'⟩ : ∃ S, S = (s₁.setTop (entryFrame m #[(.ref b), (.ref s1)] 3)) := ⟨_, rfl⟩
  rw [← hS0'] at cc0
  have w_60 := own_w hw 60 rfl
  have w_69 := own_w hw 69 rfl
  have w_90 := own_w hw 90 rfl
  have w_97 := own_w hw 97 rfl
  have w_98 := own_w hw 98 rfl
  have w_100 := own_w hw 100 rfl
  have w_101 := own_w hw 101 rfl
  have w_103 := own_w hw 103 rfl
  have w_105 := own_w hw 105 rfl
  have w_106 := own_w hw 106 rfl
  have w_108 := own_w hw 108 rfl
  have hw_wordsLen : ∀ d ∈ StrChars.Road.wordsLen, d.before a0 Z = true := fun d hd => hw d ((by decide +kernel : ∀ d ∈ StrChars.Road.wordsLen, d ∈ tables_1) d hd)
  have Hs' := Hs
  obtain ⟨Es1, Cs1, ps1, ls1, ws1, ts1, ks1, Vs1, As1⟩ := Hs'
  have ne_b_t : b ≠ t := own_ne_arv E w_60 A
  have cc21 : oS p e below S0' s₁ (mkF m 10 #[sR b, sR s1, .unset] [(.ref s1)]) := Steps.trans cc0 (by
    refine XS.aloadN X0.here hx rfl (dB d20_0) rfl rfl ?_
    refine XT.ifnonnullYes X0.here hx rfl (pc0 := 1) rfl (dB d20_1) rfl (by decide) rfl ?_
    refine XS.aloadN X0.here hx rfl (dB d20_9) rfl rfl ?_
    exact Steps.refl _)
  obtain ⟨cq22, kq22, qa22, qb22, qc22⟩ := isOf hZ e0 Es1
  obtain ⟨_, _, ⟨T22, L22, k22, n22⟩, -, X22, ⟨Lc22, hQ22, l22, y22, z22⟩, st22⟩ := X0.virtualBack hx (y := yM20) (z := yM20) hown (mvT hZ (own_w hw 87 rfl)) (mvT hZ (own_w hw 88 rfl)) (notFace_of_selects (args := #[]) (mvT hZ w_90)) (mvT hZ w_90) (mvT hZ (own_w hw 89 rfl)) (by decide) (StrChars.Road.lenW (W := 0) hZ hw_wordsLen (kI := 4) (own_w hw 6 rfl) (cs := cs) Es1 Vs1 Cs1 As1 (Or.inr ⟨rfl, rfl, rfl, ws1⟩) ps1 (O2.ext X00.2) P5 ls1 (by decide) (by decide)) qa22 qc22 (g := (mkF m 10 #[sR b, sR s1, .unset] [(.ref s1)])) rfl (by rw [hml]; rfl) (Steps.refl _) (argsL := []) (rest := []) (lenOf own_pd15 rfl) rfl (Nat.le_of_eq rfl) (dB d20_10) (fun _ _ => ⟨rfl, e0, Nat.le_of_ble_eq_true rfl, Nat.le_of_ble_eq_true rfl⟩)
  dsimp only [Pt.U, Pt.locs, Pt.cells, Pt.slots] at X22 l22 y22 z22 st22 hQ22
  subst l22 y22 z22
  obtain ⟨rfl, rfl, eq22⟩ := hQ22
  have N22 := Fr.app N0 (Fr.nil n0)
  have e22 : T22.heap = h0 := eq22
  have cc23 : oS p e below S0' T22 (mkF m 16 #[sR b, sR s1, sI (Int32.ofNat cs.length)] [(.ref b), (.ref b)]) := Steps.trans (Steps.trans cc21 st22) (by
    refine XS.istoreN X22.here hx rfl (dB d20_13) rfl rfl ?_
    refine XS.aloadN X22.here hx rfl (dB d20_14) rfl rfl ?_
    refine XS.aloadN X22.here hx rfl (dB d20_15) rfl rfl ?_
    exact Steps.refl _)
  obtain ⟨T24, X24, e24, st24⟩ := getF X22 hx hZ hown (host := "") (Or.inl w_97) Via.refl e22 N (g := (mkF m 16 #[sR b, sR s1, sI (Int32.ofNat cs.length)] [(.ref b), (.ref b)])) rfl rfl (dB d20_16)
  have cc25 : oS p e below S0' T24 (mkF m 21 #[sR b, sR s1, sI (Int32.ofNat cs.length)] [(.int ((Int32.ofNat bs.length) + (Int32.ofNat cs.length))), (.ref b)]) := Steps.trans (cc23.trans (st24 _ (Steps.refl _))) (by
    refine XS.iloadN X24.here hx rfl (dB d20_19) rfl ?_
    refine XS.iadd X24.here hx rfl (dB d20_20) rfl ?_
    exact Steps.refl _)
  have cz26 : oS p e below S0' T24 (mkF m 21 #[sR b, sR s1, sI (Int32.ofNat cs.length)] [(.int (Int32.ofNat (bs.length + cs.length))), (.ref b)]) := by
    have := cc25
    rw [add32n] at this
    exact this
  obtain ⟨cq27, q27a, q27b⟩ := E.cell
  obtain ⟨_, _, ⟨T27, L27, k27, n27⟩, -, X27, ⟨Lc27, hQ27, l27, y27, z27⟩, st27⟩ := X24.privateBack hx (y := yM6) hown (mvT hZ (own_w hw 99 rfl)) (mvT hZ w_100) (own_selP hZ (own_w hw 102 rfl) w_101 w_100 (by decide)) (Cond.privateMethod_at (mvP hZ w_101 (args := #[]))) (mvT hZ w_103) (by decide) (backOf (W := 0) (own_eci0 l Z a0 hw b t kt bs (bs.length + cs.length) h0 n0 Z0 E C N V M A hl) hZ w_103 w_69 (by decide) (by decide)) (g := (mkF m 21 #[sR b, sR s1, sI (Int32.ofNat cs.length)] [(.int (Int32.ofNat (bs.length + cs.length))), (.ref b)])) rfl (by rw [hml]; rfl) (Steps.refl _) (a := b) (by rw [e24]; exact q27a) q27b (argsL := [(.int (Int32.ofNat (bs.length + cs.length)))]) (rest := []) (lenOf own_pd1 rfl) rfl (Nat.le_of_eq rfl) (dB d20_21) (fun _ _ => ⟨rfl, e24, Nat.le_of_ble_eq_true rfl, Nat.le_of_ble_eq_true rfl⟩)
  dsimp only [Pt.U, Pt.locs, Pt.cells, Pt.slots] at X27 l27 y27 z27 st27 hQ27
  subst l27 y27 z27
  obtain ⟨rfl, Nq27, eq27⟩ := hQ27
  have N27 := Fr.app N22 Nq27
  have e27 : T27.heap = h0 := eq27
  have cc28 : oS p e below S0' T27 (mkF m 26 #[sR b, sR s1, sI (Int32.ofNat cs.length)] [(.ref b), (.ref b)]) := Steps.trans (Steps.trans cz26 st27) (by
    refine XS.aloadN X27.here hx rfl (dB d20_24) rfl rfl ?_
    refine XS.aloadN X27.here hx rfl (dB d20_25) rfl rfl ?_
    exact Steps.refl _)
  obtain ⟨T29, X29, e29, st29⟩ := getF X27 hx hZ hown (host := "") (Or.inl w_97) Via.refl e27 N (g := (mkF m 26 #[sR b, sR s1, sI (Int32.ofNat cs.length)] [(.ref b), (.ref b)])) rfl rfl (dB d20_26)
  have cc30 : oS p e below S0' T29 (mkF m 30 #[sR b, sR s1, sI (Int32.ofNat cs.length)] [(.ref s1), (.int (Int32.ofNat bs.length)), (.ref b)]) := Steps.trans (cc28.trans (st29 _ (Steps.refl _))) (by
    refine XS.aloadN X29.here hx rfl (dB d20_29) rfl rfl ?_
    exact Steps.refl _)
  obtain ⟨cq31, q31a, q31b⟩ := E.cell
  obtain ⟨_, _, ⟨T31, L31, k31, n31⟩, -, X31, ⟨Lc31, hQ31, l31, y31, z31⟩, st31⟩ := X29.privateBack hx (y := yM19) hown (mvT hZ (own_w hw 104 rfl)) (mvT hZ w_105) (own_selP hZ (own_w hw 107 rfl) w_106 w_105 (by decide)) (Cond.privateMethod_at (mvP hZ w_106 (args := #[]))) (mvT hZ w_108) (by decide) (backOf (W := 0) (own_psa01 l Z a0 hw b t kt bs s1 cs z f h0 n0 Z0 X00 O2 P5 O3 O4 hf E C N V M A Hs gb gt hl hp hb6) hZ w_108 w_69 (by decide) (by decide)) (g := (mkF m 30 #[sR b, sR s1, sI (Int32.ofNat cs.length)] [(.ref s1), (.int (Int32.ofNat bs.length)), (.ref b)])) rfl (by rw [hml]; rfl) (Steps.refl _) (a := b) (by rw [e29]; exact q31a) q31b (argsL := [(.int (Int32.ofNat bs.length)), (.ref s1)]) (rest := []) (lenOf own_pd16 rfl) rfl (Nat.le_of_eq rfl) (dB d20_30) (fun _ _ => ⟨rfl, e29, Nat.le_of_ble_eq_true rfl, Nat.le_of_ble_eq_true rfl⟩)
  dsimp only [Pt.U, Pt.locs, Pt.cells, Pt.slots] at X31 l31 y31 z31 st31 hQ31
  subst l31 y31 z31
  obtain ⟨t', kt', rfl, Nq31, Kq31, sq31, f131, f231, f331, f431, f531⟩ := hQ31
  have N31 := Fr.app N27 Nq31
  have b_t' : h0.size ≤ t' := sq31
  have gn_t' : n0 ≤ t' := Nat.le_trans Z0 b_t'
  have s0_t' : h0.size ≤ t' := Nat.le_trans KK0.1 b_t'
  have ne_b_t' : b ≠ t' := Nat.ne_of_lt (Nat.lt_of_lt_of_le E.lt b_t')
  have ne_t_t' : t ≠ t' := Nat.ne_of_lt (Nat.lt_of_lt_of_le A.lt b_t')
  have ne_s1_t' : s1 ≠ t' := Nat.ne_of_lt (Nat.lt_of_lt_of_le Es1.lt b_t')
  have ne_ts1_t' : ts1 ≠ t' := Nat.ne_of_lt (Nat.lt_of_lt_of_le As1.lt b_t')
  have KK1 : Keep h0 T31.heap [b] := KK0.trans Kq31 (allS (Or.inl (List.mem_of_getElem? (i := 0) rfl)) all0)
  have Zs1 : n0 ≤ T31.heap.size := Nat.le_trans Z0 Kq31.1
  have e31 : T31.heap = T31.heap := rfl
  have cc33 : oS p e below S0' T31 (mkF m 33 #[sR b, sR s1, sI (Int32.ofNat cs.length)] []) := (Steps.trans cc30 st31)
  have fa32 : Exa Z T31.heap b "java/lang/StringBuilder" := (E.keep Kq31)
  have cc34 : oS p e below S0' T31 (mkF m 35 #[sR b, sR s1, sI (Int32.ofNat cs.length)] [(.ref b), (.ref b)]) := Steps.trans cc33 (by
    refine XS.aloadN X31.here hx rfl (dB d20_33) rfl rfl ?_
    refine XS.dup X31.here hx rfl (dB d20_34) rfl rfl ?_
    exact Steps.refl _)
  obtain ⟨T35, X35, e35, st35⟩ := getF X31 hx hZ hown (host := "") (Or.inl w_97) Via.refl e31 f231 (g := (mkF m 35 #[sR b, sR s1, sI (Int32.ofNat cs.length)] [(.ref b), (.ref b)])) rfl rfl (dB d20_35)
  have cc36 : oS p e below S0' T35 (mkF m 40 #[sR b, sR s1, sI (Int32.ofNat cs.length)] [(.int ((Int32.ofNat bs.length) + (Int32.ofNat cs.length))), (.ref b)]) := Steps.trans (cc34.trans (st35 _ (Steps.refl _))) (by
    refine XS.iloadN X35.here hx rfl (dB d20_38) rfl ?_
    refine XS.iadd X35.here hx rfl (dB d20_39) rfl ?_
    exact Steps.refl _)
  have cz37 : oS p e below S0' T35 (mkF m 40 #[sR b, sR s1, sI (Int32.ofNat cs.length)] [(.int (Int32.ofNat (bs ++ cs).length)), (.ref b)]) := by
    have := cc36
    rw [add32n, ← List.length_append] at this
    exact this
  obtain ⟨T38, h38, X38, e38, W38, st38⟩ := putF X35 hx hZ hown (host := "") (Or.inl w_97) Via.refl e35 f231 fa32 (Or.inl w_98) w_60 (ty := .int) (by decide) rfl rfl (g := (mkF m 40 #[sR b, sR s1, sI (Int32.ofNat cs.length)] [(.int (Int32.ofNat (bs ++ cs).length)), (.ref b)])) rfl rfl (dB d20_40)
  have K38 := Keep.of_wr W38
  have N38 := Fr.snoc X38 N31 gb
  have KK2 : Keep h0 h38 [b] := KK1.trans K38 (allS (Or.inl (List.mem_of_getElem? (i := 0) rfl)) all0)
  have Zs2 : n0 ≤ h38.size := Nat.le_trans Zs1 K38.1
  have cc40 : oS p e below S0' T38 (mkF m 44 #[sR b, sR s1, sI (Int32.ofNat cs.length)] [(.ref b)]) := Steps.trans (cz37.trans (st38 _ (Steps.refl _))) (by
    refine XS.aloadN X38.here hx rfl (dB d20_43) rfl rfl ?_
    exact Steps.refl _)
  have fa39 : Fld Z h38 b "java/lang/AbstractStringBuilder" "coder" "B" (.int (1 : Int32)) := (f131.other W38 (Or.inr (slot_ne (Or.inl (own_w hw 76 rfl)) (Or.inl w_98) (by decide) (t := .byte) (t' := .int) (by decide) (by decide))))
  have fa41 : Fld Z h38 b "java/lang/AbstractStringBuilder" "value" "[B" (.ref t') := (f331.other W38 (Or.inr (slot_ne (Or.inl (own_w hw 74 rfl)) (Or.inl w_98) (by decide) (t := (.array .byte)) (t' := .int) (by decide) (by decide))))
  have fa42 : Fld Z h38 b "java/lang/AbstractStringBuilder" "maybeLatin1" "Z" (.int (0 : Int32)) := (f431.other W38 (Or.inr (slot_ne (Or.inl (own_w hw 239 rfl)) (Or.inl w_98) (by decide) (t := .boolean) (t' := .int) (by decide) (by decide))))
  have fa43 : Arv Z h38 t' kt' .byte (32 : Int32) (StrChars.Road.wideBytes (bs ++ cs)) (.int (0 : Int32)) := (f531.keep K38 (ninS (Ne.symm ne_b_t') nin0))
  have cE := cc40
  rw [hS0'] at cE
  obtain ⟨fs, hr_, hrun, hended, hW, hsame⟩ := X38.leave (v := some (.ref b)) (fun h => by rw [Bd.returns] at h; cases h)
  refine ⟨_, _, cE.trans (X38.areturnOut hx (rfl) Bd.returns rfl (dB d20_44) hr_), hrun, hended, _, _, rfl, ?_, ⟨_, rfl⟩, hW, hsame.mono (by first | decide | omega) (by first | decide | omega)⟩
  show Q_own_aap01 Z b t kt bs s1 cs z f h0 n0 _ T38.heap _
  rw [e38]
  exact ⟨t', kt', rfl, N38, KK2, s0_t', fa39, (Fld.same W38 f231), fa41, fa42, fa43⟩
def Q_own_app01 (Z : State) (b t : Addr) (kt : ClassId) (bs : List Int32) (s1 : Addr) (cs : List Int32) (z : Int32) (f : Value) (h0 : Heap) (n0 : Nat) (v : Option Value) (h : Heap) (L : List Loc) : Prop := ∃ (t' : Addr) (kt' : ClassId), v = some (.ref b) ∧ Fr n0 L ∧ Keep h0 h [b] ∧ h0.size ≤ t' ∧ Fld Z h b "java/lang/AbstractStringBuilder" "coder" "B" (.int (1 : Int32)) ∧ Fld Z h b "java/lang/AbstractStringBuilder" "count" "I" (.int (Int32.ofNat (bs ++ cs).length)) ∧ Fld Z h b "java/lang/AbstractStringBuilder" "value" "[B" (.ref t') ∧ Fld Z h b "java/lang/AbstractStringBuilder" "maybeLatin1" "Z" (.int (0 : Int32)) ∧ Arv Z h t' kt' .byte (32 : Int32) (StrChars.Road.wideBytes (bs ++ cs)) (.int (0 : Int32))
set_option maxRecDepth 65536 in
set_option maxHeartbeats 40000000 in
theorem own_app01 (l : Launch) (Z : State) (a0 : Array Value) (hw : ∀ d ∈ tables_1, d.before a0 Z = true) (b t : Addr) (kt : ClassId) (bs : List Int32) (s1 : Addr) (cs : List Int32) (z : Int32) (f : Value) (h0 : Heap) (n0 : Nat) (Z0 : n0 ≤ h0.size) (X00 : Old Z n0 h0) (O2 : Sta Z Z.heap "java/lang/String" "COMPACT_STRINGS" "Z" (.int z)) (P5 : ¬ z = 0) (O3 : StrChars.Road.U3Z Z Z.heap) (O4 : Sta Z Z.heap "jdk/internal/util/Preconditions" "SIOOBE_FORMATTER" "Ljava/util/function/BiFunction;" f) (hf : f.isRef = true) (E : Exa Z h0 b "java/lang/StringBuilder") (C : Fld Z h0 b "java/lang/AbstractStringBuilder" "coder" "B" (.int (0 : Int32))) (N : Fld Z h0 b "java/lang/AbstractStringBuilder" "count" "I" (.int (Int32.ofNat bs.length))) (V : Fld Z h0 b "java/lang/AbstractStringBuilder" "value" "[B" (.ref t)) (M : Fld Z h0 b "java/lang/AbstractStringBuilder" "maybeLatin1" "Z" (.int (0 : Int32))) (A : Arv Z h0 t kt .byte (16 : Int32) (own_by bs) (.int (0 : Int32))) (Hs : own_Wid Z h0 s1 cs) (gb : n0 ≤ b) (gt : n0 ≤ t) (hl : bs.length + cs.length ≤ 16) (hp : ∀ c ∈ bs, ¬ c < 0 ∧ ¬ (255 : Int32) < c) (hb6 : bs.length ≤ 6) :
    MetFree l yM22 (head1 [Jvm.Cond.code yM22 jdk_67_method_7_code 2 (some (.object "java/lang/StringBuilder"))] rM21) (fun a_ U_ => a_ = #[(.ref b), (.ref s1)] ∧ Z.Warmed39 U_.vm ∧ U_.heap = h0) (fun _ _ _ _ _ => True) (fun _ U_ o_ V_ => ∃ v_ L_, o_ = .returned v_ ∧ Q_own_app01 Z b t kt bs s1 cs z f h0 n0 v_ V_.heap L_ ∧ FrameEnd U_ o_ V_ L_ rM21.cells rM21.slots) := by
  refine MetFree.of_bodySF (plainFor_of_name own_pn2) hisR ?_
  intro p e s m args below meth c s₁ Bd hml0 hP hK
  obtain ⟨rfl, hZ, hh⟩ := hP
  have hx := Bd.exec
  have hby := Bd.bytes
  have dB := @own_d c _ hby
  have hml : c.maxLocals = 2 := hml0
  have hown : s.vm.findClass "java/lang/StringBuilder" = some m.cls := findClass_of_methodNamed Bd.named
  have hnm := (name_of_methodNamed Bd.named Bd.method).1
  have X0 : Stand p l e rM21 s m #[(.ref b), (.ref s1)] below meth c s₁ [] 0 0 := Stand.of_body Bd
  have e0 : s₁.heap = h0 := by rw [← hh, Bd.state]; rfl
  have N0 := Fr.nil n0
  have KK0 := Keep.refl h0 [b]
  have cc0 : Steps p.tables e below (s₁.setTop (entryFrame m #[(.ref b), (.ref s1)] 2)) (s₁.setTop (mkF m 0 #[sR b, sR s1] [])) := XT.entry rfl
  obtain ⟨S0', hS0'⟩ : ∃ S, S = (s₁.setTop (entryFrame m #[(.ref b), (.ref s1)] 2)) := ⟨_, rfl⟩
  rw [← hS0'] at cc0
  have w_83 := own_w hw 83 rfl
  have w_86 := own_w hw 86 rfl
  have cc21 : oS p e below S0' s₁ (mkF m 2 #[sR b, sR s1] [(.ref s1), (.ref b)]) := Steps.trans cc0 (by
    refine XS.aloadN X0.here hx rfl (dB d21_0) rfl rfl ?_
    refine XS.aloadN X0.here hx rfl (dB d21_1) rfl rfl ?_
    exact Steps.refl _)
  obtain ⟨_, _, ⟨T22, L22, k22, n22⟩, -, X22, ⟨Lc22, hQ22, l22, y22, z22⟩, st22⟩ := superBack X0 hx hZ (y := yM21) hown (own_w hw 82 rfl) (own_sameM w_83 (own_w hw 102 rfl) rfl (by decide)) w_83 (own_w hw 84 rfl) (by decide) (backOf (W := 0) (own_aap01 l Z a0 hw b t kt bs s1 cs z f h0 n0 Z0 X00 O2 P5 O3 O4 hf E C N V M A Hs gb gt hl hp hb6) hZ w_86 (own_w hw 69 rfl) (by decide) (by decide)) e0 (Ins.self E) (g := (mkF m 2 #[sR b, sR s1] [(.ref s1), (.ref b)])) rfl (by rw [hml]; rfl) w_86 (argsL := [(.ref s1)]) (rest := []) (lenOf own_pd17 rfl) rfl (Nat.le_of_eq rfl) (dB d21_2) (fun _ _ => ⟨rfl, e0, Nat.le_of_ble_eq_true rfl, Nat.le_of_ble_eq_true rfl⟩)
  dsimp only [Pt.U, Pt.locs, Pt.cells, Pt.slots] at X22 l22 y22 z22 st22 hQ22
  subst l22 y22 z22
  obtain ⟨t', kt', rfl, Nq22, Kq22, sq22, f122, f222, f322, f422, f522⟩ := hQ22
  have N22 := Fr.app N0 Nq22
  have KK1 : Keep h0 T22.heap [b] := KK0.trans Kq22 (allS (Or.inl (List.mem_of_getElem? (i := 0) rfl)) all0)
  have Zs1 : n0 ≤ T22.heap.size := Nat.le_trans Z0 Kq22.1
  have e22 : T22.heap = T22.heap := rfl
  have cc23 : oS p e below S0' T22 (mkF m 7 #[sR b, sR s1] [(.ref b)]) := Steps.trans (Steps.trans cc21 st22) (by
    refine XT.pop X22.here hx rfl (dB d21_5) rfl rfl ?_
    refine XS.aloadN X22.here hx rfl (dB d21_6) rfl rfl ?_
    exact Steps.refl _)
  have cE := cc23
  rw [hS0'] at cE
  obtain ⟨fs, hr_, hrun, hended, hW, hsame⟩ := X22.leave (v := some (.ref b)) (fun h => by rw [Bd.returns] at h; cases h)
  refine ⟨_, _, cE.trans (X22.areturnOut hx (rfl) Bd.returns rfl (dB d21_7) hr_), hrun, hended, _, _, rfl, ?_, ⟨_, rfl⟩, hW, hsame.mono (by first | decide | omega) (by first | decide | omega)⟩
  show Q_own_app01 Z b t kt bs s1 cs z f h0 n0 _ T22.heap _
  rw [e22]
  exact ⟨t', kt', rfl, N22, KK1, sq22, f122, f222, f322, f422, f522⟩
def Q_own_psa10 (Z : State) (b t : Addr) (kt : ClassId) (bs : List Int32) (s1 : Addr) (cs : List Int32) (z : Int32) (f : Value) (h0 : Heap) (n0 : Nat) (v : Option Value) (h : Heap) (L : List Loc) : Prop := v = none ∧ Fr n0 L ∧ Keep h0 h [t] ∧ Arv Z h t kt .byte (32 : Int32) (StrChars.Road.wideBytes (bs ++ cs)) (.int (0 : Int32))
set_option maxRecDepth 65536 in
set_option maxHeartbeats 40000000 in
theorem own_psa10 (l : Launch) (Z : State) (a0 : Array Value) (hw : ∀ d ∈ tables_1, d.before a0 Z = true) (b t : Addr) (kt : ClassId) (bs : List Int32) (s1 : Addr) (cs : List Int32) (z : Int32) (f : Value) (h0 : Heap) (n0 : Nat) (Z0 : n0 ≤ h0.size) (X00 : Old Z n0 h0) (O2 : Sta Z Z.heap "java/lang/String" "COMPACT_STRINGS" "Z" (.int z)) (P5 : ¬ z = 0) (O3 : StrChars.Road.U3Z Z Z.heap) (O4 : Sta Z Z.heap "jdk/internal/util/Preconditions" "SIOOBE_FORMATTER" "Ljava/util/function/BiFunction;" f) (hf : f.isRef = true) (E : Exa Z h0 b "java/lang/StringBuilder") (C : Fld Z h0 b "java/lang/AbstractStringBuilder" "coder" "B" (.int (1 : Int32))) (N : Fld Z h0 b "java/lang/AbstractStringBuilder" "count" "I" (.int (Int32.ofNat bs.length))) (V : Fld Z h0 b "java/lang/AbstractStringBuilder" "value" "[B" (.ref t)) (M : Fld Z h0 b "java/lang/AbstractStringBuilder" "maybeLatin1" "Z" (.int (0 : Int32))) (A : Arv Z h0 t kt .byte (32 : Int32) (StrChars.Road.wideBytes bs) (.int (0 : Int32))) (Hs : own_Lat Z h0 s1 cs) (gb : n0 ≤ b) (gt : n0 ≤ t) (hl : bs.length + cs.length ≤ 16) (h6 : cs.length ≤ 6) (ne : ∀ t1 : Addr, Fld Z h0 s1 "java/lang/String" "value" "[B" (.ref t1) → t1 ≠ t) :
    MetFree l yM19 (head1 [Jvm.Cond.code yM19 jdk_68_method_73_code 3 none] rM16) (fun a_ U_ => a_ = #[(.ref b), (.int (Int32.ofNat bs.length)), (.ref s1)] ∧ Z.Warmed39 U_.vm ∧ U_.heap = h0) (fun _ _ _ _ _ => True) (fun _ U_ o_ V_ => ∃ v_ L_, o_ = .returned v_ ∧ Q_own_psa10 Z b t kt bs s1 cs z f h0 n0 v_ V_.heap L_ ∧ FrameEnd U_ o_ V_ L_ rM16.cells rM16.slots) := by
  refine MetFree.of_bodySF (plainFor_of_name own_pn1) hisR ?_
  intro p e s m args below meth c s₁ Bd hml0 hP hK
  obtain ⟨rfl, hZ, hh⟩ := hP
  have hx := Bd.exec
  have hby := Bd.bytes
  have dB := @own_d c _ hby
  have hml : c.maxLocals = 3 := hml0
  have hown : s.vm.findClass "java/lang/AbstractStringBuilder" = some m.cls := findClass_of_methodNamed Bd.named
  have hnm := (name_of_methodNamed Bd.named Bd.method).1
  have X0 : Stand p l e rM16 s m #[(.ref b), (.int (Int32.ofNat bs.length)), (.ref s1)] below meth c s₁ [] 0 0 := Stand.of_body Bd
  have e0 : s₁.heap = h0 := by rw [← hh, Bd.state]; rfl
  have N0 := Fr.nil n0
  have KK0 := Keep.refl h0 [t]
  have cc0 : Steps p.tables e below (s₁.setTop (entryFrame m #[(.ref b), (.int (Int32.ofNat bs.length)), (.ref s1)] 3)) (s₁.setTop (mkF m 0 #[sR b, sI (Int32.ofNat bs.length), sR s1] [])) := XT.entry rfl
  obtain ⟨S0', hS0'⟩ : ∃ S, S = (s₁.setTop (entryFrame m #[(.ref b), (.int (Int32.ofNat bs.length)), (.ref s1)] 3)) := ⟨_, rfl⟩
  rw [← hS0'] at cc0
  have w_110 := own_w hw 110 rfl
  have w_111 := own_w hw 111 rfl
  have w_113 := own_w hw 113 rfl
  have w_118 := own_w hw 118 rfl
  have Hs' := Hs
  obtain ⟨Es1, Cs1, ps1, ls1, ts1, ks1, Vs1, As1⟩ := Hs'
  have cc21 : oS p e below S0' s₁ (mkF m 2 #[sR b, sI (Int32.ofNat bs.length), sR s1] [(.ref s1), (.ref b)]) := Steps.trans cc0 (by
    refine XS.aloadN X0.here hx rfl (dB d19_0) rfl rfl ?_
    refine XS.aloadN X0.here hx rfl (dB d19_1) rfl rfl ?_
    exact Steps.refl _)
  obtain ⟨cq22, q22a, q22b⟩ := E.cell
  obtain ⟨_, _, ⟨T22, L22, k22, n22⟩, -, X22, ⟨Lc22, hQ22, l22, y22, z22⟩, st22⟩ := X0.privateBack hx (y := yM17) hown (mvT hZ (own_w hw 109 rfl)) (mvT hZ w_110) (own_selP hZ (own_w hw 112 rfl) w_111 w_110 (by decide)) (Cond.privateMethod_at (mvP hZ w_111 (args := #[]))) (mvT hZ w_113) (by decide) (backOf (W := 0) (own_ifn10 l Z a0 hw b s1 z h0 n0 Z0 X00 O2 P5 E C Es1 Cs1) hZ w_113 (own_w hw 69 rfl) (by decide) (by decide)) (g := (mkF m 2 #[sR b, sI (Int32.ofNat bs.length), sR s1] [(.ref s1), (.ref b)])) rfl (by rw [hml]; rfl) (Steps.refl _) (a := b) (by rw [e0]; exact q22a) q22b (argsL := [(.ref s1)]) (rest := []) (lenOf own_pd13 rfl) rfl (Nat.le_of_eq rfl) (dB d19_2) (fun _ _ => ⟨rfl, e0, Nat.le_of_ble_eq_true rfl, Nat.le_of_ble_eq_true rfl⟩)
  dsimp only [Pt.U, Pt.locs, Pt.cells, Pt.slots] at X22 l22 y22 z22 st22 hQ22
  subst l22 y22 z22
  obtain ⟨rfl, Nq22, eq22⟩ := hQ22
  have N22 := Fr.app N0 Nq22
  have e22 : T22.heap = h0 := eq22
  have cc23 : oS p e below S0' T22 (mkF m 7 #[sR b, sI (Int32.ofNat bs.length), sR s1] [(.ref b), (.ref s1)]) := Steps.trans (Steps.trans cc21 st22) (by
    refine XS.aloadN X22.here hx rfl (dB d19_5) rfl rfl ?_
    refine XS.aloadN X22.here hx rfl (dB d19_6) rfl rfl ?_
    exact Steps.refl _)
  obtain ⟨T24, X24, e24, st24⟩ := getF X22 hx hZ hown (host := "") (Or.inl (own_w hw 73 rfl)) Via.refl e22 V (g := (mkF m 7 #[sR b, sI (Int32.ofNat bs.length), sR s1] [(.ref b), (.ref s1)])) rfl rfl (dB d19_7)
  have cc25 : oS p e below S0' T24 (mkF m 12 #[sR b, sI (Int32.ofNat bs.length), sR s1] [(.ref b), (.int (Int32.ofNat bs.length)), (.ref t), (.ref s1)]) := Steps.trans (cc23.trans (st24 _ (Steps.refl _))) (by
    refine XS.iloadN X24.here hx rfl (dB d19_10) rfl ?_
    refine XS.aloadN X24.here hx rfl (dB d19_11) rfl rfl ?_
    exact Steps.refl _)
  obtain ⟨T26, X26, e26, st26⟩ := getF X24 hx hZ hown (host := "") (Or.inl (own_w hw 75 rfl)) Via.refl e24 C (g := (mkF m 12 #[sR b, sI (Int32.ofNat bs.length), sR s1] [(.ref b), (.int (Int32.ofNat bs.length)), (.ref t), (.ref s1)])) rfl rfl (dB d19_12)
  have cc27 : oS p e below S0' T26 (mkF m 15 #[sR b, sI (Int32.ofNat bs.length), sR s1] [(.int (1 : Int32)), (.int (Int32.ofNat bs.length)), (.ref t), (.ref s1)]) := (cc25.trans (st26 _ (Steps.refl _)))
  obtain ⟨cq28, kq28, qa28, qb28, qc28⟩ := isOf hZ e26 Es1
  obtain ⟨_, _, ⟨T28, L28, k28, n28⟩, -, X28, ⟨Lc28, hQ28, l28, y28, z28⟩, st28⟩ := X26.virtualBack hx (y := yM18) (z := yM18) hown (mvT hZ (own_w hw 115 rfl)) (mvT hZ (own_w hw 116 rfl)) (notFace_of_selects (args := #[]) (mvT hZ w_118)) (mvT hZ w_118) (mvT hZ (own_w hw 117 rfl)) (by decide) (backOf (W := 0) (own_gb10 l Z a0 hw s1 cs t kt bs z f h0 n0 Z0 X00 O2 P5 O3 O4 hf Hs A gt h6 ne hl) hZ (own_w hw 119 rfl) (own_w hw 7 rfl) (by decide) (by decide)) qa28 qc28 (g := (mkF m 15 #[sR b, sI (Int32.ofNat bs.length), sR s1] [(.int (1 : Int32)), (.int (Int32.ofNat bs.length)), (.ref t), (.ref s1)])) rfl (by rw [hml]; rfl) (Steps.refl _) (argsL := [(.ref t), (.int (Int32.ofNat bs.length)), (.int (1 : Int32))]) (rest := []) (lenOf own_pd14 rfl) rfl (Nat.le_of_eq rfl) (dB d19_15) (fun _ _ => ⟨rfl, e26, Nat.le_of_ble_eq_true rfl, Nat.le_of_ble_eq_true rfl⟩)
  dsimp only [Pt.U, Pt.locs, Pt.cells, Pt.slots] at X28 l28 y28 z28 st28 hQ28
  subst l28 y28 z28
  obtain ⟨rfl, Nq28, Kq28, Aq28⟩ := hQ28
  have N28 := Fr.app N22 Nq28
  have KK1 : Keep h0 T28.heap [t] := KK0.trans Kq28 (allS (Or.inl (List.mem_of_getElem? (i := 0) rfl)) all0)
  have Zs1 : n0 ≤ T28.heap.size := Nat.le_trans Z0 Kq28.1
  have e28 : T28.heap = T28.heap := rfl
  have cc29 : oS p e below S0' T28 (mkF m 18 #[sR b, sI (Int32.ofNat bs.length), sR s1] []) := (Steps.trans cc27 st28)
  have cE := cc29
  rw [hS0'] at cE
  obtain ⟨fs, hr_, hrun, hended, hW, hsame⟩ := X28.leave (v := none) (fun _ => rfl)
  refine ⟨_, _, cE.trans (X28.returnOut hx Bd.returns (dB d19_18) hr_), hrun, hended, _, _, rfl, ?_, ⟨_, rfl⟩, hW, hsame.mono (by first | decide | omega) (by first | decide | omega)⟩
  show Q_own_psa10 Z b t kt bs s1 cs z f h0 n0 _ T28.heap _
  rw [e28]
  exact ⟨rfl, N28, KK1, Aq28⟩
def Q_own_aap10 (Z : State) (b t : Addr) (kt : ClassId) (bs : List Int32) (s1 : Addr) (cs : List Int32) (z : Int32) (f : Value) (h0 : Heap) (n0 : Nat) (v : Option Value) (h : Heap) (L : List Loc) : Prop := v = some (.ref b) ∧ Fr n0 L ∧ Keep h0 h [b, t] ∧ Fld Z h b "java/lang/AbstractStringBuilder" "coder" "B" (.int (1 : Int32)) ∧ Fld Z h b "java/lang/AbstractStringBuilder" "count" "I" (.int (Int32.ofNat (bs ++ cs).length)) ∧ Fld Z h b "java/lang/AbstractStringBuilder" "value" "[B" (.ref t) ∧ Fld Z h b "java/lang/AbstractStringBuilder" "maybeLatin1" "Z" (.int (0 : Int32)) ∧ Arv Z h t kt .byte (32 : Int32) (StrChars.Road.wideBytes (bs ++ cs)) (.int (0 : Int32))
set_option maxRecDepth 65536 in
set_option maxHeartbeats 40000000 in
theorem own_aap10 (l : Launch) (Z : State) (a0 : Array Value) (hw : ∀ d ∈ tables_1, d.before a0 Z = true) (b t : Addr) (kt : ClassId) (bs : List Int32) (s1 : Addr) (cs : List Int32) (z : Int32) (f : Value) (h0 : Heap) (n0 : Nat) (Z0 : n0 ≤ h0.size) (X00 : Old Z n0 h0) (O2 : Sta Z Z.heap "java/lang/String" "COMPACT_STRINGS" "Z" (.int z)) (P5 : ¬ z = 0) (O3 : StrChars.Road.U3Z Z Z.heap) (O4 : Sta Z Z.heap "jdk/internal/util/Preconditions" "SIOOBE_FORMATTER" "Ljava/util/function/BiFunction;" f) (hf : f.isRef = true) (E : Exa Z h0 b "java/lang/StringBuilder") (C : Fld Z h0 b "java/lang/AbstractStringBuilder" "coder" "B" (.int (1 : Int32))) (N : Fld Z h0 b "java/lang/AbstractStringBuilder" "count" "I" (.int (Int32.ofNat bs.length))) (V : Fld Z h0 b "java/lang/AbstractStringBuilder" "value" "[B" (.ref t)) (M : Fld Z h0 b "java/lang/AbstractStringBuilder" "maybeLatin1" "Z" (.int (0 : Int32))) (A : Arv Z h0 t kt .byte (32 : Int32) (StrChars.Road.wideBytes bs) (.int (0 : Int32))) (Hs : own_Lat Z h0 s1 cs) (gb : n0 ≤ b) (gt : n0 ≤ t) (hl : bs.length + cs.length ≤ 16) (h6 : cs.length ≤ 6) (ne : ∀ t1 : Addr, Fld Z h0 s1 "java/lang/String" "value" "[B" (.ref t1) → t1 ≠ t) :
    MetFree l yM21 (head1 [Jvm.Cond.code yM21 jdk_68_method_22_code 3 (some (.object "java/lang/AbstractStringBuilder"))] rM17) (fun a_ U_ => a_ = #[(.ref b), (.ref s1)] ∧ Z.Warmed39 U_.vm ∧ U_.heap = h0) (fun _ _ _ _ _ => True) (fun _ U_ o_ V_ => ∃ v_ L_, o_ = .returned v_ ∧ Q_own_aap10 Z b t kt bs s1 cs z f h0 n0 v_ V_.heap L_ ∧ FrameEnd U_ o_ V_ L_ rM17.cells rM17.slots) := by
  refine MetFree.of_bodySF (plainFor_of_name own_pn1) hisR ?_
  intro p e s m args below meth c s₁ Bd hml0 hP hK
  obtain ⟨rfl, hZ, hh⟩ := hP
  have hx := Bd.exec
  have hby := Bd.bytes
  have dB := @own_d c _ hby
  have hml : c.maxLocals = 3 := hml0
  have hown : s.vm.findClass "java/lang/AbstractStringBuilder" = some m.cls := findClass_of_methodNamed Bd.named
  have hnm := (name_of_methodNamed Bd.named Bd.method).1
  have X0 : Stand p l e rM17 s m #[(.ref b), (.ref s1)] below meth c s₁ [] 0 0 := Stand.of_body Bd
  have e0 : s₁.heap = h0 := by rw [← hh, Bd.state]; rfl
  have N0 := Fr.nil n0
  have KK0 := Keep.refl h0 [b, t]
  have cc0 : Steps p.tables e below (s₁.setTop (entryFrame m #[(.ref b), (.ref s1)] 3)) (s₁.setTop (mkF m 0 #[sR b, sR s1, .unset] [])) := XT.entry rfl
  obtain ⟨S0', hS0'⟩ : ∃ S, S = (s₁.setTop (entryFrame m #[(.ref b), (.ref s1)] 3)) := ⟨_, rfl⟩
  rw [← hS0'] at cc0
  have w_60 := own_w hw 60 rfl
  have w_69 := own_w hw 69 rfl
  have w_90 := own_w hw 90 rfl
  have w_97 := own_w hw 97 rfl
  have w_98 := own_w hw 98 rfl
  have w_100 := own_w hw 100 rfl
  have w_101 := own_w hw 101 rfl
  have w_103 := own_w hw 103 rfl
  have w_105 := own_w hw 105 rfl
  have w_106 := own_w hw 106 rfl
  have w_108 := own_w hw 108 rfl
  have hw_wordsLen : ∀ d ∈ StrChars.Road.wordsLen, d.before a0 Z = true := fun d hd => hw d ((by decide +kernel : ∀ d ∈ StrChars.Road.wordsLen, d ∈ tables_1) d hd)
  have Hs' := Hs
  obtain ⟨Es1, Cs1, ps1, ls1, ts1, ks1, Vs1, As1⟩ := Hs'
  have ne_b_t : b ≠ t := own_ne_arv E w_60 A
  have cc21 : oS p e below S0' s₁ (mkF m 10 #[sR b, sR s1, .unset] [(.ref s1)]) := Steps.trans cc0 (by
    refine XS.aloadN X0.here hx rfl (dB d20_0) rfl rfl ?_
    refine XT.ifnonnullYes X0.here hx rfl (pc0 := 1) rfl (dB d20_1) rfl (by decide) rfl ?_
    refine XS.aloadN X0.here hx rfl (dB d20_9) rfl rfl ?_
    exact Steps.refl _)
  obtain ⟨cq22, kq22, qa22, qb22, qc22⟩ := isOf hZ e0 Es1
  obtain ⟨_, _, ⟨T22, L22, k22, n22⟩, -, X22, ⟨Lc22, hQ22, l22, y22, z22⟩, st22⟩ := X0.virtualBack hx (y := yM20) (z := yM20) hown (mvT hZ (own_w hw 87 rfl)) (mvT hZ (own_w hw 88 rfl)) (notFace_of_selects (args := #[]) (mvT hZ w_90)) (mvT hZ w_90) (mvT hZ (own_w hw 89 rfl)) (by decide) (StrChars.Road.lenW (W := 0) hZ hw_wordsLen (kI := 4) (own_w hw 6 rfl) (cs := cs) Es1 Vs1 Cs1 As1 (StrChars.Road.codOf (cs := cs) rfl (fun c hc => (ps1 c hc).2)) (own_up _ ps1) (O2.ext X00.2) P5 ls1 (by decide) (by decide)) qa22 qc22 (g := (mkF m 10 #[sR b, sR s1, .unset] [(.ref s1)])) rfl (by rw [hml]; rfl) (Steps.refl _) (argsL := []) (rest := []) (lenOf own_pd15 rfl) rfl (Nat.le_of_eq rfl) (dB d20_10) (fun _ _ => ⟨rfl, e0, Nat.le_of_ble_eq_true rfl, Nat.le_of_ble_eq_true rfl⟩)
  dsimp only [Pt.U, Pt.locs, Pt.cells, Pt.slots] at X22 l22 y22 z22 st22 hQ22
  subst l22 y22 z22
  obtain ⟨rfl, rfl, eq22⟩ := hQ22
  have N22 := Fr.app N0 (Fr.nil n0)
  have e22 : T22.heap = h0 := eq22
  have cc23 : oS p e below S0' T22 (mkF m 16 #[sR b, sR s1, sI (Int32.ofNat cs.length)] [(.ref b), (.ref b)]) := Steps.trans (Steps.trans cc21 st22) (by
    refine XS.istoreN X22.here hx rfl (dB d20_13) rfl rfl ?_
    refine XS.aloadN X22.here hx rfl (dB d20_14) rfl rfl ?_
    refine XS.aloadN X22.here hx rfl (dB d20_15) rfl rfl ?_
    exact Steps.refl _)
  obtain ⟨T24, X24, e24, st24⟩ := getF X22 hx hZ hown (host := "") (Or.inl w_97) Via.refl e22 N (g := (mkF m 16 #[sR b, sR s1, sI (Int32.ofNat cs.length)] [(.ref b), (.ref b)])) rfl rfl (dB d20_16)
  have cc25 : oS p e below S0' T24 (mkF m 21 #[sR b, sR s1, sI (Int32.ofNat cs.length)] [(.int ((Int32.ofNat bs.length) + (Int32.ofNat cs.length))), (.ref b)]) := Steps.trans (cc23.trans (st24 _ (Steps.refl _))) (by
    refine XS.iloadN X24.here hx rfl (dB d20_19) rfl ?_
    refine XS.iadd X24.here hx rfl (dB d20_20) rfl ?_
    exact Steps.refl _)
  have cz26 : oS p e below S0' T24 (mkF m 21 #[sR b, sR s1, sI (Int32.ofNat cs.length)] [(.int (Int32.ofNat (bs.length + cs.length))), (.ref b)]) := by
    have := cc25
    rw [add32n] at this
    exact this
  obtain ⟨cq27, q27a, q27b⟩ := E.cell
  obtain ⟨_, _, ⟨T27, L27, k27, n27⟩, -, X27, ⟨Lc27, hQ27, l27, y27, z27⟩, st27⟩ := X24.privateBack hx (y := yM6) hown (mvT hZ (own_w hw 99 rfl)) (mvT hZ w_100) (own_selP hZ (own_w hw 102 rfl) w_101 w_100 (by decide)) (Cond.privateMethod_at (mvP hZ w_101 (args := #[]))) (mvT hZ w_103) (by decide) (backOf (W := 0) (own_eci1 l Z a0 hw b t kt bs (bs.length + cs.length) h0 n0 Z0 E C N V M A hl) hZ w_103 w_69 (by decide) (by decide)) (g := (mkF m 21 #[sR b, sR s1, sI (Int32.ofNat cs.length)] [(.int (Int32.ofNat (bs.length + cs.length))), (.ref b)])) rfl (by rw [hml]; rfl) (Steps.refl _) (a := b) (by rw [e24]; exact q27a) q27b (argsL := [(.int (Int32.ofNat (bs.length + cs.length)))]) (rest := []) (lenOf own_pd1 rfl) rfl (Nat.le_of_eq rfl) (dB d20_21) (fun _ _ => ⟨rfl, e24, Nat.le_of_ble_eq_true rfl, Nat.le_of_ble_eq_true rfl⟩)
  dsimp only [Pt.U, Pt.locs, Pt.cells, Pt.slots] at X27 l27 y27 z27 st27 hQ27
  subst l27 y27 z27
  obtain ⟨rfl, Nq27, eq27⟩ := hQ27
  have N27 := Fr.app N22 Nq27
  have e27 : T27.heap = h0 := eq27
  have cc28 : oS p e below S0' T27 (mkF m 26 #[sR b, sR s1, sI (Int32.ofNat cs.length)] [(.ref b), (.ref b)]) := Steps.trans (Steps.trans cz26 st27) (by
    refine XS.aloadN X27.here hx rfl (dB d20_24) rfl rfl ?_
    refine XS.aloadN X27.here hx rfl (dB d20_25) rfl rfl ?_
    exact Steps.refl _)
  obtain ⟨T29, X29, e29, st29⟩ := getF X27 hx hZ hown (host := "") (Or.inl w_97) Via.refl e27 N (g := (mkF m 26 #[sR b, sR s1, sI (Int32.ofNat cs.length)] [(.ref b), (.ref b)])) rfl rfl (dB d20_26)
  have cc30 : oS p e below S0' T29 (mkF m 30 #[sR b, sR s1, sI (Int32.ofNat cs.length)] [(.ref s1), (.int (Int32.ofNat bs.length)), (.ref b)]) := Steps.trans (cc28.trans (st29 _ (Steps.refl _))) (by
    refine XS.aloadN X29.here hx rfl (dB d20_29) rfl rfl ?_
    exact Steps.refl _)
  obtain ⟨cq31, q31a, q31b⟩ := E.cell
  obtain ⟨_, _, ⟨T31, L31, k31, n31⟩, -, X31, ⟨Lc31, hQ31, l31, y31, z31⟩, st31⟩ := X29.privateBack hx (y := yM19) hown (mvT hZ (own_w hw 104 rfl)) (mvT hZ w_105) (own_selP hZ (own_w hw 107 rfl) w_106 w_105 (by decide)) (Cond.privateMethod_at (mvP hZ w_106 (args := #[]))) (mvT hZ w_108) (by decide) (backOf (W := 0) (own_psa10 l Z a0 hw b t kt bs s1 cs z f h0 n0 Z0 X00 O2 P5 O3 O4 hf E C N V M A Hs gb gt hl h6 ne) hZ w_108 w_69 (by decide) (by decide)) (g := (mkF m 30 #[sR b, sR s1, sI (Int32.ofNat cs.length)] [(.ref s1), (.int (Int32.ofNat bs.length)), (.ref b)])) rfl (by rw [hml]; rfl) (Steps.refl _) (a := b) (by rw [e29]; exact q31a) q31b (argsL := [(.int (Int32.ofNat bs.length)), (.ref s1)]) (rest := []) (lenOf own_pd16 rfl) rfl (Nat.le_of_eq rfl) (dB d20_30) (fun _ _ => ⟨rfl, e29, Nat.le_of_ble_eq_true rfl, Nat.le_of_ble_eq_true rfl⟩)
  dsimp only [Pt.U, Pt.locs, Pt.cells, Pt.slots] at X31 l31 y31 z31 st31 hQ31
  subst l31 y31 z31
  obtain ⟨rfl, Nq31, Kq31, Aq31⟩ := hQ31
  have N31 := Fr.app N27 Nq31
  have KK1 : Keep h0 T31.heap [b, t] := KK0.trans Kq31 (allS (Or.inl (List.mem_of_getElem? (i := 1) rfl)) all0)
  have Zs1 : n0 ≤ T31.heap.size := Nat.le_trans Z0 Kq31.1
  have e31 : T31.heap = T31.heap := rfl
  have cc33 : oS p e below S0' T31 (mkF m 35 #[sR b, sR s1, sI (Int32.ofNat cs.length)] [(.ref b), (.ref b)]) := Steps.trans (Steps.trans cc30 st31) (by
    refine XS.aloadN X31.here hx rfl (dB d20_33) rfl rfl ?_
    refine XS.dup X31.here hx rfl (dB d20_34) rfl rfl ?_
    exact Steps.refl _)
  have fa32 : Fld Z T31.heap b "java/lang/AbstractStringBuilder" "count" "I" (.int (Int32.ofNat bs.length)) := (N.keep Kq31 (ninS ne_b_t nin0))
  obtain ⟨T34, X34, e34, st34⟩ := getF X31 hx hZ hown (host := "") (Or.inl w_97) Via.refl e31 fa32 (g := (mkF m 35 #[sR b, sR s1, sI (Int32.ofNat cs.length)] [(.ref b), (.ref b)])) rfl rfl (dB d20_35)
  have cc35 : oS p e below S0' T34 (mkF m 40 #[sR b, sR s1, sI (Int32.ofNat cs.length)] [(.int ((Int32.ofNat bs.length) + (Int32.ofNat cs.length))), (.ref b)]) := Steps.trans (cc33.trans (st34 _ (Steps.refl _))) (by
    refine XS.iloadN X34.here hx rfl (dB d20_38) rfl ?_
    refine XS.iadd X34.here hx rfl (dB d20_39) rfl ?_
    exact Steps.refl _)
  have cz36 : oS p e below S0' T34 (mkF m 40 #[sR b, sR s1, sI (Int32.ofNat cs.length)] [(.int (Int32.ofNat (bs ++ cs).length)), (.ref b)]) := by
    have := cc35
    rw [add32n, ← List.length_append] at this
    exact this
  have fa37 : Exa Z T31.heap b "java/lang/StringBuilder" := (E.keep Kq31)
  obtain ⟨T38, h38, X38, e38, W38, st38⟩ := putF X34 hx hZ hown (host := "") (Or.inl w_97) Via.refl e34 fa32 fa37 (Or.inl w_98) w_60 (ty := .int) (by decide) rfl rfl (g := (mkF m 40 #[sR b, sR s1, sI (Int32.ofNat cs.length)] [(.int (Int32.ofNat (bs ++ cs).length)), (.ref b)])) rfl rfl (dB d20_40)
  have K38 := Keep.of_wr W38
  have N38 := Fr.snoc X38 N31 gb
  have KK2 : Keep h0 h38 [b, t] := KK1.trans K38 (allS (Or.inl (List.mem_of_getElem? (i := 0) rfl)) all0)
  have Zs2 : n0 ≤ h38.size := Nat.le_trans Zs1 K38.1
  have cc40 : oS p e below S0' T38 (mkF m 44 #[sR b, sR s1, sI (Int32.ofNat cs.length)] [(.ref b)]) := Steps.trans (cz36.trans (st38 _ (Steps.refl _))) (by
    refine XS.aloadN X38.here hx rfl (dB d20_43) rfl rfl ?_
    exact Steps.refl _)
  have fa39 : Fld Z h38 b "java/lang/AbstractStringBuilder" "coder" "B" (.int (1 : Int32)) := ((C.keep Kq31 (ninS ne_b_t nin0)).other W38 (Or.inr (slot_ne (Or.inl (own_w hw 76 rfl)) (Or.inl w_98) (by decide) (t := .byte) (t' := .int) (by decide) (by decide))))
  have fa41 : Fld Z h38 b "java/lang/AbstractStringBuilder" "value" "[B" (.ref t) := ((V.keep Kq31 (ninS ne_b_t nin0)).other W38 (Or.inr (slot_ne (Or.inl (own_w hw 74 rfl)) (Or.inl w_98) (by decide) (t := (.array .byte)) (t' := .int) (by decide) (by decide))))
  have fa42 : Fld Z h38 b "java/lang/AbstractStringBuilder" "maybeLatin1" "Z" (.int (0 : Int32)) := ((M.keep Kq31 (ninS ne_b_t nin0)).other W38 (Or.inr (slot_ne (Or.inl (own_w hw 239 rfl)) (Or.inl w_98) (by decide) (t := .boolean) (t' := .int) (by decide) (by decide))))
  have fa43 : Arv Z h38 t kt .byte (32 : Int32) (StrChars.Road.wideBytes (bs ++ cs)) (.int (0 : Int32)) := (Aq31.keep K38 (ninS (Ne.symm ne_b_t) nin0))
  have cE := cc40
  rw [hS0'] at cE
  obtain ⟨fs, hr_, hrun, hended, hW, hsame⟩ := X38.leave (v := some (.ref b)) (fun h => by rw [Bd.returns] at h; cases h)
  refine ⟨_, _, cE.trans (X38.areturnOut hx (rfl) Bd.returns rfl (dB d20_44) hr_), hrun, hended, _, _, rfl, ?_, ⟨_, rfl⟩, hW, hsame.mono (by first | decide | omega) (by first | decide | omega)⟩
  show Q_own_aap10 Z b t kt bs s1 cs z f h0 n0 _ T38.heap _
  rw [e38]
  exact ⟨rfl, N38, KK2, fa39, (Fld.same W38 fa32), fa41, fa42, fa43⟩
def Q_own_app10 (Z : State) (b t : Addr) (kt : ClassId) (bs : List Int32) (s1 : Addr) (cs : List Int32) (z : Int32) (f : Value) (h0 : Heap) (n0 : Nat) (v : Option Value) (h : Heap) (L : List Loc) : Prop := v = some (.ref b) ∧ Fr n0 L ∧ Keep h0 h [b, t] ∧ Fld Z h b "java/lang/AbstractStringBuilder" "coder" "B" (.int (1 : Int32)) ∧ Fld Z h b "java/lang/AbstractStringBuilder" "count" "I" (.int (Int32.ofNat (bs ++ cs).length)) ∧ Fld Z h b "java/lang/AbstractStringBuilder" "value" "[B" (.ref t) ∧ Fld Z h b "java/lang/AbstractStringBuilder" "maybeLatin1" "Z" (.int (0 : Int32)) ∧ Arv Z h t kt .byte (32 : Int32) (StrChars.Road.wideBytes (bs ++ cs)) (.int (0 : Int32))
set_option maxRecDepth 65536 in
set_option maxHeartbeats 40000000 in
theorem own_app10 (l : Launch) (Z : State) (a0 : Array Value) (hw : ∀ d ∈ tables_1, d.before a0 Z = true) (b t : Addr) (kt : ClassId) (bs : List Int32) (s1 : Addr) (cs : List Int32) (z : Int32) (f : Value) (h0 : Heap) (n0 : Nat) (Z0 : n0 ≤ h0.size) (X00 : Old Z n0 h0) (O2 : Sta Z Z.heap "java/lang/String" "COMPACT_STRINGS" "Z" (.int z)) (P5 : ¬ z = 0) (O3 : StrChars.Road.U3Z Z Z.heap) (O4 : Sta Z Z.heap "jdk/internal/util/Preconditions" "SIOOBE_FORMATTER" "Ljava/util/function/BiFunction;" f) (hf : f.isRef = true) (E : Exa Z h0 b "java/lang/StringBuilder") (C : Fld Z h0 b "java/lang/AbstractStringBuilder" "coder" "B" (.int (1 : Int32))) (N : Fld Z h0 b "java/lang/AbstractStringBuilder" "count" "I" (.int (Int32.ofNat bs.length))) (V : Fld Z h0 b "java/lang/AbstractStringBuilder" "value" "[B" (.ref t)) (M : Fld Z h0 b "java/lang/AbstractStringBuilder" "maybeLatin1" "Z" (.int (0 : Int32))) (A : Arv Z h0 t kt .byte (32 : Int32) (StrChars.Road.wideBytes bs) (.int (0 : Int32))) (Hs : own_Lat Z h0 s1 cs) (gb : n0 ≤ b) (gt : n0 ≤ t) (hl : bs.length + cs.length ≤ 16) (h6 : cs.length ≤ 6) (ne : ∀ t1 : Addr, Fld Z h0 s1 "java/lang/String" "value" "[B" (.ref t1) → t1 ≠ t) :
    MetFree l yM22 (head1 [Jvm.Cond.code yM22 jdk_67_method_7_code 2 (some (.object "java/lang/StringBuilder"))] rM18) (fun a_ U_ => a_ = #[(.ref b), (.ref s1)] ∧ Z.Warmed39 U_.vm ∧ U_.heap = h0) (fun _ _ _ _ _ => True) (fun _ U_ o_ V_ => ∃ v_ L_, o_ = .returned v_ ∧ Q_own_app10 Z b t kt bs s1 cs z f h0 n0 v_ V_.heap L_ ∧ FrameEnd U_ o_ V_ L_ rM18.cells rM18.slots) := by
  refine MetFree.of_bodySF (plainFor_of_name own_pn2) hisR ?_
  intro p e s m args below meth c s₁ Bd hml0 hP hK
  obtain ⟨rfl, hZ, hh⟩ := hP
  have hx := Bd.exec
  have hby := Bd.bytes
  have dB := @own_d c _ hby
  have hml : c.maxLocals = 2 := hml0
  have hown : s.vm.findClass "java/lang/StringBuilder" = some m.cls := findClass_of_methodNamed Bd.named
  have hnm := (name_of_methodNamed Bd.named Bd.method).1
  have X0 : Stand p l e rM18 s m #[(.ref b), (.ref s1)] below meth c s₁ [] 0 0 := Stand.of_body Bd
  have e0 : s₁.heap = h0 := by rw [← hh, Bd.state]; rfl
  have N0 := Fr.nil n0
  have KK0 := Keep.refl h0 [b, t]
  have cc0 : Steps p.tables e below (s₁.setTop (entryFrame m #[(.ref b), (.ref s1)] 2)) (s₁.setTop (mkF m 0 #[sR b, sR s1] [])) := XT.entry rfl
  obtain ⟨S0', hS0'⟩ : ∃ S, S = (s₁.setTop (entryFrame m #[(.ref b), (.ref s1)] 2)) := ⟨_, rfl⟩
  rw [← hS0'] at cc0
  have w_83 := own_w hw 83 rfl
  have w_86 := own_w hw 86 rfl
  have cc21 : oS p e below S0' s₁ (mkF m 2 #[sR b, sR s1] [(.ref s1), (.ref b)]) := Steps.trans cc0 (by
    refine XS.aloadN X0.here hx rfl (dB d21_0) rfl rfl ?_
    refine XS.aloadN X0.here hx rfl (dB d21_1) rfl rfl ?_
    exact Steps.refl _)
  obtain ⟨_, _, ⟨T22, L22, k22, n22⟩, -, X22, ⟨Lc22, hQ22, l22, y22, z22⟩, st22⟩ := superBack X0 hx hZ (y := yM21) hown (own_w hw 82 rfl) (own_sameM w_83 (own_w hw 102 rfl) rfl (by decide)) w_83 (own_w hw 84 rfl) (by decide) (backOf (W := 0) (own_aap10 l Z a0 hw b t kt bs s1 cs z f h0 n0 Z0 X00 O2 P5 O3 O4 hf E C N V M A Hs gb gt hl h6 ne) hZ w_86 (own_w hw 69 rfl) (by decide) (by decide)) e0 (Ins.self E) (g := (mkF m 2 #[sR b, sR s1] [(.ref s1), (.ref b)])) rfl (by rw [hml]; rfl) w_86 (argsL := [(.ref s1)]) (rest := []) (lenOf own_pd17 rfl) rfl (Nat.le_of_eq rfl) (dB d21_2) (fun _ _ => ⟨rfl, e0, Nat.le_of_ble_eq_true rfl, Nat.le_of_ble_eq_true rfl⟩)
  dsimp only [Pt.U, Pt.locs, Pt.cells, Pt.slots] at X22 l22 y22 z22 st22 hQ22
  subst l22 y22 z22
  obtain ⟨rfl, Nq22, Kq22, f122, f222, f322, f422, f522⟩ := hQ22
  have N22 := Fr.app N0 Nq22
  have KK1 : Keep h0 T22.heap [b, t] := KK0.trans Kq22 (allS (Or.inl (List.mem_of_getElem? (i := 0) rfl)) (allS (Or.inl (List.mem_of_getElem? (i := 1) rfl)) all0))
  have Zs1 : n0 ≤ T22.heap.size := Nat.le_trans Z0 Kq22.1
  have e22 : T22.heap = T22.heap := rfl
  have cc23 : oS p e below S0' T22 (mkF m 7 #[sR b, sR s1] [(.ref b)]) := Steps.trans (Steps.trans cc21 st22) (by
    refine XT.pop X22.here hx rfl (dB d21_5) rfl rfl ?_
    refine XS.aloadN X22.here hx rfl (dB d21_6) rfl rfl ?_
    exact Steps.refl _)
  have cE := cc23
  rw [hS0'] at cE
  obtain ⟨fs, hr_, hrun, hended, hW, hsame⟩ := X22.leave (v := some (.ref b)) (fun h => by rw [Bd.returns] at h; cases h)
  refine ⟨_, _, cE.trans (X22.areturnOut hx (rfl) Bd.returns rfl (dB d21_7) hr_), hrun, hended, _, _, rfl, ?_, ⟨_, rfl⟩, hW, hsame.mono (by first | decide | omega) (by first | decide | omega)⟩
  show Q_own_app10 Z b t kt bs s1 cs z f h0 n0 _ T22.heap _
  rw [e22]
  exact ⟨rfl, N22, KK1, f122, f222, f322, f422, f522⟩
def Q_own_psa11 (Z : State) (b t : Addr) (kt : ClassId) (bs : List Int32) (s1 : Addr) (cs : List Int32) (z : Int32) (f : Value) (h0 : Heap) (n0 : Nat) (v : Option Value) (h : Heap) (L : List Loc) : Prop := v = none ∧ Fr n0 L ∧ Keep h0 h [t] ∧ Arv Z h t kt .byte (32 : Int32) (StrChars.Road.wideBytes (bs ++ cs)) (.int (0 : Int32))
set_option maxRecDepth 65536 in
set_option maxHeartbeats 40000000 in
theorem own_psa11 (l : Launch) (Z : State) (a0 : Array Value) (hw : ∀ d ∈ tables_1, d.before a0 Z = true) (b t : Addr) (kt : ClassId) (bs : List Int32) (s1 : Addr) (cs : List Int32) (z : Int32) (f : Value) (h0 : Heap) (n0 : Nat) (Z0 : n0 ≤ h0.size) (X00 : Old Z n0 h0) (O2 : Sta Z Z.heap "java/lang/String" "COMPACT_STRINGS" "Z" (.int z)) (P5 : ¬ z = 0) (O3 : StrChars.Road.U3Z Z Z.heap) (O4 : Sta Z Z.heap "jdk/internal/util/Preconditions" "SIOOBE_FORMATTER" "Ljava/util/function/BiFunction;" f) (hf : f.isRef = true) (E : Exa Z h0 b "java/lang/StringBuilder") (C : Fld Z h0 b "java/lang/AbstractStringBuilder" "coder" "B" (.int (1 : Int32))) (N : Fld Z h0 b "java/lang/AbstractStringBuilder" "count" "I" (.int (Int32.ofNat bs.length))) (V : Fld Z h0 b "java/lang/AbstractStringBuilder" "value" "[B" (.ref t)) (M : Fld Z h0 b "java/lang/AbstractStringBuilder" "maybeLatin1" "Z" (.int (0 : Int32))) (A : Arv Z h0 t kt .byte (32 : Int32) (StrChars.Road.wideBytes bs) (.int (0 : Int32))) (Hs : own_Wid Z h0 s1 cs) (gb : n0 ≤ b) (gt : n0 ≤ t) (hl : bs.length + cs.length ≤ 16) :
    MetFree l yM19 (head1 [Jvm.Cond.code yM19 jdk_68_method_73_code 3 none] rM16) (fun a_ U_ => a_ = #[(.ref b), (.int (Int32.ofNat bs.length)), (.ref s1)] ∧ Z.Warmed39 U_.vm ∧ U_.heap = h0) (fun _ _ _ _ _ => True) (fun _ U_ o_ V_ => ∃ v_ L_, o_ = .returned v_ ∧ Q_own_psa11 Z b t kt bs s1 cs z f h0 n0 v_ V_.heap L_ ∧ FrameEnd U_ o_ V_ L_ rM16.cells rM16.slots) := by
  refine MetFree.of_bodySF (plainFor_of_name own_pn1) hisR ?_
  intro p e s m args below meth c s₁ Bd hml0 hP hK
  obtain ⟨rfl, hZ, hh⟩ := hP
  have hx := Bd.exec
  have hby := Bd.bytes
  have dB := @own_d c _ hby
  have hml : c.maxLocals = 3 := hml0
  have hown : s.vm.findClass "java/lang/AbstractStringBuilder" = some m.cls := findClass_of_methodNamed Bd.named
  have hnm := (name_of_methodNamed Bd.named Bd.method).1
  have X0 : Stand p l e rM16 s m #[(.ref b), (.int (Int32.ofNat bs.length)), (.ref s1)] below meth c s₁ [] 0 0 := Stand.of_body Bd
  have e0 : s₁.heap = h0 := by rw [← hh, Bd.state]; rfl
  have N0 := Fr.nil n0
  have KK0 := Keep.refl h0 [t]
  have cc0 : Steps p.tables e below (s₁.setTop (entryFrame m #[(.ref b), (.int (Int32.ofNat bs.length)), (.ref s1)] 3)) (s₁.setTop (mkF m 0 #[sR b, sI (Int32.ofNat bs.length), sR s1] [])) := XT.entry rfl
  obtain ⟨S0', hS0'⟩ : ∃ S, S = (s₁.setTop (entryFrame m #[(.ref b), (.int (Int32.ofNat bs.length)), (.ref s1)] 3)) := ⟨_, rfl⟩
  rw [← hS0'] at cc0
  have w_110 := own_w hw 110 rfl
  have w_111 := own_w hw 111 rfl
  have w_113 := own_w hw 113 rfl
  have w_118 := own_w hw 118 rfl
  have Hs' := Hs
  obtain ⟨Es1, Cs1, ps1, ls1, ws1, ts1, ks1, Vs1, As1⟩ := Hs'
  have cc21 : oS p e below S0' s₁ (mkF m 2 #[sR b, sI (Int32.ofNat bs.length), sR s1] [(.ref s1), (.ref b)]) := Steps.trans cc0 (by
    refine XS.aloadN X0.here hx rfl (dB d19_0) rfl rfl ?_
    refine XS.aloadN X0.here hx rfl (dB d19_1) rfl rfl ?_
    exact Steps.refl _)
  obtain ⟨cq22, q22a, q22b⟩ := E.cell
  obtain ⟨_, _, ⟨T22, L22, k22, n22⟩, -, X22, ⟨Lc22, hQ22, l22, y22, z22⟩, st22⟩ := X0.privateBack hx (y := yM17) hown (mvT hZ (own_w hw 109 rfl)) (mvT hZ w_110) (own_selP hZ (own_w hw 112 rfl) w_111 w_110 (by decide)) (Cond.privateMethod_at (mvP hZ w_111 (args := #[]))) (mvT hZ w_113) (by decide) (backOf (W := 0) (own_ifn11 l Z a0 hw b s1 z h0 n0 Z0 X00 O2 P5 E C Es1 Cs1) hZ w_113 (own_w hw 69 rfl) (by decide) (by decide)) (g := (mkF m 2 #[sR b, sI (Int32.ofNat bs.length), sR s1] [(.ref s1), (.ref b)])) rfl (by rw [hml]; rfl) (Steps.refl _) (a := b) (by rw [e0]; exact q22a) q22b (argsL := [(.ref s1)]) (rest := []) (lenOf own_pd13 rfl) rfl (Nat.le_of_eq rfl) (dB d19_2) (fun _ _ => ⟨rfl, e0, Nat.le_of_ble_eq_true rfl, Nat.le_of_ble_eq_true rfl⟩)
  dsimp only [Pt.U, Pt.locs, Pt.cells, Pt.slots] at X22 l22 y22 z22 st22 hQ22
  subst l22 y22 z22
  obtain ⟨rfl, Nq22, eq22⟩ := hQ22
  have N22 := Fr.app N0 Nq22
  have e22 : T22.heap = h0 := eq22
  have cc23 : oS p e below S0' T22 (mkF m 7 #[sR b, sI (Int32.ofNat bs.length), sR s1] [(.ref b), (.ref s1)]) := Steps.trans (Steps.trans cc21 st22) (by
    refine XS.aloadN X22.here hx rfl (dB d19_5) rfl rfl ?_
    refine XS.aloadN X22.here hx rfl (dB d19_6) rfl rfl ?_
    exact Steps.refl _)
  obtain ⟨T24, X24, e24, st24⟩ := getF X22 hx hZ hown (host := "") (Or.inl (own_w hw 73 rfl)) Via.refl e22 V (g := (mkF m 7 #[sR b, sI (Int32.ofNat bs.length), sR s1] [(.ref b), (.ref s1)])) rfl rfl (dB d19_7)
  have cc25 : oS p e below S0' T24 (mkF m 12 #[sR b, sI (Int32.ofNat bs.length), sR s1] [(.ref b), (.int (Int32.ofNat bs.length)), (.ref t), (.ref s1)]) := Steps.trans (cc23.trans (st24 _ (Steps.refl _))) (by
    refine XS.iloadN X24.here hx rfl (dB d19_10) rfl ?_
    refine XS.aloadN X24.here hx rfl (dB d19_11) rfl rfl ?_
    exact Steps.refl _)
  obtain ⟨T26, X26, e26, st26⟩ := getF X24 hx hZ hown (host := "") (Or.inl (own_w hw 75 rfl)) Via.refl e24 C (g := (mkF m 12 #[sR b, sI (Int32.ofNat bs.length), sR s1] [(.ref b), (.int (Int32.ofNat bs.length)), (.ref t), (.ref s1)])) rfl rfl (dB d19_12)
  have cc27 : oS p e below S0' T26 (mkF m 15 #[sR b, sI (Int32.ofNat bs.length), sR s1] [(.int (1 : Int32)), (.int (Int32.ofNat bs.length)), (.ref t), (.ref s1)]) := (cc25.trans (st26 _ (Steps.refl _)))
  obtain ⟨cq28, kq28, qa28, qb28, qc28⟩ := isOf hZ e26 Es1
  obtain ⟨_, _, ⟨T28, L28, k28, n28⟩, -, X28, ⟨Lc28, hQ28, l28, y28, z28⟩, st28⟩ := X26.virtualBack hx (y := yM18) (z := yM18) hown (mvT hZ (own_w hw 115 rfl)) (mvT hZ (own_w hw 116 rfl)) (notFace_of_selects (args := #[]) (mvT hZ w_118)) (mvT hZ w_118) (mvT hZ (own_w hw 117 rfl)) (by decide) (backOf (W := 0) (own_gb11 l Z a0 hw s1 cs t kt bs z h0 n0 Z0 X00 O2 P5 (⟨Es1, Cs1, ps1, ls1, ws1, ts1, ks1, Vs1, As1⟩ : own_Wid Z h0 s1 cs) A gt hl) hZ (own_w hw 119 rfl) (own_w hw 7 rfl) (by decide) (by decide)) qa28 qc28 (g := (mkF m 15 #[sR b, sI (Int32.ofNat bs.length), sR s1] [(.int (1 : Int32)), (.int (Int32.ofNat bs.length)), (.ref t), (.ref s1)])) rfl (by rw [hml]; rfl) (Steps.refl _) (argsL := [(.ref t), (.int (Int32.ofNat bs.length)), (.int (1 : Int32))]) (rest := []) (lenOf own_pd14 rfl) rfl (Nat.le_of_eq rfl) (dB d19_15) (fun _ _ => ⟨rfl, e26, Nat.le_of_ble_eq_true rfl, Nat.le_of_ble_eq_true rfl⟩)
  dsimp only [Pt.U, Pt.locs, Pt.cells, Pt.slots] at X28 l28 y28 z28 st28 hQ28
  subst l28 y28 z28
  obtain ⟨rfl, Nq28, Kq28, Aq28⟩ := hQ28
  have N28 := Fr.app N22 Nq28
  have KK1 : Keep h0 T28.heap [t] := KK0.trans Kq28 (allS (Or.inl (List.mem_of_getElem? (i := 0) rfl)) all0)
  have Zs1 : n0 ≤ T28.heap.size := Nat.le_trans Z0 Kq28.1
  have e28 : T28.heap = T28.heap := rfl
  have cc29 : oS p e below S0' T28 (mkF m 18 #[sR b, sI (Int32.ofNat bs.length), sR s1] []) := (Steps.trans cc27 st28)
  have cE := cc29
  rw [hS0'] at cE
  obtain ⟨fs, hr_, hrun, hended, hW, hsame⟩ := X28.leave (v := none) (fun _ => rfl)
  refine ⟨_, _, cE.trans (X28.returnOut hx Bd.returns (dB d19_18) hr_), hrun, hended, _, _, rfl, ?_, ⟨_, rfl⟩, hW, hsame.mono (by first | decide | omega) (by first | decide | omega)⟩
  show Q_own_psa11 Z b t kt bs s1 cs z f h0 n0 _ T28.heap _
  rw [e28]
  exact ⟨rfl, N28, KK1, Aq28⟩
def Q_own_aap11 (Z : State) (b t : Addr) (kt : ClassId) (bs : List Int32) (s1 : Addr) (cs : List Int32) (z : Int32) (f : Value) (h0 : Heap) (n0 : Nat) (v : Option Value) (h : Heap) (L : List Loc) : Prop := v = some (.ref b) ∧ Fr n0 L ∧ Keep h0 h [b, t] ∧ Fld Z h b "java/lang/AbstractStringBuilder" "coder" "B" (.int (1 : Int32)) ∧ Fld Z h b "java/lang/AbstractStringBuilder" "count" "I" (.int (Int32.ofNat (bs ++ cs).length)) ∧ Fld Z h b "java/lang/AbstractStringBuilder" "value" "[B" (.ref t) ∧ Fld Z h b "java/lang/AbstractStringBuilder" "maybeLatin1" "Z" (.int (0 : Int32)) ∧ Arv Z h t kt .byte (32 : Int32) (StrChars.Road.wideBytes (bs ++ cs)) (.int (0 : Int32))
set_option maxRecDepth 65536 in
set_option maxHeartbeats 40000000 in
theorem own_aap11 (l : Launch) (Z : State) (a0 : Array Value) (hw : ∀ d ∈ tables_1, d.before a0 Z = true) (b t : Addr) (kt : ClassId) (bs : List Int32) (s1 : Addr) (cs : List Int32) (z : Int32) (f : Value) (h0 : Heap) (n0 : Nat) (Z0 : n0 ≤ h0.size) (X00 : Old Z n0 h0) (O2 : Sta Z Z.heap "java/lang/String" "COMPACT_STRINGS" "Z" (.int z)) (P5 : ¬ z = 0) (O3 : StrChars.Road.U3Z Z Z.heap) (O4 : Sta Z Z.heap "jdk/internal/util/Preconditions" "SIOOBE_FORMATTER" "Ljava/util/function/BiFunction;" f) (hf : f.isRef = true) (E : Exa Z h0 b "java/lang/StringBuilder") (C : Fld Z h0 b "java/lang/AbstractStringBuilder" "coder" "B" (.int (1 : Int32))) (N : Fld Z h0 b "java/lang/AbstractStringBuilder" "count" "I" (.int (Int32.ofNat bs.length))) (V : Fld Z h0 b "java/lang/AbstractStringBuilder" "value" "[B" (.ref t)) (M : Fld Z h0 b "java/lang/AbstractStringBuilder" "maybeLatin1" "Z" (.int (0 : Int32))) (A : Arv Z h0 t kt .byte (32 : Int32) (StrChars.Road.wideBytes bs) (.int (0 : Int32))) (Hs : own_Wid Z h0 s1 cs) (gb : n0 ≤ b) (gt : n0 ≤ t) (hl : bs.length + cs.length ≤ 16) :
    MetFree l yM21 (head1 [Jvm.Cond.code yM21 jdk_68_method_22_code 3 (some (.object "java/lang/AbstractStringBuilder"))] rM17) (fun a_ U_ => a_ = #[(.ref b), (.ref s1)] ∧ Z.Warmed39 U_.vm ∧ U_.heap = h0) (fun _ _ _ _ _ => True) (fun _ U_ o_ V_ => ∃ v_ L_, o_ = .returned v_ ∧ Q_own_aap11 Z b t kt bs s1 cs z f h0 n0 v_ V_.heap L_ ∧ FrameEnd U_ o_ V_ L_ rM17.cells rM17.slots) := by
  refine MetFree.of_bodySF (plainFor_of_name own_pn1) hisR ?_
  intro p e s m args below meth c s₁ Bd hml0 hP hK
  obtain ⟨rfl, hZ, hh⟩ := hP
  have hx := Bd.exec
  have hby := Bd.bytes
  have dB := @own_d c _ hby
  have hml : c.maxLocals = 3 := hml0
  have hown : s.vm.findClass "java/lang/AbstractStringBuilder" = some m.cls := findClass_of_methodNamed Bd.named
  have hnm := (name_of_methodNamed Bd.named Bd.method).1
  have X0 : Stand p l e rM17 s m #[(.ref b), (.ref s1)] below meth c s₁ [] 0 0 := Stand.of_body Bd
  have e0 : s₁.heap = h0 := by rw [← hh, Bd.state]; rfl
  have N0 := Fr.nil n0
  have KK0 := Keep.refl h0 [b, t]
  have cc0 : Steps p.tables e below (s₁.setTop (entryFrame m #[(.ref b), (.ref s1)] 3)) (s₁.setTop (mkF m 0 #[sR b, sR s1, .unset] [])) := XT.entry rfl
  obtain ⟨S0', hS0'⟩ : ∃ S, S = (s₁.setTop (entryFrame m #[(.ref b), (.ref s1)] 3)) := ⟨_, rfl⟩
  rw [← hS0'] at cc0
  have w_60 := own_w hw 60 rfl
  have w_69 := own_w hw 69 rfl
  have w_90 := own_w hw 90 rfl
  have w_97 := own_w hw 97 rfl
  have w_98 := own_w hw 98 rfl
  have w_100 := own_w hw 100 rfl
  have w_101 := own_w hw 101 rfl
  have w_103 := own_w hw 103 rfl
  have w_105 := own_w hw 105 rfl
  have w_106 := own_w hw 106 rfl
  have w_108 := own_w hw 108 rfl
  have hw_wordsLen : ∀ d ∈ StrChars.Road.wordsLen, d.before a0 Z = true := fun d hd => hw d ((by decide +kernel : ∀ d ∈ StrChars.Road.wordsLen, d ∈ tables_1) d hd)
  have Hs' := Hs
  obtain ⟨Es1, Cs1, ps1, ls1, ws1, ts1, ks1, Vs1, As1⟩ := Hs'
  have ne_b_t : b ≠ t := own_ne_arv E w_60 A
  have cc21 : oS p e below S0' s₁ (mkF m 10 #[sR b, sR s1, .unset] [(.ref s1)]) := Steps.trans cc0 (by
    refine XS.aloadN X0.here hx rfl (dB d20_0) rfl rfl ?_
    refine XT.ifnonnullYes X0.here hx rfl (pc0 := 1) rfl (dB d20_1) rfl (by decide) rfl ?_
    refine XS.aloadN X0.here hx rfl (dB d20_9) rfl rfl ?_
    exact Steps.refl _)
  obtain ⟨cq22, kq22, qa22, qb22, qc22⟩ := isOf hZ e0 Es1
  obtain ⟨_, _, ⟨T22, L22, k22, n22⟩, -, X22, ⟨Lc22, hQ22, l22, y22, z22⟩, st22⟩ := X0.virtualBack hx (y := yM20) (z := yM20) hown (mvT hZ (own_w hw 87 rfl)) (mvT hZ (own_w hw 88 rfl)) (notFace_of_selects (args := #[]) (mvT hZ w_90)) (mvT hZ w_90) (mvT hZ (own_w hw 89 rfl)) (by decide) (StrChars.Road.lenW (W := 0) hZ hw_wordsLen (kI := 4) (own_w hw 6 rfl) (cs := cs) Es1 Vs1 Cs1 As1 (Or.inr ⟨rfl, rfl, rfl, ws1⟩) ps1 (O2.ext X00.2) P5 ls1 (by decide) (by decide)) qa22 qc22 (g := (mkF m 10 #[sR b, sR s1, .unset] [(.ref s1)])) rfl (by rw [hml]; rfl) (Steps.refl _) (argsL := []) (rest := []) (lenOf own_pd15 rfl) rfl (Nat.le_of_eq rfl) (dB d20_10) (fun _ _ => ⟨rfl, e0, Nat.le_of_ble_eq_true rfl, Nat.le_of_ble_eq_true rfl⟩)
  dsimp only [Pt.U, Pt.locs, Pt.cells, Pt.slots] at X22 l22 y22 z22 st22 hQ22
  subst l22 y22 z22
  obtain ⟨rfl, rfl, eq22⟩ := hQ22
  have N22 := Fr.app N0 (Fr.nil n0)
  have e22 : T22.heap = h0 := eq22
  have cc23 : oS p e below S0' T22 (mkF m 16 #[sR b, sR s1, sI (Int32.ofNat cs.length)] [(.ref b), (.ref b)]) := Steps.trans (Steps.trans cc21 st22) (by
    refine XS.istoreN X22.here hx rfl (dB d20_13) rfl rfl ?_
    refine XS.aloadN X22.here hx rfl (dB d20_14) rfl rfl ?_
    refine XS.aloadN X22.here hx rfl (dB d20_15) rfl rfl ?_
    exact Steps.refl _)
  obtain ⟨T24, X24, e24, st24⟩ := getF X22 hx hZ hown (host := "") (Or.inl w_97) Via.refl e22 N (g := (mkF m 16 #[sR b, sR s1, sI (Int32.ofNat cs.length)] [(.ref b), (.ref b)])) rfl rfl (dB d20_16)
  have cc25 : oS p e below S0' T24 (mkF m 21 #[sR b, sR s1, sI (Int32.ofNat cs.length)] [(.int ((Int32.ofNat bs.length) + (Int32.ofNat cs.length))), (.ref b)]) := Steps.trans (cc23.trans (st24 _ (Steps.refl _))) (by
    refine XS.iloadN X24.here hx rfl (dB d20_19) rfl ?_
    refine XS.iadd X24.here hx rfl (dB d20_20) rfl ?_
    exact Steps.refl _)
  have cz26 : oS p e below S0' T24 (mkF m 21 #[sR b, sR s1, sI (Int32.ofNat cs.length)] [(.int (Int32.ofNat (bs.length + cs.length))), (.ref b)]) := by
    have := cc25
    rw [add32n] at this
    exact this
  obtain ⟨cq27, q27a, q27b⟩ := E.cell
  obtain ⟨_, _, ⟨T27, L27, k27, n27⟩, -, X27, ⟨Lc27, hQ27, l27, y27, z27⟩, st27⟩ := X24.privateBack hx (y := yM6) hown (mvT hZ (own_w hw 99 rfl)) (mvT hZ w_100) (own_selP hZ (own_w hw 102 rfl) w_101 w_100 (by decide)) (Cond.privateMethod_at (mvP hZ w_101 (args := #[]))) (mvT hZ w_103) (by decide) (backOf (W := 0) (own_eci1 l Z a0 hw b t kt bs (bs.length + cs.length) h0 n0 Z0 E C N V M A hl) hZ w_103 w_69 (by decide) (by decide)) (g := (mkF m 21 #[sR b, sR s1, sI (Int32.ofNat cs.length)] [(.int (Int32.ofNat (bs.length + cs.length))), (.ref b)])) rfl (by rw [hml]; rfl) (Steps.refl _) (a := b) (by rw [e24]; exact q27a) q27b (argsL := [(.int (Int32.ofNat (bs.length + cs.length)))]) (rest := []) (lenOf own_pd1 rfl) rfl (Nat.le_of_eq rfl) (dB d20_21) (fun _ _ => ⟨rfl, e24, Nat.le_of_ble_eq_true rfl, Nat.le_of_ble_eq_true rfl⟩)
  dsimp only [Pt.U, Pt.locs, Pt.cells, Pt.slots] at X27 l27 y27 z27 st27 hQ27
  subst l27 y27 z27
  obtain ⟨rfl, Nq27, eq27⟩ := hQ27
  have N27 := Fr.app N22 Nq27
  have e27 : T27.heap = h0 := eq27
  have cc28 : oS p e below S0' T27 (mkF m 26 #[sR b, sR s1, sI (Int32.ofNat cs.length)] [(.ref b), (.ref b)]) := Steps.trans (Steps.trans cz26 st27) (by
    refine XS.aloadN X27.here hx rfl (dB d20_24) rfl rfl ?_
    refine XS.aloadN X27.here hx rfl (dB d20_25) rfl rfl ?_
    exact Steps.refl _)
  obtain ⟨T29, X29, e29, st29⟩ := getF X27 hx hZ hown (host := "") (Or.inl w_97) Via.refl e27 N (g := (mkF m 26 #[sR b, sR s1, sI (Int32.ofNat cs.length)] [(.ref b), (.ref b)])) rfl rfl (dB d20_26)
  have cc30 : oS p e below S0' T29 (mkF m 30 #[sR b, sR s1, sI (Int32.ofNat cs.length)] [(.ref s1), (.int (Int32.ofNat bs.length)), (.ref b)]) := Steps.trans (cc28.trans (st29 _ (Steps.refl _))) (by
    refine XS.aloadN X29.here hx rfl (dB d20_29) rfl rfl ?_
    exact Steps.refl _)
  obtain ⟨cq31, q31a, q31b⟩ := E.cell
  obtain ⟨_, _, ⟨T31, L31, k31, n31⟩, -, X31, ⟨Lc31, hQ31, l31, y31, z31⟩, st31⟩ := X29.privateBack hx (y := yM19) hown (mvT hZ (own_w hw 104 rfl)) (mvT hZ w_105) (own_selP hZ (own_w hw 107 rfl) w_106 w_105 (by decide)) (Cond.privateMethod_at (mvP hZ w_106 (args := #[]))) (mvT hZ w_108) (by decide) (backOf (W := 0) (own_psa11 l Z a0 hw b t kt bs s1 cs z f h0 n0 Z0 X00 O2 P5 O3 O4 hf E C N V M A Hs gb gt hl) hZ w_108 w_69 (by decide) (by decide)) (g := (mkF m 30 #[sR b, sR s1, sI (Int32.ofNat cs.length)] [(.ref s1), (.int (Int32.ofNat bs.length)), (.ref b)])) rfl (by rw [hml]; rfl) (Steps.refl _) (a := b) (by rw [e29]; exact q31a) q31b (argsL := [(.int (Int32.ofNat bs.length)), (.ref s1)]) (rest := []) (lenOf own_pd16 rfl) rfl (Nat.le_of_eq rfl) (dB d20_30) (fun _ _ => ⟨rfl, e29, Nat.le_of_ble_eq_true rfl, Nat.le_of_ble_eq_true rfl⟩)
  dsimp only [Pt.U, Pt.locs, Pt.cells, Pt.slots] at X31 l31 y31 z31 st31 hQ31
  subst l31 y31 z31
  obtain ⟨rfl, Nq31, Kq31, Aq31⟩ := hQ31
  have N31 := Fr.app N27 Nq31
  have KK1 : Keep h0 T31.heap [b, t] := KK0.trans Kq31 (allS (Or.inl (List.mem_of_getElem? (i := 1) rfl)) all0)
  have Zs1 : n0 ≤ T31.heap.size := Nat.le_trans Z0 Kq31.1
  have e31 : T31.heap = T31.heap := rfl
  have cc33 : oS p e below S0' T31 (mkF m 35 #[sR b, sR s1, sI (Int32.ofNat cs.length)] [(.ref b), (.ref b)]) := Steps.trans (Steps.trans cc30 st31) (by
    refine XS.aloadN X31.here hx rfl (dB d20_33) rfl rfl ?_
    refine XS.dup X31.here hx rfl (dB d20_34) rfl rfl ?_
    exact Steps.refl _)
  have fa32 : Fld Z T31.heap b "java/lang/AbstractStringBuilder" "count" "I" (.int (Int32.ofNat bs.length)) := (N.keep Kq31 (ninS ne_b_t nin0))
  obtain ⟨T34, X34, e34, st34⟩ := getF X31 hx hZ hown (host := "") (Or.inl w_97) Via.refl e31 fa32 (g := (mkF m 35 #[sR b, sR s1, sI (Int32.ofNat cs.length)] [(.ref b), (.ref b)])) rfl rfl (dB d20_35)
  have cc35 : oS p e below S0' T34 (mkF m 40 #[sR b, sR s1, sI (Int32.ofNat cs.length)] [(.int ((Int32.ofNat bs.length) + (Int32.ofNat cs.length))), (.ref b)]) := Steps.trans (cc33.trans (st34 _ (Steps.refl _))) (by
    refine XS.iloadN X34.here hx rfl (dB d20_38) rfl ?_
    refine XS.iadd X34.here hx rfl (dB d20_39) rfl ?_
    exact Steps.refl _)
  have cz36 : oS p e below S0' T34 (mkF m 40 #[sR b, sR s1, sI (Int32.ofNat cs.length)] [(.int (Int32.ofNat (bs ++ cs).length)), (.ref b)]) := by
    have := cc35
    rw [add32n, ← List.length_append] at this
    exact this
  have fa37 : Exa Z T31.heap b "java/lang/StringBuilder" := (E.keep Kq31)
  obtain ⟨T38, h38, X38, e38, W38, st38⟩ := putF X34 hx hZ hown (host := "") (Or.inl w_97) Via.refl e34 fa32 fa37 (Or.inl w_98) w_60 (ty := .int) (by decide) rfl rfl (g := (mkF m 40 #[sR b, sR s1, sI (Int32.ofNat cs.length)] [(.int (Int32.ofNat (bs ++ cs).length)), (.ref b)])) rfl rfl (dB d20_40)
  have K38 := Keep.of_wr W38
  have N38 := Fr.snoc X38 N31 gb
  have KK2 : Keep h0 h38 [b, t] := KK1.trans K38 (allS (Or.inl (List.mem_of_getElem? (i := 0) rfl)) all0)
  have Zs2 : n0 ≤ h38.size := Nat.le_trans Zs1 K38.1
  have cc40 : oS p e below S0' T38 (mkF m 44 #[sR b, sR s1, sI (Int32.ofNat cs.length)] [(.ref b)]) := Steps.trans (cz36.trans (st38 _ (Steps.refl _))) (by
    refine XS.aloadN X38.here hx rfl (dB d20_43) rfl rfl ?_
    exact Steps.refl _)
  have fa39 : Fld Z h38 b "java/lang/AbstractStringBuilder" "coder" "B" (.int (1 : Int32)) := ((C.keep Kq31 (ninS ne_b_t nin0)).other W38 (Or.inr (slot_ne (Or.inl (own_w hw 76 rfl)) (Or.inl w_98) (by decide) (t := .byte) (t' := .int) (by decide) (by decide))))
  have fa41 : Fld Z h38 b "java/lang/AbstractStringBuilder" "value" "[B" (.ref t) := ((V.keep Kq31 (ninS ne_b_t nin0)).other W38 (Or.inr (slot_ne (Or.inl (own_w hw 74 rfl)) (Or.inl w_98) (by decide) (t := (.array .byte)) (t' := .int) (by decide) (by decide))))
  have fa42 : Fld Z h38 b "java/lang/AbstractStringBuilder" "maybeLatin1" "Z" (.int (0 : Int32)) := ((M.keep Kq31 (ninS ne_b_t nin0)).other W38 (Or.inr (slot_ne (Or.inl (own_w hw 239 rfl)) (Or.inl w_98) (by decide) (t := .boolean) (t' := .int) (by decide) (by decide))))
  have fa43 : Arv Z h38 t kt .byte (32 : Int32) (StrChars.Road.wideBytes (bs ++ cs)) (.int (0 : Int32)) := (Aq31.keep K38 (ninS (Ne.symm ne_b_t) nin0))
  have cE := cc40
  rw [hS0'] at cE
  obtain ⟨fs, hr_, hrun, hended, hW, hsame⟩ := X38.leave (v := some (.ref b)) (fun h => by rw [Bd.returns] at h; cases h)
  refine ⟨_, _, cE.trans (X38.areturnOut hx (rfl) Bd.returns rfl (dB d20_44) hr_), hrun, hended, _, _, rfl, ?_, ⟨_, rfl⟩, hW, hsame.mono (by first | decide | omega) (by first | decide | omega)⟩
  show Q_own_aap11 Z b t kt bs s1 cs z f h0 n0 _ T38.heap _
  rw [e38]
  exact ⟨rfl, N38, KK2, fa39, (Fld.same W38 fa32), fa41, fa42, fa43⟩
def Q_own_app11 (Z : State) (b t : Addr) (kt : ClassId) (bs : List Int32) (s1 : Addr) (cs : List Int32) (z : Int32) (f : Value) (h0 : Heap) (n0 : Nat) (v : Option Value) (h : Heap) (L : List Loc) : Prop := v = some (.ref b) ∧ Fr n0 L ∧ Keep h0 h [b, t] ∧ Fld Z h b "java/lang/AbstractStringBuilder" "coder" "B" (.int (1 : Int32)) ∧ Fld Z h b "java/lang/AbstractStringBuilder" "count" "I" (.int (Int32.ofNat (bs ++ cs).length)) ∧ Fld Z h b "java/lang/AbstractStringBuilder" "value" "[B" (.ref t) ∧ Fld Z h b "java/lang/AbstractStringBuilder" "maybeLatin1" "Z" (.int (0 : Int32)) ∧ Arv Z h t kt .byte (32 : Int32) (StrChars.Road.wideBytes (bs ++ cs)) (.int (0 : Int32))
set_option maxRecDepth 65536 in
set_option maxHeartbeats 40000000 in
theorem own_app11 (l : Launch) (Z : State) (a0 : Array Value) (hw : ∀ d ∈ tables_1, d.before a0 Z = true) (b t : Addr) (kt : ClassId) (bs : List Int32) (s1 : Addr) (cs : List Int32) (z : Int32) (f : Value) (h0 : Heap) (n0 : Nat) (Z0 : n0 ≤ h0.size) (X00 : Old Z n0 h0) (O2 : Sta Z Z.heap "java/lang/String" "COMPACT_STRINGS" "Z" (.int z)) (P5 : ¬ z = 0) (O3 : StrChars.Road.U3Z Z Z.heap) (O4 : Sta Z Z.heap "jdk/internal/util/Preconditions" "SIOOBE_FORMATTER" "Ljava/util/function/BiFunction;" f) (hf : f.isRef = true) (E : Exa Z h0 b "java/lang/StringBuilder") (C : Fld Z h0 b "java/lang/AbstractStringBuilder" "coder" "B" (.int (1 : Int32))) (N : Fld Z h0 b "java/lang/AbstractStringBuilder" "count" "I" (.int (Int32.ofNat bs.length))) (V : Fld Z h0 b "java/lang/AbstractStringBuilder" "value" "[B" (.ref t)) (M : Fld Z h0 b "java/lang/AbstractStringBuilder" "maybeLatin1" "Z" (.int (0 : Int32))) (A : Arv Z h0 t kt .byte (32 : Int32) (StrChars.Road.wideBytes bs) (.int (0 : Int32))) (Hs : own_Wid Z h0 s1 cs) (gb : n0 ≤ b) (gt : n0 ≤ t) (hl : bs.length + cs.length ≤ 16) :
    MetFree l yM22 (head1 [Jvm.Cond.code yM22 jdk_67_method_7_code 2 (some (.object "java/lang/StringBuilder"))] rM18) (fun a_ U_ => a_ = #[(.ref b), (.ref s1)] ∧ Z.Warmed39 U_.vm ∧ U_.heap = h0) (fun _ _ _ _ _ => True) (fun _ U_ o_ V_ => ∃ v_ L_, o_ = .returned v_ ∧ Q_own_app11 Z b t kt bs s1 cs z f h0 n0 v_ V_.heap L_ ∧ FrameEnd U_ o_ V_ L_ rM18.cells rM18.slots) := by
  refine MetFree.of_bodySF (plainFor_of_name own_pn2) hisR ?_
  intro p e s m args below meth c s₁ Bd hml0 hP hK
  obtain ⟨rfl, hZ, hh⟩ := hP
  have hx := Bd.exec
  have hby := Bd.bytes
  have dB := @own_d c _ hby
  have hml : c.maxLocals = 2 := hml0
  have hown : s.vm.findClass "java/lang/StringBuilder" = some m.cls := findClass_of_methodNamed Bd.named
  have hnm := (name_of_methodNamed Bd.named Bd.method).1
  have X0 : Stand p l e rM18 s m #[(.ref b), (.ref s1)] below meth c s₁ [] 0 0 := Stand.of_body Bd
  have e0 : s₁.heap = h0 := by rw [← hh, Bd.state]; rfl
  have N0 := Fr.nil n0
  have KK0 := Keep.refl h0 [b, t]
  have cc0 : Steps p.tables e below (s₁.setTop (entryFrame m #[(.ref b), (.ref s1)] 2)) (s₁.setTop (mkF m 0 #[sR b, sR s1] [])) := XT.entry rfl
  obtain ⟨S0', hS0'⟩ : ∃ S, S = (s₁.setTop (entryFrame m #[(.ref b), (.ref s1)] 2)) := ⟨_, rfl⟩
  rw [← hS0'] at cc0
  have w_83 := own_w hw 83 rfl
  have w_86 := own_w hw 86 rfl
  have cc21 : oS p e below S0' s₁ (mkF m 2 #[sR b, sR s1] [(.ref s1), (.ref b)]) := Steps.trans cc0 (by
    refine XS.aloadN X0.here hx rfl (dB d21_0) rfl rfl ?_
    refine XS.aloadN X0.here hx rfl (dB d21_1) rfl rfl ?_
    exact Steps.refl _)
  obtain ⟨_, _, ⟨T22, L22, k22, n22⟩, -, X22, ⟨Lc22, hQ22, l22, y22, z22⟩, st22⟩ := superBack X0 hx hZ (y := yM21) hown (own_w hw 82 rfl) (own_sameM w_83 (own_w hw 102 rfl) rfl (by decide)) w_83 (own_w hw 84 rfl) (by decide) (backOf (W := 0) (own_aap11 l Z a0 hw b t kt bs s1 cs z f h0 n0 Z0 X00 O2 P5 O3 O4 hf E C N V M A Hs gb gt hl) hZ w_86 (own_w hw 69 rfl) (by decide) (by decide)) e0 (Ins.self E) (g := (mkF m 2 #[sR b, sR s1] [(.ref s1), (.ref b)])) rfl (by rw [hml]; rfl) w_86 (argsL := [(.ref s1)]) (rest := []) (lenOf own_pd17 rfl) rfl (Nat.le_of_eq rfl) (dB d21_2) (fun _ _ => ⟨rfl, e0, Nat.le_of_ble_eq_true rfl, Nat.le_of_ble_eq_true rfl⟩)
  dsimp only [Pt.U, Pt.locs, Pt.cells, Pt.slots] at X22 l22 y22 z22 st22 hQ22
  subst l22 y22 z22
  obtain ⟨rfl, Nq22, Kq22, f122, f222, f322, f422, f522⟩ := hQ22
  have N22 := Fr.app N0 Nq22
  have KK1 : Keep h0 T22.heap [b, t] := KK0.trans Kq22 (allS (Or.inl (List.mem_of_getElem? (i := 0) rfl)) (allS (Or.inl (List.mem_of_getElem? (i := 1) rfl)) all0))
  have Zs1 : n0 ≤ T22.heap.size := Nat.le_trans Z0 Kq22.1
  have e22 : T22.heap = T22.heap := rfl
  have cc23 : oS p e below S0' T22 (mkF m 7 #[sR b, sR s1] [(.ref b)]) := Steps.trans (Steps.trans cc21 st22) (by
    refine XT.pop X22.here hx rfl (dB d21_5) rfl rfl ?_
    refine XS.aloadN X22.here hx rfl (dB d21_6) rfl rfl ?_
    exact Steps.refl _)
  have cE := cc23
  rw [hS0'] at cE
  obtain ⟨fs, hr_, hrun, hended, hW, hsame⟩ := X22.leave (v := some (.ref b)) (fun h => by rw [Bd.returns] at h; cases h)
  refine ⟨_, _, cE.trans (X22.areturnOut hx (rfl) Bd.returns rfl (dB d21_7) hr_), hrun, hended, _, _, rfl, ?_, ⟨_, rfl⟩, hW, hsame.mono (by first | decide | omega) (by first | decide | omega)⟩
  show Q_own_app11 Z b t kt bs s1 cs z f h0 n0 _ T22.heap _
  rw [e22]
  exact ⟨rfl, N22, KK1, f122, f222, f322, f422, f522⟩
theorem d22_0 : decode kM22 0 = .ok (.aload_n 0, 1) := by decide +kernel
theorem d22_1 : decode kM22 1 = .ok (.getfield 15, 3) := by decide +kernel
theorem d22_4 : decode kM22 4 = .ok (.areturn, 1) := by decide +kernel
def Q_own_gv (Z : State) (b t : Addr) (h0 : Heap) (n0 : Nat) (v : Option Value) (h : Heap) (L : List Loc) : Prop := v = some (.ref t) ∧ Fr n0 L ∧ h = h0
set_option maxRecDepth 65536 in
set_option maxHeartbeats 40000000 in
theorem own_gv (l : Launch) (Z : State) (a0 : Array Value) (hw : ∀ d ∈ tables_1, d.before a0 Z = true) (b t : Addr) (h0 : Heap) (n0 : Nat) (Z0 : n0 ≤ h0.size) (V : Fld Z h0 b "java/lang/AbstractStringBuilder" "value" "[B" (.ref t)) :
    MetFree l yM23 (head1 [Jvm.Cond.code yM23 jdk_68_method_64_code 1 (some (.array .byte))] rM2) (fun a_ U_ => a_ = #[(.ref b)] ∧ Z.Warmed39 U_.vm ∧ U_.heap = h0) (fun _ _ _ _ _ => True) (fun _ U_ o_ V_ => ∃ v_ L_, o_ = .returned v_ ∧ Q_own_gv Z b t h0 n0 v_ V_.heap L_ ∧ FrameEnd U_ o_ V_ L_ rM2.cells rM2.slots) := by
  refine MetFree.of_bodySF (plainFor_of_name own_pn1) hisR ?_
  intro p e s m args below meth c s₁ Bd hml0 hP hK
  obtain ⟨rfl, hZ, hh⟩ := hP
  have hx := Bd.exec
  have hby := Bd.bytes
  have dB := @own_d c _ hby
  have hml : c.maxLocals = 1 := hml0
  have hown : s.vm.findClass "java/lang/AbstractStringBuilder" = some m.cls := findClass_of_methodNamed Bd.named
  have hnm := (name_of_methodNamed Bd.named Bd.method).1
  have X0 : Stand p l e rM2 s m #[(.ref b)] below meth c s₁ [] 0 0 := Stand.of_body Bd
  have e0 : s₁.heap = h0 := by rw [← hh, Bd.state]; rfl
  have N0 := Fr.nil n0
  have KK0 := Keep.refl h0 ([] : List Addr)
  have cc0 : Steps p.tables e below (s₁.setTop (entryFrame m #[(.ref b)] 1)) (s₁.setTop (mkF m 0 #[sR b] [])) := XT.entry rfl
  obtain ⟨S0', hS0'⟩ : ∃ S, S = (s₁.setTop (entryFrame m #[(.ref b)] 1)) := ⟨_, rfl⟩
  rw [← hS0'] at cc0
  have cc21 : oS p e below S0' s₁ (mkF m 1 #[sR b] [(.ref b)]) := Steps.trans cc0 (by
    refine XS.aloadN X0.here hx rfl (dB d22_0) rfl rfl ?_
    exact Steps.refl _)
  obtain ⟨T22, X22, e22, st22⟩ := getF X0 hx hZ hown (host := "") (Or.inl (own_w hw 73 rfl)) Via.refl e0 V (g := (mkF m 1 #[sR b] [(.ref b)])) rfl rfl (dB d22_1)
  have cc23 : oS p e below S0' T22 (mkF m 4 #[sR b] [(.ref t)]) := (cc21.trans (st22 _ (Steps.refl _)))
  have cE := cc23
  rw [hS0'] at cE
  obtain ⟨fs, hr_, hrun, hended, hW, hsame⟩ := X22.leave (v := some (.ref t)) (fun h => by rw [Bd.returns] at h; cases h)
  refine ⟨_, _, cE.trans (X22.areturnOut hx (rfl) Bd.returns rfl (dB d22_4) hr_), hrun, hended, _, _, rfl, ?_, ⟨_, rfl⟩, hW, hsame.mono (by first | decide | omega) (by first | decide | omega)⟩
  show Q_own_gv Z b t h0 n0 _ T22.heap _
  rw [e22]
  exact ⟨rfl, N0, rfl⟩
theorem d23_0 : decode kM23 0 = .ok (.aload_n 0, 1) := by decide +kernel
theorem d23_1 : decode kM23 1 = .ok (.getfield 79, 3) := by decide +kernel
theorem d23_4 : decode kM23 4 = .ok (.ireturn, 1) := by decide +kernel
def Q_own_asl (Z : State) (b : Addr) (n : Int32) (h0 : Heap) (n0 : Nat) (v : Option Value) (h : Heap) (L : List Loc) : Prop := v = some (.int n) ∧ Fr n0 L ∧ h = h0
set_option maxRecDepth 65536 in
set_option maxHeartbeats 40000000 in
theorem own_asl (l : Launch) (Z : State) (a0 : Array Value) (hw : ∀ d ∈ tables_1, d.before a0 Z = true) (b : Addr) (n : Int32) (h0 : Heap) (n0 : Nat) (Z0 : n0 ≤ h0.size) (N : Fld Z h0 b "java/lang/AbstractStringBuilder" "count" "I" (.int n)) :
    MetFree l yM24 (head1 [Jvm.Cond.code yM24 jdk_68_method_6_code 1 (some .int)] rM2) (fun a_ U_ => a_ = #[(.ref b)] ∧ Z.Warmed39 U_.vm ∧ U_.heap = h0) (fun _ _ _ _ _ => True) (fun _ U_ o_ V_ => ∃ v_ L_, o_ = .returned v_ ∧ Q_own_asl Z b n h0 n0 v_ V_.heap L_ ∧ FrameEnd U_ o_ V_ L_ rM2.cells rM2.slots) := by
  refine MetFree.of_bodySF (plainFor_of_name own_pn1) hisR ?_
  intro p e s m args below meth c s₁ Bd hml0 hP hK
  obtain ⟨rfl, hZ, hh⟩ := hP
  have hx := Bd.exec
  have hby := Bd.bytes
  have dB := @own_d c _ hby
  have hml : c.maxLocals = 1 := hml0
  have hown : s.vm.findClass "java/lang/AbstractStringBuilder" = some m.cls := findClass_of_methodNamed Bd.named
  have hnm := (name_of_methodNamed Bd.named Bd.method).1
  have X0 : Stand p l e rM2 s m #[(.ref b)] below meth c s₁ [] 0 0 := Stand.of_body Bd
  have e0 : s₁.heap = h0 := by rw [← hh, Bd.state]; rfl
  have N0 := Fr.nil n0
  have KK0 := Keep.refl h0 ([] : List Addr)
  have cc0 : Steps p.tables e below (s₁.setTop (entryFrame m #[(.ref b)] 1)) (s₁.setTop (mkF m 0 #[sR b] [])) := XT.entry rfl
  obtain ⟨S0', hS0'⟩ : ∃ S, S = (s₁.setTop (entryFrame m #[(.ref b)] 1)) := ⟨_, rfl⟩
  rw [← hS0'] at cc0
  have cc21 : oS p e below S0' s₁ (mkF m 1 #[sR b] [(.ref b)]) := Steps.trans cc0 (by
    refine XS.aloadN X0.here hx rfl (dB d23_0) rfl rfl ?_
    exact Steps.refl _)
  obtain ⟨T22, X22, e22, st22⟩ := getF X0 hx hZ hown (host := "") (Or.inl (own_w hw 97 rfl)) Via.refl e0 N (g := (mkF m 1 #[sR b] [(.ref b)])) rfl rfl (dB d23_1)
  have cc23 : oS p e below S0' T22 (mkF m 4 #[sR b] [(.int n)]) := (cc21.trans (st22 _ (Steps.refl _)))
  have cE := cc23
  rw [hS0'] at cE
  obtain ⟨fs, hr_, hrun, hended, hW, hsame⟩ := X22.leave (v := some (.int n)) (fun h => by rw [Bd.returns] at h; cases h)
  refine ⟨_, _, cE.trans (X22.ireturnOut hx Bd.returns (rfl) (by simp) (dB d23_4) hr_), hrun, hended, _, _, rfl, ?_, ⟨_, rfl⟩, hW, hsame.mono (by first | decide | omega) (by first | decide | omega)⟩
  show Q_own_asl Z b n h0 n0 _ T22.heap _
  rw [e22]
  exact ⟨rfl, N0, rfl⟩
theorem d24_0 : decode kM24 0 = .ok (.aload_n 0, 1) := by decide +kernel
theorem d24_1 : decode kM24 1 = .ok (.invokespecial 343, 3) := by decide +kernel
theorem d24_4 : decode kM24 4 = .ok (.ireturn, 1) := by decide +kernel
def Q_own_sbl (Z : State) (b : Addr) (n : Int32) (h0 : Heap) (n0 : Nat) (v : Option Value) (h : Heap) (L : List Loc) : Prop := v = some (.int n) ∧ Fr n0 L ∧ h = h0
set_option maxRecDepth 65536 in
set_option maxHeartbeats 40000000 in
theorem own_sbl (l : Launch) (Z : State) (a0 : Array Value) (hw : ∀ d ∈ tables_1, d.before a0 Z = true) (b : Addr) (n : Int32) (h0 : Heap) (n0 : Nat) (Z0 : n0 ≤ h0.size) (E : Exa Z h0 b "java/lang/StringBuilder") (N : Fld Z h0 b "java/lang/AbstractStringBuilder" "count" "I" (.int n)) :
    MetFree l yM25 (head1 [Jvm.Cond.code yM25 jdk_67_method_93_code 1 (some .int)] rM22) (fun a_ U_ => a_ = #[(.ref b)] ∧ Z.Warmed39 U_.vm ∧ U_.heap = h0) (fun _ _ _ _ _ => True) (fun _ U_ o_ V_ => ∃ v_ L_, o_ = .returned v_ ∧ Q_own_sbl Z b n h0 n0 v_ V_.heap L_ ∧ FrameEnd U_ o_ V_ L_ rM22.cells rM22.slots) := by
  refine MetFree.of_bodySF (plainFor_of_name own_pn2) hisR ?_
  intro p e s m args below meth c s₁ Bd hml0 hP hK
  obtain ⟨rfl, hZ, hh⟩ := hP
  have hx := Bd.exec
  have hby := Bd.bytes
  have dB := @own_d c _ hby
  have hml : c.maxLocals = 1 := hml0
  have hown : s.vm.findClass "java/lang/StringBuilder" = some m.cls := findClass_of_methodNamed Bd.named
  have hnm := (name_of_methodNamed Bd.named Bd.method).1
  have X0 : Stand p l e rM22 s m #[(.ref b)] below meth c s₁ [] 0 0 := Stand.of_body Bd
  have e0 : s₁.heap = h0 := by rw [← hh, Bd.state]; rfl
  have N0 := Fr.nil n0
  have KK0 := Keep.refl h0 ([] : List Addr)
  have cc0 : Steps p.tables e below (s₁.setTop (entryFrame m #[(.ref b)] 1)) (s₁.setTop (mkF m 0 #[sR b] [])) := XT.entry rfl
  obtain ⟨S0', hS0'⟩ : ∃ S, S = (s₁.setTop (entryFrame m #[(.ref b)] 1)) := ⟨_, rfl⟩
  rw [← hS0'] at cc0
  have w_144 := own_w hw 144 rfl
  have w_149 := own_w hw 149 rfl
  have cc21 : oS p e below S0' s₁ (mkF m 1 #[sR b] [(.ref b)]) := Steps.trans cc0 (by
    refine XS.aloadN X0.here hx rfl (dB d24_0) rfl rfl ?_
    exact Steps.refl _)
  obtain ⟨_, _, ⟨T22, L22, k22, n22⟩, -, X22, ⟨Lc22, hQ22, l22, y22, z22⟩, st22⟩ := superBack X0 hx hZ (y := yM24) hown (own_w hw 148 rfl) (own_sameM w_144 (own_w hw 102 rfl) rfl (by decide)) w_144 (own_w hw 84 rfl) (by decide) (backOf (W := 0) (own_asl l Z a0 hw b n h0 n0 Z0 N) hZ w_149 (own_w hw 69 rfl) (by decide) (by decide)) e0 (Ins.self E) (g := (mkF m 1 #[sR b] [(.ref b)])) rfl (by rw [hml]; rfl) w_149 (argsL := []) (rest := []) (lenOf own_pd15 rfl) rfl (Nat.le_of_eq rfl) (dB d24_1) (fun _ _ => ⟨rfl, e0, Nat.le_of_ble_eq_true rfl, Nat.le_of_ble_eq_true rfl⟩)
  dsimp only [Pt.U, Pt.locs, Pt.cells, Pt.slots] at X22 l22 y22 z22 st22 hQ22
  subst l22 y22 z22
  obtain ⟨rfl, Nq22, eq22⟩ := hQ22
  have N22 := Fr.app N0 Nq22
  have e22 : T22.heap = h0 := eq22
  have cc23 : oS p e below S0' T22 (mkF m 4 #[sR b] [(.int n)]) := (Steps.trans cc21 st22)
  have cE := cc23
  rw [hS0'] at cE
  obtain ⟨fs, hr_, hrun, hended, hW, hsame⟩ := X22.leave (v := some (.int n)) (fun h => by rw [Bd.returns] at h; cases h)
  refine ⟨_, _, cE.trans (X22.ireturnOut hx Bd.returns (rfl) (by simp) (dB d24_4) hr_), hrun, hended, _, _, rfl, ?_, ⟨_, rfl⟩, hW, hsame.mono (by first | decide | omega) (by first | decide | omega)⟩
  show Q_own_sbl Z b n h0 n0 _ T22.heap _
  rw [e22]
  exact ⟨rfl, N22, rfl⟩
theorem d25_0 : decode kM25 0 = .ok (.iload_n 1, 1) := by decide +kernel
theorem d25_1 : decode kM25 1 = .ok (.iload_n 0, 1) := by decide +kernel
theorem d25_2 : decode kM25 2 = .ok (.if_icmp .ge 35, 3) := by decide +kernel
theorem d25_37 : decode kM25 37 = .ok (.return_, 1) := by decide +kernel
def Q_own_chk (Z : State) (a b : Int32) (h0 : Heap) (n0 : Nat) (v : Option Value) (h : Heap) (L : List Loc) : Prop := v = none ∧ Fr n0 L ∧ h = h0
set_option maxRecDepth 65536 in
set_option maxHeartbeats 40000000 in
theorem own_chk (l : Launch) (Z : State) (a0 : Array Value) (hw : ∀ d ∈ tables_1, d.before a0 Z = true) (a b : Int32) (h0 : Heap) (n0 : Nat) (Z0 : n0 ≤ h0.size) (h1 : ¬ b < a) :
    MetFree l yM26 (head1 [Jvm.Cond.code yM26 jdk_65_method_131_code 2 none] rM2) (fun a_ U_ => a_ = #[(.int a), (.int b)] ∧ Z.Warmed39 U_.vm ∧ U_.heap = h0) (fun _ _ _ _ _ => True) (fun _ U_ o_ V_ => ∃ v_ L_, o_ = .returned v_ ∧ Q_own_chk Z a b h0 n0 v_ V_.heap L_ ∧ FrameEnd U_ o_ V_ L_ rM2.cells rM2.slots) := by
  refine MetFree.of_bodySF (plainFor_of_name own_pn6) hisR ?_
  intro p e s m args below meth c s₁ Bd hml0 hP hK
  obtain ⟨rfl, hZ, hh⟩ := hP
  have hx := Bd.exec
  have hby := Bd.bytes
  have dB := @own_d c _ hby
  have hml : c.maxLocals = 2 := hml0
  have hown : s.vm.findClass "java/util/Arrays" = some m.cls := findClass_of_methodNamed Bd.named
  have hnm := (name_of_methodNamed Bd.named Bd.method).1
  have X0 : Stand p l e rM2 s m #[(.int a), (.int b)] below meth c s₁ [] 0 0 := Stand.of_body Bd
  have e0 : s₁.heap = h0 := by rw [← hh, Bd.state]; rfl
  have N0 := Fr.nil n0
  have KK0 := Keep.refl h0 ([] : List Addr)
  have cc0 : Steps p.tables e below (s₁.setTop (entryFrame m #[(.int a), (.int b)] 2)) (s₁.setTop (mkF m 0 #[sI a, sI b] [])) := XT.entry rfl
  obtain ⟨S0', hS0'⟩ : ∃ S, S = (s₁.setTop (entryFrame m #[(.int a), (.int b)] 2)) := ⟨_, rfl⟩
  rw [← hS0'] at cc0
  have cc21 : oS p e below S0' s₁ (mkF m 37 #[sI a, sI b] []) := Steps.trans cc0 (by
    refine XS.iloadN X0.here hx rfl (dB d25_0) rfl ?_
    refine XS.iloadN X0.here hx rfl (dB d25_1) rfl ?_
    refine XS.icmpYes X0.here hx rfl (pc0 := 2) rfl (dB d25_2) rfl (ii_ge_t h1) (by decide) rfl ?_
    exact Steps.refl _)
  have cE := cc21
  rw [hS0'] at cE
  obtain ⟨fs, hr_, hrun, hended, hW, hsame⟩ := X0.leave (v := none) (fun _ => rfl)
  refine ⟨_, _, cE.trans (X0.returnOut hx Bd.returns (dB d25_37) hr_), hrun, hended, _, _, rfl, ?_, ⟨_, rfl⟩, hW, hsame.mono (by first | decide | omega) (by first | decide | omega)⟩
  show Q_own_chk Z a b h0 n0 _ s₁.heap _
  rw [e0]
  exact ⟨rfl, N0, rfl⟩
theorem d26_0 : decode kM26 0 = .ok (.iload_n 0, 1) := by decide +kernel
theorem d26_1 : decode kM26 1 = .ok (.iload_n 1, 1) := by decide +kernel
theorem d26_2 : decode kM26 2 = .ok (.if_icmp .gt 7, 3) := by decide +kernel
theorem d26_9 : decode kM26 9 = .ok (.iload_n 1, 1) := by decide +kernel
theorem d26_10 : decode kM26 10 = .ok (.ireturn, 1) := by decide +kernel
def Q_own_minb (Z : State) (a b : Int32) (h0 : Heap) (n0 : Nat) (v : Option Value) (h : Heap) (L : List Loc) : Prop := v = some (.int b) ∧ Fr n0 L ∧ h = h0
set_option maxRecDepth 65536 in
set_option maxHeartbeats 40000000 in
theorem own_minb (l : Launch) (Z : State) (a0 : Array Value) (hw : ∀ d ∈ tables_1, d.before a0 Z = true) (a b : Int32) (h0 : Heap) (n0 : Nat) (Z0 : n0 ≤ h0.size) (h1 : b < a) :
    MetFree l yM27 (head1 [Jvm.Cond.code yM27 jdk_29_method_69_code 2 (some .int)] rM2) (fun a_ U_ => a_ = #[(.int a), (.int b)] ∧ Z.Warmed39 U_.vm ∧ U_.heap = h0) (fun _ _ _ _ _ => True) (fun _ U_ o_ V_ => ∃ v_ L_, o_ = .returned v_ ∧ Q_own_minb Z a b h0 n0 v_ V_.heap L_ ∧ FrameEnd U_ o_ V_ L_ rM2.cells rM2.slots) := by
  refine MetFree.of_bodySF (by decide +kernel) hisR ?_
  intro p e s m args below meth c s₁ Bd hml0 hP hK
  obtain ⟨rfl, hZ, hh⟩ := hP
  have hx := Bd.exec
  have hby := Bd.bytes
  have dB := @own_d c _ hby
  have hml : c.maxLocals = 2 := hml0
  have hown : s.vm.findClass "java/lang/Math" = some m.cls := findClass_of_methodNamed Bd.named
  have hnm := (name_of_methodNamed Bd.named Bd.method).1
  have X0 : Stand p l e rM2 s m #[(.int a), (.int b)] below meth c s₁ [] 0 0 := Stand.of_body Bd
  have e0 : s₁.heap = h0 := by rw [← hh, Bd.state]; rfl
  have N0 := Fr.nil n0
  have KK0 := Keep.refl h0 ([] : List Addr)
  have cc0 : Steps p.tables e below (s₁.setTop (entryFrame m #[(.int a), (.int b)] 2)) (s₁.setTop (mkF m 0 #[sI a, sI b] [])) := XT.entry rfl
  obtain ⟨S0', hS0'⟩ : ∃ S, S = (s₁.setTop (entryFrame m #[(.int a), (.int b)] 2)) := ⟨_, rfl⟩
  rw [← hS0'] at cc0
  have cc21 : oS p e below S0' s₁ (mkF m 10 #[sI a, sI b] [(.int b)]) := Steps.trans cc0 (by
    refine XS.iloadN X0.here hx rfl (dB d26_0) rfl ?_
    refine XS.iloadN X0.here hx rfl (dB d26_1) rfl ?_
    refine XS.icmpYes X0.here hx rfl (pc0 := 2) rfl (dB d26_2) rfl (ii_gt_t h1) (by decide) rfl ?_
    refine XS.iloadN X0.here hx rfl (dB d26_9) rfl ?_
    exact Steps.refl _)
  have cE := cc21
  rw [hS0'] at cE
  obtain ⟨fs, hr_, hrun, hended, hW, hsame⟩ := X0.leave (v := some (.int b)) (fun h => by rw [Bd.returns] at h; cases h)
  refine ⟨_, _, cE.trans (X0.ireturnOut hx Bd.returns (rfl) (by simp) (dB d26_10) hr_), hrun, hended, _, _, rfl, ?_, ⟨_, rfl⟩, hW, hsame.mono (by first | decide | omega) (by first | decide | omega)⟩
  show Q_own_minb Z a b h0 n0 _ s₁.heap _
  rw [e0]
  exact ⟨rfl, N0, rfl⟩
theorem d27_0 : decode kM27 0 = .ok (.iload_n 1, 1) := by decide +kernel
theorem d27_1 : decode kM27 1 = .ok (.iload_n 2, 1) := by decide +kernel
theorem d27_2 : decode kM27 2 = .ok (.invokestatic 343, 3) := by decide +kernel
theorem d27_5 : decode kM27 5 = .ok (.iload_n 2, 1) := by decide +kernel
theorem d27_6 : decode kM27 6 = .ok (.iload_n 1, 1) := by decide +kernel
theorem d27_7 : decode kM27 7 = .ok (.isub, 1) := by decide +kernel
theorem d27_8 : decode kM27 8 = .ok (.istore_n 3, 1) := by decide +kernel
theorem d27_9 : decode kM27 9 = .ok (.iload_n 3, 1) := by decide +kernel
theorem d27_10 : decode kM27 10 = .ok (.newarray .byte, 2) := by decide +kernel
theorem d27_12 : decode kM27 12 = .ok (.astore 4, 2) := by decide +kernel
theorem d27_14 : decode kM27 14 = .ok (.aload_n 0, 1) := by decide +kernel
theorem d27_15 : decode kM27 15 = .ok (.iload_n 1, 1) := by decide +kernel
theorem d27_16 : decode kM27 16 = .ok (.aload 4, 2) := by decide +kernel
theorem d27_18 : decode kM27 18 = .ok (.iconst 0, 1) := by decide +kernel
theorem d27_19 : decode kM27 19 = .ok (.aload_n 0, 1) := by decide +kernel
theorem d27_20 : decode kM27 20 = .ok (.arraylength, 1) := by decide +kernel
theorem d27_21 : decode kM27 21 = .ok (.iload_n 1, 1) := by decide +kernel
theorem d27_22 : decode kM27 22 = .ok (.isub, 1) := by decide +kernel
theorem d27_23 : decode kM27 23 = .ok (.iload_n 3, 1) := by decide +kernel
theorem d27_24 : decode kM27 24 = .ok (.invokestatic 304, 3) := by decide +kernel
theorem d27_27 : decode kM27 27 = .ok (.invokestatic 150, 3) := by decide +kernel
theorem d27_30 : decode kM27 30 = .ok (.aload 4, 2) := by decide +kernel
theorem d27_32 : decode kM27 32 = .ok (.areturn, 1) := by decide +kernel
def Q_own_crb0 (Z : State) (a : Addr) (k : ClassId) (bs : List Int32) (h0 : Heap) (n0 : Nat) (v : Option Value) (h : Heap) (L : List Loc) : Prop := ∃ (t : Addr) (kt : ClassId), v = some (.ref t) ∧ Fr n0 L ∧ Keep h0 h [] ∧ h0.size ≤ t ∧ Arv Z h t kt .byte (Int32.ofNat bs.length) (own_by bs) (.int (0 : Int32))
set_option maxRecDepth 65536 in
set_option maxHeartbeats 40000000 in
theorem own_crb0 (l : Launch) (Z : State) (a0 : Array Value) (hw : ∀ d ∈ tables_1, d.before a0 Z = true) (a : Addr) (k : ClassId) (bs : List Int32) (h0 : Heap) (n0 : Nat) (Z0 : n0 ≤ h0.size) (A : Arv Z h0 a k .byte (16 : Int32) (own_by bs) (.int (0 : Int32))) (hb : bs.length < 16) :
    MetFree l yM28 (head1 [Jvm.Cond.code yM28 jdk_65_method_133_code 5 (some (.array .byte))] rM23) (fun a_ U_ => a_ = #[(.ref a), (.int 0), (.int (Int32.ofNat bs.length))] ∧ Z.Warmed39 U_.vm ∧ U_.heap = h0) (fun _ _ _ _ _ => True) (fun _ U_ o_ V_ => ∃ v_ L_, o_ = .returned v_ ∧ Q_own_crb0 Z a k bs h0 n0 v_ V_.heap L_ ∧ FrameEnd U_ o_ V_ L_ rM23.cells rM23.slots) := by
  refine MetFree.of_bodySF (plainFor_of_name own_pn6) hisR ?_
  intro p e s m args below meth c s₁ Bd hml0 hP hK
  obtain ⟨rfl, hZ, hh⟩ := hP
  have hx := Bd.exec
  have hby := Bd.bytes
  have dB := @own_d c _ hby
  have hml : c.maxLocals = 5 := hml0
  have hown : s.vm.findClass "java/util/Arrays" = some m.cls := findClass_of_methodNamed Bd.named
  have hnm := (name_of_methodNamed Bd.named Bd.method).1
  have X0 : Stand p l e rM23 s m #[(.ref a), (.int 0), (.int (Int32.ofNat bs.length))] below meth c s₁ [] 0 0 := Stand.of_body Bd
  have e0 : s₁.heap = h0 := by rw [← hh, Bd.state]; rfl
  have N0 := Fr.nil n0
  have KK0 := Keep.refl h0 ([] : List Addr)
  have cc0 : Steps p.tables e below (s₁.setTop (entryFrame m #[(.ref a), (.int 0), (.int (Int32.ofNat bs.length))] 5)) (s₁.setTop (mkF m 0 #[sR a, sI 0, sI (Int32.ofNat bs.length), .unset, .unset] [])) := XT.entry rfl
  obtain ⟨S0', hS0'⟩ : ∃ S, S = (s₁.setTop (entryFrame m #[(.ref a), (.int 0), (.int (Int32.ofNat bs.length))] 5)) := ⟨_, rfl⟩
  rw [← hS0'] at cc0
  have w_157 := own_w hw 157 rfl
  have w_164 := own_w hw 164 rfl
  have w_167 := own_w hw 167 rfl
  have w_168 := own_w hw 168 rfl
  have cc21 : oS p e below S0' s₁ (mkF m 2 #[sR a, sI 0, sI (Int32.ofNat bs.length), .unset, .unset] [(.int (Int32.ofNat bs.length)), (.int 0)]) := Steps.trans cc0 (by
    refine XS.iloadN X0.here hx rfl (dB d27_0) rfl ?_
    refine XS.iloadN X0.here hx rfl (dB d27_1) rfl ?_
    exact Steps.refl _)
  obtain ⟨_, _, ⟨T22, L22, k22, n22⟩, -, X22, ⟨Lc22, hQ22, l22, y22, z22⟩, st22⟩ := Jvm.LawKit.callS X0 hx (y := yM26) hown (mvT hZ (own_w hw 162 rfl)) (mvT hZ (own_w hw 163 rfl)) (mvT hZ w_157) (mvT hZ w_164) (by decide) (backOf (W := 0) (own_chk l Z a0 hw 0 (Int32.ofNat bs.length) h0 n0 Z0 (Int32.ofNat_not_neg (by omega))) hZ w_164 w_157 (by decide) (by decide)) (g := (mkF m 2 #[sR a, sI 0, sI (Int32.ofNat bs.length), .unset, .unset] [(.int (Int32.ofNat bs.length)), (.int 0)])) rfl (by rw [hml]; rfl) (argsL := [(.int 0), (.int (Int32.ofNat bs.length))]) (rest := []) (lenOf own_pd18 rfl) rfl (Nat.le_of_eq rfl) (dB d27_2) (fun _ _ => ⟨rfl, e0, Nat.le_of_ble_eq_true rfl, Nat.le_of_ble_eq_true rfl⟩)
  dsimp only [Pt.U, Pt.locs, Pt.cells, Pt.slots] at X22 l22 y22 z22 st22 hQ22
  subst l22 y22 z22
  obtain ⟨rfl, Nq22, eq22⟩ := hQ22
  have N22 := Fr.app N0 Nq22
  have e22 : T22.heap = h0 := eq22
  have cc23 : oS p e below S0' T22 (mkF m 8 #[sR a, sI 0, sI (Int32.ofNat bs.length), .unset, .unset] [(.int ((Int32.ofNat bs.length) - (0 : Int32)))]) := Steps.trans (cc21.trans (st22 _ (Steps.refl _))) (by
    refine XS.iloadN X22.here hx rfl (dB d27_5) rfl ?_
    refine XS.iloadN X22.here hx rfl (dB d27_6) rfl ?_
    refine XS.isub X22.here hx rfl (dB d27_7) rfl ?_
    exact Steps.refl _)
  have es : Int32.ofNat bs.length - 0 = Int32.ofNat bs.length := sub32n (b := 0) (Nat.zero_le _)
  have ng : ¬ Int32.ofNat bs.length < 0 := Int32.ofNat_not_neg (by omega)
  have en : (Int32.ofNat bs.length).toNatClampNeg = bs.length := n32 (by omega)
  have cz24 : oS p e below S0' T22 (mkF m 8 #[sR a, sI 0, sI (Int32.ofNat bs.length), .unset, .unset] [(.int (Int32.ofNat bs.length))]) := by
    have := cc23
    rw [es] at this
    exact this
  have cc25 : oS p e below S0' T22 (mkF m 10 #[sR a, sI 0, sI (Int32.ofNat bs.length), sI (Int32.ofNat bs.length), .unset] [(.int (Int32.ofNat bs.length))]) := Steps.trans cz24 (by
    refine XS.istoreN X22.here hx rfl (dB d27_8) rfl rfl ?_
    refine XS.iloadN X22.here hx rfl (dB d27_9) rfl ?_
    exact Steps.refl _)
  obtain ⟨T26, h26, k26, X26, e26, E26, A26, st26⟩ := newP X22 hx hZ (aty := .byte) (own_w hw 24 rfl) e22 (g := (mkF m 10 #[sR a, sI 0, sI (Int32.ofNat bs.length), sI (Int32.ofNat bs.length), .unset] [(.int (Int32.ofNat bs.length))])) rfl (dB d27_10) rfl ng (cap := 16) (by rw [en]; omega) (by decide) (by decide) (by decide)
  obtain ⟨t, g_t⟩ : ∃ z, z = h0.size := ⟨_, rfl⟩
  rw [← g_t] at A26 st26
  have K26 := (Keep.refl h0 ([] : List Addr)).ext E26
  have b_t : h0.size ≤ t := (Nat.le_of_eq g_t.symm)
  have gn_t : n0 ≤ t := Nat.le_trans Z0 b_t
  have s0_t : h0.size ≤ t := Nat.le_trans KK0.1 b_t
  have ne_a_t : a ≠ t := Nat.ne_of_lt (Nat.lt_of_lt_of_le A.lt b_t)
  have KK1 : Keep h0 h26 ([] : List Addr) := KK0.trans K26 all0
  have Zs1 : n0 ≤ h26.size := Nat.le_trans Z0 K26.1
  have Vp : Arv Z h26 t k26 .byte (Int32.ofNat bs.length) ([] ++ List.replicate bs.length (.int (0 : Int32))) (.int (0 : Int32)) := (Arv.new A26 ng).pad (pad_rep [] _ _)
  have cc28 : oS p e below S0' T26 (mkF m 20 #[sR a, sI 0, sI (Int32.ofNat bs.length), sI (Int32.ofNat bs.length), sR t] [(.ref a), (.int 0), (.ref t), (.int 0), (.ref a)]) := Steps.trans (cc25.trans (st26 _ (Steps.refl _))) (by
    refine XS.astore X26.here hx rfl (dB d27_12) rfl rfl rfl ?_
    refine XS.aloadN X26.here hx rfl (dB d27_14) rfl rfl ?_
    refine XS.iloadN X26.here hx rfl (dB d27_15) rfl ?_
    refine XS.aload X26.here hx rfl (dB d27_16) rfl rfl ?_
    refine iconstV X26.here hx rfl 0 (dB d27_18) (by decide) ?_
    refine XS.aloadN X26.here hx rfl (dB d27_19) rfl rfl ?_
    exact Steps.refl _)
  have fa27 : Arv Z h26 a k .byte (16 : Int32) (own_by bs) (.int (0 : Int32)) := (A.keep K26 nin0)
  obtain ⟨clu29, Aru29, -, Su29, Ngu29, -, -⟩ := id fa27
  have cl_u29 := X26.arraylength hx (by rw [e26]; exact Aru29.1) (State.isArrayOf_alike (hZ).alike Aru29.2.1) (g := (mkF m 20 #[sR a, sI 0, sI (Int32.ofNat bs.length), sI (Int32.ofNat bs.length), sR t] [(.ref a), (.int 0), (.ref t), (.int 0), (.ref a)])) rfl rfl (dB d27_20) _ (Steps.refl _)
  rw [len_of Su29 Ngu29] at cl_u29
  have cc30 : oS p e below S0' T26 (mkF m 24 #[sR a, sI 0, sI (Int32.ofNat bs.length), sI (Int32.ofNat bs.length), sR t] [(.int (Int32.ofNat bs.length)), (.int ((16 : Int32) - (0 : Int32))), (.int 0), (.ref t), (.int 0), (.ref a)]) := Steps.trans (Steps.trans cc28 cl_u29) (by
    refine XS.iloadN X26.here hx rfl (dB d27_21) rfl ?_
    refine XS.isub X26.here hx rfl (dB d27_22) rfl ?_
    refine XS.iloadN X26.here hx rfl (dB d27_23) rfl ?_
    exact Steps.refl _)
  obtain ⟨_, _, ⟨T31, L31, k31, n31⟩, -, X31, ⟨Lc31, hQ31, l31, y31, z31⟩, st31⟩ := Jvm.LawKit.callS X26 hx (y := yM27) hown (mvT hZ (own_w hw 165 rfl)) (mvT hZ (own_w hw 166 rfl)) (mvT hZ w_167) (mvT hZ w_168) (by decide) (backOf (W := 4) (own_minb l Z a0 hw ((16 : Int32) - 0) (Int32.ofNat bs.length) h26 n0 Zs1 (lt32 (b := 16) (by decide) (by omega))) hZ w_168 w_167 (by decide) (by decide)) (g := (mkF m 24 #[sR a, sI 0, sI (Int32.ofNat bs.length), sI (Int32.ofNat bs.length), sR t] [(.int (Int32.ofNat bs.length)), (.int ((16 : Int32) - (0 : Int32))), (.int 0), (.ref t), (.int 0), (.ref a)])) rfl (by rw [hml]; rfl) (argsL := [(.int ((16 : Int32) - (0 : Int32))), (.int (Int32.ofNat bs.length))]) (rest := [(.int 0), (.ref t), (.int 0), (.ref a)]) (lenOf own_pd19 rfl) rfl (Nat.le_of_eq rfl) (dB d27_24) (fun _ _ => ⟨rfl, e26, Nat.le_of_ble_eq_true rfl, Nat.le_of_ble_eq_true rfl⟩)
  dsimp only [Pt.U, Pt.locs, Pt.cells, Pt.slots] at X31 l31 y31 z31 st31 hQ31
  subst l31 y31 z31
  obtain ⟨rfl, Nq31, eq31⟩ := hQ31
  have N31 := Fr.app N22 Nq31
  have e31 : T31.heap = h26 := eq31
  have cc32 : oS p e below S0' T31 (mkF m 27 #[sR a, sI 0, sI (Int32.ofNat bs.length), sI (Int32.ofNat bs.length), sR t] [(.int (Int32.ofNat bs.length)), (.int 0), (.ref t), (.int 0), (.ref a)]) := (cc30.trans (st31 _ (Steps.refl _)))
  obtain ⟨T33, h33, L33, X33, e33, N33, K33, V33, st33⟩ := cpA X31 hx hZ hown (own_w hw 169 rfl) (own_w hw 123 rfl) (own_w hw 121 rfl) (own_w hw 122 rfl) e31 fa27 Vp (Or.inl ⟨rfl, rfl⟩) (by decide) (by decide) ng (us := (own_by bs)) (by rw [en]; show 0 + _ ≤ 16; omega) (by rw [en]; show 0 + _ ≤ _; omega) (by rw [en]; exact (own_take bs).symm) (by rw [en]; show 0 + _ ≤ _; simp) N31 gn_t (g := (mkF m 27 #[sR a, sI 0, sI (Int32.ofNat bs.length), sI (Int32.ofNat bs.length), sR t] [(.int (Int32.ofNat bs.length)), (.int 0), (.ref t), (.int 0), (.ref a)])) rfl (by rw [hml]; rfl) rfl (dB d27_27) (by decide) (W := 0) (by show 2 * 0 + _ ≤ _; exact Nat.le_of_eq rfl) (by decide)
  have KK2 : Keep h0 h33 ([] : List Addr) := KK1.trans K33 (allS (Or.inr s0_t) all0)
  have Zs2 : n0 ≤ h33.size := Nat.le_trans Zs1 K33.1
  have V33' : Arv Z h33 t k26 .byte (Int32.ofNat bs.length) (own_by bs) (.int (0 : Int32)) := own_arv_eq V33 (by rw [en]; show [] ++ _ ++ List.drop (0 + bs.length) _ = _; simp)
  have cc34 : oS p e below S0' T33 (mkF m 32 #[sR a, sI 0, sI (Int32.ofNat bs.length), sI (Int32.ofNat bs.length), sR t] [(.ref t)]) := Steps.trans (cc32.trans (st33 _ (Steps.refl _))) (by
    refine XS.aload X33.here hx rfl (dB d27_30) rfl rfl ?_
    exact Steps.refl _)
  have cE := cc34
  rw [hS0'] at cE
  obtain ⟨fs, hr_, hrun, hended, hW, hsame⟩ := X33.leave (v := some (.ref t)) (fun h => by rw [Bd.returns] at h; cases h)
  refine ⟨_, _, cE.trans (X33.areturnOut hx (rfl) Bd.returns rfl (dB d27_32) hr_), hrun, hended, _, _, rfl, ?_, ⟨_, rfl⟩, hW, hsame.mono (by first | decide | omega) (by first | decide | omega)⟩
  show Q_own_crb0 Z a k bs h0 n0 _ T33.heap _
  rw [e33]
  exact ⟨t, _, rfl, N33, KK2, s0_t, V33'⟩
theorem d28_0 : decode kM28 0 = .ok (.iload_n 1, 1) := by decide +kernel
theorem d28_1 : decode kM28 1 = .ok (.ifCond .ne 9, 3) := by decide +kernel
theorem d28_4 : decode kM28 4 = .ok (.iload_n 2, 1) := by decide +kernel
theorem d28_5 : decode kM28 5 = .ok (.aload_n 0, 1) := by decide +kernel
theorem d28_6 : decode kM28 6 = .ok (.arraylength, 1) := by decide +kernel
theorem d28_7 : decode kM28 7 = .ok (.if_icmp .eq 10, 3) := by decide +kernel
theorem d28_10 : decode kM28 10 = .ok (.aload_n 0, 1) := by decide +kernel
theorem d28_11 : decode kM28 11 = .ok (.iload_n 1, 1) := by decide +kernel
theorem d28_12 : decode kM28 12 = .ok (.iload_n 2, 1) := by decide +kernel
theorem d28_13 : decode kM28 13 = .ok (.invokestatic 339, 3) := by decide +kernel
theorem d28_16 : decode kM28 16 = .ok (.areturn, 1) := by decide +kernel
def Q_own_cr0 (Z : State) (a : Addr) (k : ClassId) (bs : List Int32) (h0 : Heap) (n0 : Nat) (v : Option Value) (h : Heap) (L : List Loc) : Prop := ∃ (t : Addr) (kt : ClassId), v = some (.ref t) ∧ Fr n0 L ∧ Keep h0 h [] ∧ h0.size ≤ t ∧ Arv Z h t kt .byte (Int32.ofNat bs.length) (own_by bs) (.int (0 : Int32))
set_option maxRecDepth 65536 in
set_option maxHeartbeats 40000000 in
theorem own_cr0 (l : Launch) (Z : State) (a0 : Array Value) (hw : ∀ d ∈ tables_1, d.before a0 Z = true) (a : Addr) (k : ClassId) (bs : List Int32) (h0 : Heap) (n0 : Nat) (Z0 : n0 ≤ h0.size) (A : Arv Z h0 a k .byte (16 : Int32) (own_by bs) (.int (0 : Int32))) (hb : bs.length < 16) :
    MetFree l yM29 (head1 [Jvm.Cond.code yM29 jdk_65_method_132_code 3 (some (.array .byte))] rM24) (fun a_ U_ => a_ = #[(.ref a), (.int 0), (.int (Int32.ofNat bs.length))] ∧ Z.Warmed39 U_.vm ∧ U_.heap = h0) (fun _ _ _ _ _ => True) (fun _ U_ o_ V_ => ∃ v_ L_, o_ = .returned v_ ∧ Q_own_cr0 Z a k bs h0 n0 v_ V_.heap L_ ∧ FrameEnd U_ o_ V_ L_ rM24.cells rM24.slots) := by
  refine MetFree.of_bodySF (plainFor_of_name own_pn6) hisR ?_
  intro p e s m args below meth c s₁ Bd hml0 hP hK
  obtain ⟨rfl, hZ, hh⟩ := hP
  have hx := Bd.exec
  have hby := Bd.bytes
  have dB := @own_d c _ hby
  have hml : c.maxLocals = 3 := hml0
  have hown : s.vm.findClass "java/util/Arrays" = some m.cls := findClass_of_methodNamed Bd.named
  have hnm := (name_of_methodNamed Bd.named Bd.method).1
  have X0 : Stand p l e rM24 s m #[(.ref a), (.int 0), (.int (Int32.ofNat bs.length))] below meth c s₁ [] 0 0 := Stand.of_body Bd
  have e0 : s₁.heap = h0 := by rw [← hh, Bd.state]; rfl
  have N0 := Fr.nil n0
  have KK0 := Keep.refl h0 ([] : List Addr)
  have cc0 : Steps p.tables e below (s₁.setTop (entryFrame m #[(.ref a), (.int 0), (.int (Int32.ofNat bs.length))] 3)) (s₁.setTop (mkF m 0 #[sR a, sI 0, sI (Int32.ofNat bs.length)] [])) := XT.entry rfl
  obtain ⟨S0', hS0'⟩ : ∃ S, S = (s₁.setTop (entryFrame m #[(.ref a), (.int 0), (.int (Int32.ofNat bs.length))] 3)) := ⟨_, rfl⟩
  rw [← hS0'] at cc0
  have w_157 := own_w hw 157 rfl
  have w_161 := own_w hw 161 rfl
  have cc21 : oS p e below S0' s₁ (mkF m 6 #[sR a, sI 0, sI (Int32.ofNat bs.length)] [(.ref a), (.int (Int32.ofNat bs.length))]) := Steps.trans cc0 (by
    refine XS.iloadN X0.here hx rfl (dB d28_0) rfl ?_
    refine XS.ifNo X0.here hx rfl (dB d28_1) rfl (i0_ne_f rfl) ?_
    refine XS.iloadN X0.here hx rfl (dB d28_4) rfl ?_
    refine XS.aloadN X0.here hx rfl (dB d28_5) rfl rfl ?_
    exact Steps.refl _)
  obtain ⟨clu22, Aru22, -, Su22, Ngu22, -, -⟩ := id A
  have cl_u22 := X0.arraylength hx (by rw [e0]; exact Aru22.1) (State.isArrayOf_alike (hZ).alike Aru22.2.1) (g := (mkF m 6 #[sR a, sI 0, sI (Int32.ofNat bs.length)] [(.ref a), (.int (Int32.ofNat bs.length))])) rfl rfl (dB d28_6) _ (Steps.refl _)
  rw [len_of Su22 Ngu22] at cl_u22
  have cc23 : oS p e below S0' s₁ (mkF m 13 #[sR a, sI 0, sI (Int32.ofNat bs.length)] [(.int (Int32.ofNat bs.length)), (.int 0), (.ref a)]) := Steps.trans (Steps.trans cc21 cl_u22) (by
    refine XS.icmpNo X0.here hx rfl (dB d28_7) rfl (ii_eq_f (ne32 (b := 16) (by omega) (by decide) (by omega))) ?_
    refine XS.aloadN X0.here hx rfl (dB d28_10) rfl rfl ?_
    refine XS.iloadN X0.here hx rfl (dB d28_11) rfl ?_
    refine XS.iloadN X0.here hx rfl (dB d28_12) rfl ?_
    exact Steps.refl _)
  obtain ⟨_, _, ⟨T24, L24, k24, n24⟩, -, X24, ⟨Lc24, hQ24, l24, y24, z24⟩, st24⟩ := Jvm.LawKit.callS X0 hx (y := yM28) hown (mvT hZ (own_w hw 159 rfl)) (mvT hZ (own_w hw 160 rfl)) (mvT hZ w_157) (mvT hZ w_161) (by decide) (backOf (W := 0) (own_crb0 l Z a0 hw a k bs h0 n0 Z0 A hb) hZ w_161 w_157 (by decide) (by decide)) (g := (mkF m 13 #[sR a, sI 0, sI (Int32.ofNat bs.length)] [(.int (Int32.ofNat bs.length)), (.int 0), (.ref a)])) rfl (by rw [hml]; rfl) (argsL := [(.ref a), (.int 0), (.int (Int32.ofNat bs.length))]) (rest := []) (lenOf own_pd20 rfl) rfl (Nat.le_of_eq rfl) (dB d28_13) (fun _ _ => ⟨rfl, e0, Nat.le_of_ble_eq_true rfl, Nat.le_of_ble_eq_true rfl⟩)
  dsimp only [Pt.U, Pt.locs, Pt.cells, Pt.slots] at X24 l24 y24 z24 st24 hQ24
  subst l24 y24 z24
  obtain ⟨t, kt, rfl, Nq24, Kq24, sq24, Aq24⟩ := hQ24
  have N24 := Fr.app N0 Nq24
  have KK1 : Keep h0 T24.heap ([] : List Addr) := KK0.trans Kq24 all0
  have Zs1 : n0 ≤ T24.heap.size := Nat.le_trans Z0 Kq24.1
  have e24 : T24.heap = T24.heap := rfl
  have cc25 : oS p e below S0' T24 (mkF m 16 #[sR a, sI 0, sI (Int32.ofNat bs.length)] [(.ref t)]) := (cc23.trans (st24 _ (Steps.refl _)))
  have cE := cc25
  rw [hS0'] at cE
  obtain ⟨fs, hr_, hrun, hended, hW, hsame⟩ := X24.leave (v := some (.ref t)) (fun h => by rw [Bd.returns] at h; cases h)
  refine ⟨_, _, cE.trans (X24.areturnOut hx (rfl) Bd.returns rfl (dB d28_16) hr_), hrun, hended, _, _, rfl, ?_, ⟨_, rfl⟩, hW, hsame.mono (by first | decide | omega) (by first | decide | omega)⟩
  show Q_own_cr0 Z a k bs h0 n0 _ T24.heap _
  rw [e24]
  exact ⟨t, kt, rfl, N24, KK1, sq24, Aq24⟩
theorem d29_0 : decode kM29 0 = .ok (.aload_n 0, 1) := by decide +kernel
theorem d29_1 : decode kM29 1 = .ok (.invokespecial 1, 3) := by decide +kernel
theorem d29_4 : decode kM29 4 = .ok (.aload_n 1, 1) := by decide +kernel
theorem d29_5 : decode kM29 5 = .ok (.invokevirtual 552, 3) := by decide +kernel
theorem d29_8 : decode kM29 8 = .ok (.astore_n 3, 1) := by decide +kernel
theorem d29_9 : decode kM29 9 = .ok (.aload_n 1, 1) := by decide +kernel
theorem d29_10 : decode kM29 10 = .ok (.invokevirtual 549, 3) := by decide +kernel
theorem d29_13 : decode kM29 13 = .ok (.istore 4, 2) := by decide +kernel
theorem d29_15 : decode kM29 15 = .ok (.aload_n 1, 1) := by decide +kernel
theorem d29_16 : decode kM29 16 = .ok (.invokevirtual 1047, 3) := by decide +kernel
theorem d29_19 : decode kM29 19 = .ok (.ifCond .eq 22, 3) := by decide +kernel
theorem d29_22 : decode kM29 22 = .ok (.aload_n 0, 1) := by decide +kernel
theorem d29_23 : decode kM29 23 = .ok (.iconst 0, 1) := by decide +kernel
theorem d29_24 : decode kM29 24 = .ok (.putfield 15, 3) := by decide +kernel
theorem d29_27 : decode kM29 27 = .ok (.aload_n 0, 1) := by decide +kernel
theorem d29_28 : decode kM29 28 = .ok (.aload_n 3, 1) := by decide +kernel
theorem d29_29 : decode kM29 29 = .ok (.iconst 0, 1) := by decide +kernel
theorem d29_30 : decode kM29 30 = .ok (.iload 4, 2) := by decide +kernel
theorem d29_32 : decode kM29 32 = .ok (.invokestatic 54, 3) := by decide +kernel
theorem d29_35 : decode kM29 35 = .ok (.putfield 9, 3) := by decide +kernel
theorem d29_38 : decode kM29 38 = .ok (.goto 59, 3) := by decide +kernel
theorem d29_97 : decode kM29 97 = .ok (.return_, 1) := by decide +kernel
def Q_own_si20 (Z : State) (x b t : Addr) (kt : ClassId) (bs : List Int32) (z : Int32) (h0 : Heap) (n0 : Nat) (v : Option Value) (h : Heap) (L : List Loc) : Prop := v = none ∧ Fr n0 L ∧ Keep h0 h [x] ∧ own_Lat Z h x bs
set_option maxRecDepth 65536 in
set_option maxHeartbeats 40000000 in
theorem own_si20 (l : Launch) (Z : State) (a0 : Array Value) (hw : ∀ d ∈ tables_1, d.before a0 Z = true) (x b t : Addr) (kt : ClassId) (bs : List Int32) (z : Int32) (h0 : Heap) (n0 : Nat) (Z0 : n0 ≤ h0.size) (X00 : Old Z n0 h0) (O2 : Sta Z Z.heap "java/lang/String" "COMPACT_STRINGS" "Z" (.int z)) (P5 : ¬ z = 0) (E : Exa Z h0 x "java/lang/String") (V : Fld Z h0 x "java/lang/String" "value" "[B" .null) (C : Fld Z h0 x "java/lang/String" "coder" "B" (.int (0 : Int32))) (gx : n0 ≤ x) (Eb : Exa Z h0 b "java/lang/StringBuilder") (Cb : Fld Z h0 b "java/lang/AbstractStringBuilder" "coder" "B" (.int (0 : Int32))) (Nb : Fld Z h0 b "java/lang/AbstractStringBuilder" "count" "I" (.int (Int32.ofNat bs.length))) (Vb : Fld Z h0 b "java/lang/AbstractStringBuilder" "value" "[B" (.ref t)) (Mb : Fld Z h0 b "java/lang/AbstractStringBuilder" "maybeLatin1" "Z" (.int (0 : Int32))) (Ab : Arv Z h0 t kt .byte (16 : Int32) (own_by bs) (.int (0 : Int32))) (hp : ∀ c ∈ bs, ¬ c < 0 ∧ ¬ (255 : Int32) < c) (hb : bs.length < 16) :
    MetFree l yM30 (head1 [Jvm.Cond.code yM30 jdk_42_method_150_code 5 none] rM25) (fun a_ U_ => a_ = #[(.ref x), (.ref b), .null] ∧ Z.Warmed39 U_.vm ∧ U_.heap = h0) (fun _ _ _ _ _ => True) (fun _ U_ o_ V_ => ∃ v_ L_, o_ = .returned v_ ∧ Q_own_si20 Z x b t kt bs z h0 n0 v_ V_.heap L_ ∧ FrameEnd U_ o_ V_ L_ rM25.cells rM25.slots) := by
  refine MetFree.of_bodySF (plainFor_of_name own_pn0) hisR ?_
  intro p e s m args below meth c s₁ Bd hml0 hP hK
  obtain ⟨rfl, hZ, hh⟩ := hP
  have hx := Bd.exec
  have hby := Bd.bytes
  have dB := @own_d c _ hby
  have hml : c.maxLocals = 5 := hml0
  have hown : s.vm.findClass "java/lang/String" = some m.cls := findClass_of_methodNamed Bd.named
  have hnm := (name_of_methodNamed Bd.named Bd.method).1
  have X0 : Stand p l e rM25 s m #[(.ref x), (.ref b), .null] below meth c s₁ [] 0 0 := Stand.of_body Bd
  have e0 : s₁.heap = h0 := by rw [← hh, Bd.state]; rfl
  have N0 := Fr.nil n0
  have KK0 := Keep.refl h0 [x]
  have cc0 : Steps p.tables e below (s₁.setTop (entryFrame m #[(.ref x), (.ref b), .null] 5)) (s₁.setTop (mkF m 0 #[sR x, sR b, .val .null, .unset, .unset] [])) := XT.entry rfl
  obtain ⟨S0', hS0'⟩ : ∃ S, S = (s₁.setTop (entryFrame m #[(.ref x), (.ref b), .null] 5)) := ⟨_, rfl⟩
  rw [← hS0'] at cc0
  have w_6 := own_w hw 6 rfl
  have w_32 := own_w hw 32 rfl
  have w_34 := own_w hw 34 rfl
  have w_69 := own_w hw 69 rfl
  have w_140 := own_w hw 140 rfl
  have w_153 := own_w hw 153 rfl
  have w_157 := own_w hw 157 rfl
  have w_158 := own_w hw 158 rfl
  have ne_x_t : x ≠ t := own_ne_arv E w_6 Ab
  have ne_x_b : x ≠ b := ne_exa E Eb (by decide)
  have cc21 : oS p e below S0' s₁ (mkF m 1 #[sR x, sR b, .val .null, .unset, .unset] [(.ref x)]) := Steps.trans cc0 (by
    refine XS.aloadN X0.here hx rfl (dB d29_0) rfl rfl ?_
    exact Steps.refl _)
  obtain ⟨T22, X22, e22, st22⟩ := initO X0 hx hZ hown (own_w hw 16 rfl) (own_w hw 17 rfl) (own_w hw 18 rfl) e0 (g := (mkF m 1 #[sR x, sR b, .val .null, .unset, .unset] [(.ref x)])) rfl (by rw [hml]; rfl) rfl (dB d29_1) (by decide) (W := 0) (by show 2 * 0 + _ ≤ _; exact Nat.le_of_eq rfl) (by decide)
  have cc23 : oS p e below S0' T22 (mkF m 5 #[sR x, sR b, .val .null, .unset, .unset] [(.ref b)]) := Steps.trans (cc21.trans (st22 _ (Steps.refl _))) (by
    refine XS.aloadN X22.here hx rfl (dB d29_4) rfl rfl ?_
    exact Steps.refl _)
  obtain ⟨cq24, kq24, qa24, qb24, qc24⟩ := isOf hZ e22 Eb
  obtain ⟨_, _, ⟨T24, L24, k24, n24⟩, -, X24, ⟨Lc24, hQ24, l24, y24, z24⟩, st24⟩ := X22.virtualBack hx (y := yM23) (z := yM23) hown (mvT hZ (own_w hw 137 rfl)) (mvT hZ (own_w hw 138 rfl)) (notFace_of_selects (args := #[]) (mvT hZ w_140)) (mvT hZ w_140) (mvT hZ (own_w hw 139 rfl)) (by decide) (backOf (W := 0) (own_gv l Z a0 hw b t h0 n0 Z0 Vb) hZ (own_w hw 141 rfl) w_69 (by decide) (by decide)) qa24 qc24 (g := (mkF m 5 #[sR x, sR b, .val .null, .unset, .unset] [(.ref b)])) rfl (by rw [hml]; rfl) (Steps.refl _) (argsL := []) (rest := []) (lenOf own_pd21 rfl) rfl (Nat.le_of_eq rfl) (dB d29_5) (fun _ _ => ⟨rfl, e22, Nat.le_of_ble_eq_true rfl, Nat.le_of_ble_eq_true rfl⟩)
  dsimp only [Pt.U, Pt.locs, Pt.cells, Pt.slots] at X24 l24 y24 z24 st24 hQ24
  subst l24 y24 z24
  obtain ⟨rfl, Nq24, eq24⟩ := hQ24
  have N24 := Fr.app N0 Nq24
  have e24 : T24.heap = h0 := eq24
  have cc25 : oS p e below S0' T24 (mkF m 10 #[sR x, sR b, .val .null, sR t, .unset] [(.ref b)]) := Steps.trans (Steps.trans cc23 st24) (by
    refine XS.astoreN X24.here hx rfl (dB d29_8) rfl rfl rfl ?_
    refine XS.aloadN X24.here hx rfl (dB d29_9) rfl rfl ?_
    exact Steps.refl _)
  obtain ⟨cq26, kq26, qa26, qb26, qc26⟩ := isOf hZ e24 Eb
  obtain ⟨_, _, ⟨T26, L26, k26, n26⟩, -, X26, ⟨Lc26, hQ26, l26, y26, z26⟩, st26⟩ := X24.virtualBack hx (y := yM24) (z := yM25) hown (mvT hZ (own_w hw 142 rfl)) (mvT hZ (own_w hw 143 rfl)) (own_nf hZ (own_w hw 102 rfl) rfl) (mvT hZ (own_w hw 145 rfl)) (mvT hZ (own_w hw 146 rfl)) (by decide) (backOf (W := 0) (own_sbl l Z a0 hw b (Int32.ofNat bs.length) h0 n0 Z0 Eb Nb) hZ (own_w hw 147 rfl) (own_w hw 61 rfl) (by decide) (by decide)) qa26 qc26 (g := (mkF m 10 #[sR x, sR b, .val .null, sR t, .unset] [(.ref b)])) rfl (by rw [hml]; rfl) (Steps.refl _) (argsL := []) (rest := []) (lenOf own_pd15 rfl) rfl (Nat.le_of_eq rfl) (dB d29_10) (fun _ _ => ⟨rfl, e24, Nat.le_of_ble_eq_true rfl, Nat.le_of_ble_eq_true rfl⟩)
  dsimp only [Pt.U, Pt.locs, Pt.cells, Pt.slots] at X26 l26 y26 z26 st26 hQ26
  subst l26 y26 z26
  obtain ⟨rfl, Nq26, eq26⟩ := hQ26
  have N26 := Fr.app N24 Nq26
  have e26 : T26.heap = h0 := eq26
  have cc27 : oS p e below S0' T26 (mkF m 16 #[sR x, sR b, .val .null, sR t, sI (Int32.ofNat bs.length)] [(.ref b)]) := Steps.trans (Steps.trans cc25 st26) (by
    refine XS.istore X26.here hx rfl (dB d29_13) rfl rfl ?_
    refine XS.aloadN X26.here hx rfl (dB d29_15) rfl rfl ?_
    exact Steps.refl _)
  obtain ⟨cq28, kq28, qa28, qb28, qc28⟩ := isOf hZ e26 Eb
  obtain ⟨_, _, ⟨T28, L28, k28, n28⟩, -, X28, ⟨Lc28, hQ28, l28, y28, z28⟩, st28⟩ := X26.virtualBack hx (y := yM3) (z := yM3) hown (mvT hZ (own_w hw 150 rfl)) (mvT hZ (own_w hw 151 rfl)) (notFace_of_selects (args := #[]) (mvT hZ w_153)) (mvT hZ w_153) (mvT hZ (own_w hw 152 rfl)) (by decide) (backOf (W := 0) (own_sil0 l Z a0 hw b z h0 n0 Z0 X00 O2 P5 Cb) hZ (own_w hw 154 rfl) w_69 (by decide) (by decide)) qa28 qc28 (g := (mkF m 16 #[sR x, sR b, .val .null, sR t, sI (Int32.ofNat bs.length)] [(.ref b)])) rfl (by rw [hml]; rfl) (Steps.refl _) (argsL := []) (rest := []) (lenOf own_pd9 rfl) rfl (Nat.le_of_eq rfl) (dB d29_16) (fun _ _ => ⟨rfl, e26, Nat.le_of_ble_eq_true rfl, Nat.le_of_ble_eq_true rfl⟩)
  dsimp only [Pt.U, Pt.locs, Pt.cells, Pt.slots] at X28 l28 y28 z28 st28 hQ28
  subst l28 y28 z28
  obtain ⟨rfl, Nq28, eq28⟩ := hQ28
  have N28 := Fr.app N26 Nq28
  have e28 : T28.heap = h0 := eq28
  have cc29 : oS p e below S0' T28 (mkF m 24 #[sR x, sR b, .val .null, sR t, sI (Int32.ofNat bs.length)] [(.int 0), (.ref x)]) := Steps.trans (Steps.trans cc27 st28) (by
    refine XS.ifNo X28.here hx rfl (dB d29_19) rfl (i0_eq_f (by decide)) ?_
    refine XS.aloadN X28.here hx rfl (dB d29_22) rfl rfl ?_
    refine iconstV X28.here hx rfl 0 (dB d29_23) (by decide) ?_
    exact Steps.refl _)
  obtain ⟨T30, h30, X30, e30, W30, st30⟩ := putFN X28 hx hZ hown (own_w hw 31 rfl) Via.refl e28 C E (Or.inr ⟨w_32, rfl, hnm⟩) w_6 (ty := .byte) (v' := (.int (0 : Int32))) (by decide) rfl rfl (g := (mkF m 24 #[sR x, sR b, .val .null, sR t, sI (Int32.ofNat bs.length)] [(.int 0), (.ref x)])) rfl rfl (dB d29_24)
  have K30 := Keep.of_wr W30
  have N30 := Fr.snoc X30 N28 gx
  have KK1 : Keep h0 h30 [x] := KK0.trans K30 (allS (Or.inl (List.mem_of_getElem? (i := 0) rfl)) all0)
  have Zs1 : n0 ≤ h30.size := Nat.le_trans Z0 K30.1
  have cc32 : oS p e below S0' T30 (mkF m 32 #[sR x, sR b, .val .null, sR t, sI (Int32.ofNat bs.length)] [(.int (Int32.ofNat bs.length)), (.int 0), (.ref t), (.ref x)]) := Steps.trans (cc29.trans (st30 _ (Steps.refl _))) (by
    refine XS.aloadN X30.here hx rfl (dB d29_27) rfl rfl ?_
    refine XS.aloadN X30.here hx rfl (dB d29_28) rfl rfl ?_
    refine iconstV X30.here hx rfl 0 (dB d29_29) (by decide) ?_
    refine XS.iload X30.here hx rfl (dB d29_30) rfl ?_
    exact Steps.refl _)
  have fa31 : Arv Z h30 t kt .byte (16 : Int32) (own_by bs) (.int (0 : Int32)) := (Ab.keep K30 (ninS (Ne.symm ne_x_t) nin0))
  obtain ⟨_, _, ⟨T33, L33, k33, n33⟩, -, X33, ⟨Lc33, hQ33, l33, y33, z33⟩, st33⟩ := Jvm.LawKit.callS X30 hx (y := yM29) hown (mvT hZ (own_w hw 155 rfl)) (mvT hZ (own_w hw 156 rfl)) (mvT hZ w_157) (mvT hZ w_158) (by decide) (backOf (W := 1) (own_cr0 l Z a0 hw t kt bs h30 n0 Zs1 fa31 hb) hZ w_158 w_157 (by decide) (by decide)) (g := (mkF m 32 #[sR x, sR b, .val .null, sR t, sI (Int32.ofNat bs.length)] [(.int (Int32.ofNat bs.length)), (.int 0), (.ref t), (.ref x)])) rfl (by rw [hml]; rfl) (argsL := [(.ref t), (.int 0), (.int (Int32.ofNat bs.length))]) (rest := [(.ref x)]) (lenOf own_pd20 rfl) rfl (Nat.le_of_eq rfl) (dB d29_32) (fun _ _ => ⟨rfl, e30, Nat.le_of_ble_eq_true rfl, Nat.le_of_ble_eq_true rfl⟩)
  dsimp only [Pt.U, Pt.locs, Pt.cells, Pt.slots] at X33 l33 y33 z33 st33 hQ33
  subst l33 y33 z33
  obtain ⟨u, ku, rfl, Nq33, Kq33, sq33, Aq33⟩ := hQ33
  have N33 := Fr.app N30 Nq33
  have b_u : h30.size ≤ u := sq33
  have gn_u : n0 ≤ u := Nat.le_trans Zs1 b_u
  have s0_u : h0.size ≤ u := Nat.le_trans KK1.1 b_u
  have fa34 : Exa Z h30 x "java/lang/String" := (E.keep K30)
  have ne_x_u : x ≠ u := Nat.ne_of_lt (Nat.lt_of_lt_of_le fa34.lt b_u)
  have fa35 : Exa Z h30 b "java/lang/StringBuilder" := (Eb.keep K30)
  have ne_b_u : b ≠ u := Nat.ne_of_lt (Nat.lt_of_lt_of_le fa35.lt b_u)
  have ne_t_u : t ≠ u := Nat.ne_of_lt (Nat.lt_of_lt_of_le fa31.lt b_u)
  have KK2 : Keep h0 T33.heap [x] := KK1.trans Kq33 all0
  have Zs2 : n0 ≤ T33.heap.size := Nat.le_trans Zs1 Kq33.1
  have e33 : T33.heap = T33.heap := rfl
  have cc37 : oS p e below S0' T33 (mkF m 35 #[sR x, sR b, .val .null, sR t, sI (Int32.ofNat bs.length)] [(.ref u), (.ref x)]) := (cc32.trans (st33 _ (Steps.refl _)))
  have fa36 : Fld Z T33.heap x "java/lang/String" "value" "[B" .null := ((V.other W30 (Or.inr (slot_ne (Or.inr w_34) (Or.inr w_32) (by decide) (t := (.array .byte)) (t' := .byte) (by decide) (by decide)))).keep Kq33 nin0)
  have fa38 : Exa Z T33.heap x "java/lang/String" := (fa34.keep Kq33)
  obtain ⟨T39, h39, X39, e39, W39, st39⟩ := putF X33 hx hZ hown (host := "") (Or.inl (own_w hw 33 rfl)) Via.refl e33 fa36 fa38 (Or.inr ⟨w_34, rfl, hnm⟩) w_6 (ty := (.array .byte)) (by decide) rfl rfl (g := (mkF m 35 #[sR x, sR b, .val .null, sR t, sI (Int32.ofNat bs.length)] [(.ref u), (.ref x)])) rfl rfl (dB d29_35)
  have K39 := Keep.of_wr W39
  have N39 := Fr.snoc X39 N33 gx
  have KK3 : Keep h0 h39 [x] := KK2.trans K39 (allS (Or.inl (List.mem_of_getElem? (i := 0) rfl)) all0)
  have Zs3 : n0 ≤ h39.size := Nat.le_trans Zs2 K39.1
  have cc41 : oS p e below S0' T39 (mkF m 97 #[sR x, sR b, .val .null, sR t, sI (Int32.ofNat bs.length)] []) := Steps.trans (cc37.trans (st39 _ (Steps.refl _))) (by
    refine XS.goto X39.here hx rfl (pc0 := 38) rfl (dB d29_38) (by decide) rfl ?_
    exact Steps.refl _)
  have fa40 : Exa Z h39 x "java/lang/String" := (fa38.keep K39)
  have fa42 : Fld Z h39 x "java/lang/String" "coder" "B" (.int (0 : Int32)) := (((Fld.same W30 C).keep Kq33 nin0).other W39 (Or.inr (slot_ne (Or.inr w_32) (Or.inr w_34) (by decide) (t := .byte) (t' := (.array .byte)) (by decide) (by decide))))
  have fa43 : Arv Z h39 u ku .byte (Int32.ofNat bs.length) (own_by bs) (.int (0 : Int32)) := (Aq33.keep K39 (ninS (Ne.symm ne_x_u) nin0))
  have cE := cc41
  rw [hS0'] at cE
  obtain ⟨fs, hr_, hrun, hended, hW, hsame⟩ := X39.leave (v := none) (fun _ => rfl)
  refine ⟨_, _, cE.trans (X39.returnOut hx Bd.returns (dB d29_97) hr_), hrun, hended, _, _, rfl, ?_, ⟨_, rfl⟩, hW, hsame.mono (by first | decide | omega) (by first | decide | omega)⟩
  show Q_own_si20 Z x b t kt bs z h0 n0 _ T39.heap _
  rw [e39]
  exact ⟨rfl, N39, KK3, fa40, fa42, hp, by omega, u, ku, (Fld.same W39 fa36), fa43⟩
theorem d30_0 : decode kM30 0 = .ok (.aload_n 0, 1) := by decide +kernel
theorem d30_1 : decode kM30 1 = .ok (.aload_n 1, 1) := by decide +kernel
theorem d30_2 : decode kM30 2 = .ok (.aconst_null, 1) := by decide +kernel
theorem d30_3 : decode kM30 3 = .ok (.invokespecial 489, 3) := by decide +kernel
theorem d30_6 : decode kM30 6 = .ok (.return_, 1) := by decide +kernel
def Q_own_si10 (Z : State) (x b t : Addr) (kt : ClassId) (bs : List Int32) (z : Int32) (h0 : Heap) (n0 : Nat) (v : Option Value) (h : Heap) (L : List Loc) : Prop := v = none ∧ Fr n0 L ∧ Keep h0 h [x] ∧ own_Lat Z h x bs
set_option maxRecDepth 65536 in
set_option maxHeartbeats 40000000 in
theorem own_si10 (l : Launch) (Z : State) (a0 : Array Value) (hw : ∀ d ∈ tables_1, d.before a0 Z = true) (x b t : Addr) (kt : ClassId) (bs : List Int32) (z : Int32) (h0 : Heap) (n0 : Nat) (Z0 : n0 ≤ h0.size) (X00 : Old Z n0 h0) (O2 : Sta Z Z.heap "java/lang/String" "COMPACT_STRINGS" "Z" (.int z)) (P5 : ¬ z = 0) (E : Exa Z h0 x "java/lang/String") (V : Fld Z h0 x "java/lang/String" "value" "[B" .null) (C : Fld Z h0 x "java/lang/String" "coder" "B" (.int (0 : Int32))) (gx : n0 ≤ x) (Eb : Exa Z h0 b "java/lang/StringBuilder") (Cb : Fld Z h0 b "java/lang/AbstractStringBuilder" "coder" "B" (.int (0 : Int32))) (Nb : Fld Z h0 b "java/lang/AbstractStringBuilder" "count" "I" (.int (Int32.ofNat bs.length))) (Vb : Fld Z h0 b "java/lang/AbstractStringBuilder" "value" "[B" (.ref t)) (Mb : Fld Z h0 b "java/lang/AbstractStringBuilder" "maybeLatin1" "Z" (.int (0 : Int32))) (Ab : Arv Z h0 t kt .byte (16 : Int32) (own_by bs) (.int (0 : Int32))) (hp : ∀ c ∈ bs, ¬ c < 0 ∧ ¬ (255 : Int32) < c) (hb : bs.length < 16) :
    MetFree l yM31 (head1 [Jvm.Cond.code yM31 jdk_42_method_53_code 2 none] rM26) (fun a_ U_ => a_ = #[(.ref x), (.ref b)] ∧ Z.Warmed39 U_.vm ∧ U_.heap = h0) (fun _ _ _ _ _ => True) (fun _ U_ o_ V_ => ∃ v_ L_, o_ = .returned v_ ∧ Q_own_si10 Z x b t kt bs z h0 n0 v_ V_.heap L_ ∧ FrameEnd U_ o_ V_ L_ rM26.cells rM26.slots) := by
  refine MetFree.of_bodySF (plainFor_of_name own_pn0) hisR ?_
  intro p e s m args below meth c s₁ Bd hml0 hP hK
  obtain ⟨rfl, hZ, hh⟩ := hP
  have hx := Bd.exec
  have hby := Bd.bytes
  have dB := @own_d c _ hby
  have hml : c.maxLocals = 2 := hml0
  have hown : s.vm.findClass "java/lang/String" = some m.cls := findClass_of_methodNamed Bd.named
  have hnm := (name_of_methodNamed Bd.named Bd.method).1
  have X0 : Stand p l e rM26 s m #[(.ref x), (.ref b)] below meth c s₁ [] 0 0 := Stand.of_body Bd
  have e0 : s₁.heap = h0 := by rw [← hh, Bd.state]; rfl
  have N0 := Fr.nil n0
  have KK0 := Keep.refl h0 [x]
  have cc0 : Steps p.tables e below (s₁.setTop (entryFrame m #[(.ref x), (.ref b)] 2)) (s₁.setTop (mkF m 0 #[sR x, sR b] [])) := XT.entry rfl
  obtain ⟨S0', hS0'⟩ : ∃ S, S = (s₁.setTop (entryFrame m #[(.ref x), (.ref b)] 2)) := ⟨_, rfl⟩
  rw [← hS0'] at cc0
  have w_136 := own_w hw 136 rfl
  have cc21 : oS p e below S0' s₁ (mkF m 3 #[sR x, sR b] [.null, (.ref b), (.ref x)]) := Steps.trans cc0 (by
    refine XS.aloadN X0.here hx rfl (dB d30_0) rfl rfl ?_
    refine XS.aloadN X0.here hx rfl (dB d30_1) rfl rfl ?_
    refine XS.aconstNull X0.here hx rfl (dB d30_2) ?_
    exact Steps.refl _)
  obtain ⟨_, _, ⟨T22, L22, k22, n22⟩, -, X22, ⟨Lc22, hQ22, l22, y22, z22⟩, st22⟩ := X0.specialBack hx (y := yM30) rfl hown (mvT hZ (own_w hw 134 rfl)) (mvT hZ (own_w hw 135 rfl)) (mvT hZ w_136) (by decide) (backOf (W := 0) (own_si20 l Z a0 hw x b t kt bs z h0 n0 Z0 X00 O2 P5 E V C gx Eb Cb Nb Vb Mb Ab hp hb) hZ w_136 (own_w hw 7 rfl) (by decide) (by decide)) (g := (mkF m 3 #[sR x, sR b] [.null, (.ref b), (.ref x)])) rfl (by rw [hml]; rfl) (Steps.refl _) (a := x) (argsL := [(.ref b), .null]) (rest := []) (lenOf own_pd22 rfl) rfl (Nat.le_of_eq rfl) (dB d30_3) (fun _ _ => ⟨rfl, e0, Nat.le_of_ble_eq_true rfl, Nat.le_of_ble_eq_true rfl⟩)
  dsimp only [Pt.U, Pt.locs, Pt.cells, Pt.slots] at X22 l22 y22 z22 st22 hQ22
  subst l22 y22 z22
  obtain ⟨rfl, Nq22, Kq22, Hq22⟩ := hQ22
  have N22 := Fr.app N0 Nq22
  have KK1 : Keep h0 T22.heap [x] := KK0.trans Kq22 (allS (Or.inl (List.mem_of_getElem? (i := 0) rfl)) all0)
  have Zs1 : n0 ≤ T22.heap.size := Nat.le_trans Z0 Kq22.1
  have e22 : T22.heap = T22.heap := rfl
  have cc23 : oS p e below S0' T22 (mkF m 6 #[sR x, sR b] []) := (Steps.trans cc21 st22)
  have cE := cc23
  rw [hS0'] at cE
  obtain ⟨fs, hr_, hrun, hended, hW, hsame⟩ := X22.leave (v := none) (fun _ => rfl)
  refine ⟨_, _, cE.trans (X22.returnOut hx Bd.returns (dB d30_6) hr_), hrun, hended, _, _, rfl, ?_, ⟨_, rfl⟩, hW, hsame.mono (by first | decide | omega) (by first | decide | omega)⟩
  show Q_own_si10 Z x b t kt bs z h0 n0 _ T22.heap _
  rw [e22]
  exact ⟨rfl, N22, KK1, Hq22⟩
theorem d31_0 : decode kM31 0 = .ok (.new 18, 3) := by decide +kernel
theorem d31_3 : decode kM31 3 = .ok (.dup, 1) := by decide +kernel
theorem d31_4 : decode kM31 4 = .ok (.aload_n 0, 1) := by decide +kernel
theorem d31_5 : decode kM31 5 = .ok (.invokespecial 137, 3) := by decide +kernel
theorem d31_8 : decode kM31 8 = .ok (.areturn, 1) := by decide +kernel
def Q_own_tos0 (Z : State) (b t : Addr) (kt : ClassId) (bs : List Int32) (z : Int32) (h0 : Heap) (n0 : Nat) (v : Option Value) (h : Heap) (L : List Loc) : Prop := ∃ x : Addr, v = some (.ref x) ∧ Fr n0 L ∧ Keep h0 h [] ∧ h0.size ≤ x ∧ own_Lat Z h x bs
set_option maxRecDepth 65536 in
set_option maxHeartbeats 40000000 in
theorem own_tos0 (l : Launch) (Z : State) (a0 : Array Value) (hw : ∀ d ∈ tables_1, d.before a0 Z = true) (b t : Addr) (kt : ClassId) (bs : List Int32) (z : Int32) (h0 : Heap) (n0 : Nat) (Z0 : n0 ≤ h0.size) (X00 : Old Z n0 h0) (O2 : Sta Z Z.heap "java/lang/String" "COMPACT_STRINGS" "Z" (.int z)) (P5 : ¬ z = 0) (E : Exa Z h0 b "java/lang/StringBuilder") (C : Fld Z h0 b "java/lang/AbstractStringBuilder" "coder" "B" (.int (0 : Int32))) (N : Fld Z h0 b "java/lang/AbstractStringBuilder" "count" "I" (.int (Int32.ofNat bs.length))) (V : Fld Z h0 b "java/lang/AbstractStringBuilder" "value" "[B" (.ref t)) (M : Fld Z h0 b "java/lang/AbstractStringBuilder" "maybeLatin1" "Z" (.int (0 : Int32))) (A : Arv Z h0 t kt .byte (16 : Int32) (own_by bs) (.int (0 : Int32))) (hp : ∀ c ∈ bs, ¬ c < 0 ∧ ¬ (255 : Int32) < c) (hb : bs.length < 16) :
    MetFree l yM32 (head1 [Jvm.Cond.code yM32 jdk_67_method_42_code 1 (some (.object "java/lang/String"))] rM27) (fun a_ U_ => a_ = #[(.ref b)] ∧ Z.Warmed39 U_.vm ∧ U_.heap = h0) (fun _ _ _ _ _ => True) (fun _ U_ o_ V_ => ∃ v_ L_, o_ = .returned v_ ∧ Q_own_tos0 Z b t kt bs z h0 n0 v_ V_.heap L_ ∧ FrameEnd U_ o_ V_ L_ rM27.cells rM27.slots) := by
  refine MetFree.of_bodySF (plainFor_of_name own_pn2) hisR ?_
  intro p e s m args below meth c s₁ Bd hml0 hP hK
  obtain ⟨rfl, hZ, hh⟩ := hP
  have hx := Bd.exec
  have hby := Bd.bytes
  have dB := @own_d c _ hby
  have hml : c.maxLocals = 1 := hml0
  have hown : s.vm.findClass "java/lang/StringBuilder" = some m.cls := findClass_of_methodNamed Bd.named
  have hnm := (name_of_methodNamed Bd.named Bd.method).1
  have X0 : Stand p l e rM27 s m #[(.ref b)] below meth c s₁ [] 0 0 := Stand.of_body Bd
  have e0 : s₁.heap = h0 := by rw [← hh, Bd.state]; rfl
  have N0 := Fr.nil n0
  have KK0 := Keep.refl h0 ([] : List Addr)
  have cc0 : Steps p.tables e below (s₁.setTop (entryFrame m #[(.ref b)] 1)) (s₁.setTop (mkF m 0 #[sR b] [])) := XT.entry rfl
  obtain ⟨S0', hS0'⟩ : ∃ S, S = (s₁.setTop (entryFrame m #[(.ref b)] 1)) := ⟨_, rfl⟩
  rw [← hS0'] at cc0
  have w_7 := own_w hw 7 rfl
  have w_133 := own_w hw 133 rfl
  obtain ⟨T21, h21, X21, e21, E21, A21, D21, -, st21⟩ := newO X0 hx hZ hown (own_w hw 130 rfl) (own_w hw 6 rfl) w_7 e0 (g := (mkF m 0 #[sR b] [])) rfl (dB d31_0) (by decide) (by decide)
  obtain ⟨x, g_x⟩ : ∃ z, z = h0.size := ⟨_, rfl⟩
  rw [← g_x] at A21 D21 st21
  have K21 := (Keep.refl h0 ([] : List Addr)).ext E21
  have b_x : h0.size ≤ x := (Nat.le_of_eq g_x.symm)
  have gn_x : n0 ≤ x := Nat.le_trans Z0 b_x
  have s0_x : h0.size ≤ x := Nat.le_trans KK0.1 b_x
  have ne_b_x : b ≠ x := Nat.ne_of_lt (Nat.lt_of_lt_of_le E.lt b_x)
  have ne_t_x : t ≠ x := Nat.ne_of_lt (Nat.lt_of_lt_of_le A.lt b_x)
  have KK1 : Keep h0 h21 ([] : List Addr) := KK0.trans K21 all0
  have Zs1 : n0 ≤ h21.size := Nat.le_trans Z0 K21.1
  have F_value_x : Fld Z h21 x "java/lang/String" "value" "[B" .null := D21 (Or.inr (own_w hw 34 rfl)) (ty := (.array .byte)) (by decide)
  have F_coder_x : Fld Z h21 x "java/lang/String" "coder" "B" (.int (0 : Int32)) := D21 (Or.inr (own_w hw 32 rfl)) (ty := .byte) (by decide)
  have cc23 : oS p e below S0' T21 (mkF m 5 #[sR b] [(.ref b), (.ref x), (.ref x)]) := Steps.trans (cc0.trans (st21 _ (Steps.refl _))) (by
    refine XS.dup X21.here hx rfl (dB d31_3) rfl rfl ?_
    refine XS.aloadN X21.here hx rfl (dB d31_4) rfl rfl ?_
    exact Steps.refl _)
  have fa22 : Old Z n0 h21 := (X00.keep K21 all0)
  have fa24 : Exa Z h21 b "java/lang/StringBuilder" := (E.keep K21)
  have fa25 : Fld Z h21 b "java/lang/AbstractStringBuilder" "coder" "B" (.int (0 : Int32)) := (C.keep K21 nin0)
  have fa26 : Fld Z h21 b "java/lang/AbstractStringBuilder" "count" "I" (.int (Int32.ofNat bs.length)) := (N.keep K21 nin0)
  have fa27 : Fld Z h21 b "java/lang/AbstractStringBuilder" "value" "[B" (.ref t) := (V.keep K21 nin0)
  have fa28 : Fld Z h21 b "java/lang/AbstractStringBuilder" "maybeLatin1" "Z" (.int (0 : Int32)) := (M.keep K21 nin0)
  have fa29 : Arv Z h21 t kt .byte (16 : Int32) (own_by bs) (.int (0 : Int32)) := (A.keep K21 nin0)
  obtain ⟨_, _, ⟨T30, L30, k30, n30⟩, -, X30, ⟨Lc30, hQ30, l30, y30, z30⟩, st30⟩ := X21.specialBack hx (y := yM31) rfl hown (mvT hZ (own_w hw 131 rfl)) (mvT hZ (own_w hw 132 rfl)) (mvT hZ w_133) (by decide) (backOf (W := 1) (own_si10 l Z a0 hw x b t kt bs z h21 n0 Zs1 fa22 O2 P5 A21 F_value_x F_coder_x gn_x fa24 fa25 fa26 fa27 fa28 fa29 hp hb) hZ w_133 w_7 (by decide) (by decide)) (g := (mkF m 5 #[sR b] [(.ref b), (.ref x), (.ref x)])) rfl (by rw [hml]; rfl) (Steps.refl _) (a := x) (argsL := [(.ref b)]) (rest := [(.ref x)]) (lenOf own_pd23 rfl) rfl (Nat.le_of_eq rfl) (dB d31_5) (fun _ _ => ⟨rfl, e21, Nat.le_of_ble_eq_true rfl, Nat.le_of_ble_eq_true rfl⟩)
  dsimp only [Pt.U, Pt.locs, Pt.cells, Pt.slots] at X30 l30 y30 z30 st30 hQ30
  subst l30 y30 z30
  obtain ⟨rfl, Nq30, Kq30, Hq30⟩ := hQ30
  have N30 := Fr.app N0 Nq30
  have KK2 : Keep h0 T30.heap ([] : List Addr) := KK1.trans Kq30 (allS (Or.inr s0_x) all0)
  have Zs2 : n0 ≤ T30.heap.size := Nat.le_trans Zs1 Kq30.1
  have e30 : T30.heap = T30.heap := rfl
  have cc31 : oS p e below S0' T30 (mkF m 8 #[sR b] [(.ref x)]) := (Steps.trans cc23 st30)
  have cE := cc31
  rw [hS0'] at cE
  obtain ⟨fs, hr_, hrun, hended, hW, hsame⟩ := X30.leave (v := some (.ref x)) (fun h => by rw [Bd.returns] at h; cases h)
  refine ⟨_, _, cE.trans (X30.areturnOut hx (rfl) Bd.returns rfl (dB d31_8) hr_), hrun, hended, _, _, rfl, ?_, ⟨_, rfl⟩, hW, hsame.mono (by first | decide | omega) (by first | decide | omega)⟩
  show Q_own_tos0 Z b t kt bs z h0 n0 _ T30.heap _
  rw [e30]
  exact ⟨x, rfl, N30, KK2, s0_x, Hq30⟩
def Q_own_crb1 (Z : State) (a : Addr) (k : ClassId) (bs : List Int32) (h0 : Heap) (n0 : Nat) (v : Option Value) (h : Heap) (L : List Loc) : Prop := ∃ (t : Addr) (kt : ClassId), v = some (.ref t) ∧ Fr n0 L ∧ Keep h0 h [] ∧ h0.size ≤ t ∧ Arv Z h t kt .byte (Int32.ofNat (2 * bs.length)) (StrChars.Road.wideBytes bs) (.int (0 : Int32))
set_option maxRecDepth 65536 in
set_option maxHeartbeats 40000000 in
theorem own_crb1 (l : Launch) (Z : State) (a0 : Array Value) (hw : ∀ d ∈ tables_1, d.before a0 Z = true) (a : Addr) (k : ClassId) (bs : List Int32) (h0 : Heap) (n0 : Nat) (Z0 : n0 ≤ h0.size) (A : Arv Z h0 a k .byte (32 : Int32) (StrChars.Road.wideBytes bs) (.int (0 : Int32))) (hb : bs.length < 16) :
    MetFree l yM28 (head1 [Jvm.Cond.code yM28 jdk_65_method_133_code 5 (some (.array .byte))] rM28) (fun a_ U_ => a_ = #[(.ref a), (.int 0), (.int (Int32.ofNat (2 * bs.length)))] ∧ Z.Warmed39 U_.vm ∧ U_.heap = h0) (fun _ _ _ _ _ => True) (fun _ U_ o_ V_ => ∃ v_ L_, o_ = .returned v_ ∧ Q_own_crb1 Z a k bs h0 n0 v_ V_.heap L_ ∧ FrameEnd U_ o_ V_ L_ rM28.cells rM28.slots) := by
  refine MetFree.of_bodySF (plainFor_of_name own_pn6) hisR ?_
  intro p e s m args below meth c s₁ Bd hml0 hP hK
  obtain ⟨rfl, hZ, hh⟩ := hP
  have hx := Bd.exec
  have hby := Bd.bytes
  have dB := @own_d c _ hby
  have hml : c.maxLocals = 5 := hml0
  have hown : s.vm.findClass "java/util/Arrays" = some m.cls := findClass_of_methodNamed Bd.named
  have hnm := (name_of_methodNamed Bd.named Bd.method).1
  have X0 : Stand p l e rM28 s m #[(.ref a), (.int 0), (.int (Int32.ofNat (2 * bs.length)))] below meth c s₁ [] 0 0 := Stand.of_body Bd
  have e0 : s₁.heap = h0 := by rw [← hh, Bd.state]; rfl
  have N0 := Fr.nil n0
  have KK0 := Keep.refl h0 ([] : List Addr)
  have cc0 : Steps p.tables e below (s₁.setTop (entryFrame m #[(.ref a), (.int 0), (.int (Int32.ofNat (2 * bs.length)))] 5)) (s₁.setTop (mkF m 0 #[sR a, sI 0, sI (Int32.ofNat (2 * bs.length)), .unset, .unset] [])) := XT.entry rfl
  obtain ⟨S0', hS0'⟩ : ∃ S, S = (s₁.setTop (entryFrame m #[(.ref a), (.int 0), (.int (Int32.ofNat (2 * bs.length)))] 5)) := ⟨_, rfl⟩
  rw [← hS0'] at cc0
  have w_157 := own_w hw 157 rfl
  have w_164 := own_w hw 164 rfl
  have w_167 := own_w hw 167 rfl
  have w_168 := own_w hw 168 rfl
  have cc21 : oS p e below S0' s₁ (mkF m 2 #[sR a, sI 0, sI (Int32.ofNat (2 * bs.length)), .unset, .unset] [(.int (Int32.ofNat (2 * bs.length))), (.int 0)]) := Steps.trans cc0 (by
    refine XS.iloadN X0.here hx rfl (dB d27_0) rfl ?_
    refine XS.iloadN X0.here hx rfl (dB d27_1) rfl ?_
    exact Steps.refl _)
  obtain ⟨_, _, ⟨T22, L22, k22, n22⟩, -, X22, ⟨Lc22, hQ22, l22, y22, z22⟩, st22⟩ := Jvm.LawKit.callS X0 hx (y := yM26) hown (mvT hZ (own_w hw 162 rfl)) (mvT hZ (own_w hw 163 rfl)) (mvT hZ w_157) (mvT hZ w_164) (by decide) (backOf (W := 0) (own_chk l Z a0 hw 0 (Int32.ofNat (2 * bs.length)) h0 n0 Z0 (Int32.ofNat_not_neg (by omega))) hZ w_164 w_157 (by decide) (by decide)) (g := (mkF m 2 #[sR a, sI 0, sI (Int32.ofNat (2 * bs.length)), .unset, .unset] [(.int (Int32.ofNat (2 * bs.length))), (.int 0)])) rfl (by rw [hml]; rfl) (argsL := [(.int 0), (.int (Int32.ofNat (2 * bs.length)))]) (rest := []) (lenOf own_pd18 rfl) rfl (Nat.le_of_eq rfl) (dB d27_2) (fun _ _ => ⟨rfl, e0, Nat.le_of_ble_eq_true rfl, Nat.le_of_ble_eq_true rfl⟩)
  dsimp only [Pt.U, Pt.locs, Pt.cells, Pt.slots] at X22 l22 y22 z22 st22 hQ22
  subst l22 y22 z22
  obtain ⟨rfl, Nq22, eq22⟩ := hQ22
  have N22 := Fr.app N0 Nq22
  have e22 : T22.heap = h0 := eq22
  have cc23 : oS p e below S0' T22 (mkF m 8 #[sR a, sI 0, sI (Int32.ofNat (2 * bs.length)), .unset, .unset] [(.int ((Int32.ofNat (2 * bs.length)) - (0 : Int32)))]) := Steps.trans (cc21.trans (st22 _ (Steps.refl _))) (by
    refine XS.iloadN X22.here hx rfl (dB d27_5) rfl ?_
    refine XS.iloadN X22.here hx rfl (dB d27_6) rfl ?_
    refine XS.isub X22.here hx rfl (dB d27_7) rfl ?_
    exact Steps.refl _)
  have es : Int32.ofNat (2 * bs.length) - 0 = Int32.ofNat (2 * bs.length) := sub32n (b := 0) (Nat.zero_le _)
  have ng : ¬ Int32.ofNat (2 * bs.length) < 0 := Int32.ofNat_not_neg (by omega)
  have en : (Int32.ofNat (2 * bs.length)).toNatClampNeg = (2 * bs.length) := n32 (by omega)
  have cz24 : oS p e below S0' T22 (mkF m 8 #[sR a, sI 0, sI (Int32.ofNat (2 * bs.length)), .unset, .unset] [(.int (Int32.ofNat (2 * bs.length)))]) := by
    have := cc23
    rw [es] at this
    exact this
  have cc25 : oS p e below S0' T22 (mkF m 10 #[sR a, sI 0, sI (Int32.ofNat (2 * bs.length)), sI (Int32.ofNat (2 * bs.length)), .unset] [(.int (Int32.ofNat (2 * bs.length)))]) := Steps.trans cz24 (by
    refine XS.istoreN X22.here hx rfl (dB d27_8) rfl rfl ?_
    refine XS.iloadN X22.here hx rfl (dB d27_9) rfl ?_
    exact Steps.refl _)
  obtain ⟨T26, h26, k26, X26, e26, E26, A26, st26⟩ := newP X22 hx hZ (aty := .byte) (own_w hw 24 rfl) e22 (g := (mkF m 10 #[sR a, sI 0, sI (Int32.ofNat (2 * bs.length)), sI (Int32.ofNat (2 * bs.length)), .unset] [(.int (Int32.ofNat (2 * bs.length)))])) rfl (dB d27_10) rfl ng (cap := 32) (by rw [en]; omega) (by decide) (by decide) (by decide)
  obtain ⟨t, g_t⟩ : ∃ z, z = h0.size := ⟨_, rfl⟩
  rw [← g_t] at A26 st26
  have K26 := (Keep.refl h0 ([] : List Addr)).ext E26
  have b_t : h0.size ≤ t := (Nat.le_of_eq g_t.symm)
  have gn_t : n0 ≤ t := Nat.le_trans Z0 b_t
  have s0_t : h0.size ≤ t := Nat.le_trans KK0.1 b_t
  have ne_a_t : a ≠ t := Nat.ne_of_lt (Nat.lt_of_lt_of_le A.lt b_t)
  have KK1 : Keep h0 h26 ([] : List Addr) := KK0.trans K26 all0
  have Zs1 : n0 ≤ h26.size := Nat.le_trans Z0 K26.1
  have Vp : Arv Z h26 t k26 .byte (Int32.ofNat (2 * bs.length)) ([] ++ List.replicate (2 * bs.length) (.int (0 : Int32))) (.int (0 : Int32)) := (Arv.new A26 ng).pad (pad_rep [] _ _)
  have cc28 : oS p e below S0' T26 (mkF m 20 #[sR a, sI 0, sI (Int32.ofNat (2 * bs.length)), sI (Int32.ofNat (2 * bs.length)), sR t] [(.ref a), (.int 0), (.ref t), (.int 0), (.ref a)]) := Steps.trans (cc25.trans (st26 _ (Steps.refl _))) (by
    refine XS.astore X26.here hx rfl (dB d27_12) rfl rfl rfl ?_
    refine XS.aloadN X26.here hx rfl (dB d27_14) rfl rfl ?_
    refine XS.iloadN X26.here hx rfl (dB d27_15) rfl ?_
    refine XS.aload X26.here hx rfl (dB d27_16) rfl rfl ?_
    refine iconstV X26.here hx rfl 0 (dB d27_18) (by decide) ?_
    refine XS.aloadN X26.here hx rfl (dB d27_19) rfl rfl ?_
    exact Steps.refl _)
  have fa27 : Arv Z h26 a k .byte (32 : Int32) (StrChars.Road.wideBytes bs) (.int (0 : Int32)) := (A.keep K26 nin0)
  obtain ⟨clu29, Aru29, -, Su29, Ngu29, -, -⟩ := id fa27
  have cl_u29 := X26.arraylength hx (by rw [e26]; exact Aru29.1) (State.isArrayOf_alike (hZ).alike Aru29.2.1) (g := (mkF m 20 #[sR a, sI 0, sI (Int32.ofNat (2 * bs.length)), sI (Int32.ofNat (2 * bs.length)), sR t] [(.ref a), (.int 0), (.ref t), (.int 0), (.ref a)])) rfl rfl (dB d27_20) _ (Steps.refl _)
  rw [len_of Su29 Ngu29] at cl_u29
  have cc30 : oS p e below S0' T26 (mkF m 24 #[sR a, sI 0, sI (Int32.ofNat (2 * bs.length)), sI (Int32.ofNat (2 * bs.length)), sR t] [(.int (Int32.ofNat (2 * bs.length))), (.int ((32 : Int32) - (0 : Int32))), (.int 0), (.ref t), (.int 0), (.ref a)]) := Steps.trans (Steps.trans cc28 cl_u29) (by
    refine XS.iloadN X26.here hx rfl (dB d27_21) rfl ?_
    refine XS.isub X26.here hx rfl (dB d27_22) rfl ?_
    refine XS.iloadN X26.here hx rfl (dB d27_23) rfl ?_
    exact Steps.refl _)
  obtain ⟨_, _, ⟨T31, L31, k31, n31⟩, -, X31, ⟨Lc31, hQ31, l31, y31, z31⟩, st31⟩ := Jvm.LawKit.callS X26 hx (y := yM27) hown (mvT hZ (own_w hw 165 rfl)) (mvT hZ (own_w hw 166 rfl)) (mvT hZ w_167) (mvT hZ w_168) (by decide) (backOf (W := 4) (own_minb l Z a0 hw ((32 : Int32) - 0) (Int32.ofNat (2 * bs.length)) h26 n0 Zs1 (lt32 (b := 32) (by decide) (by omega))) hZ w_168 w_167 (by decide) (by decide)) (g := (mkF m 24 #[sR a, sI 0, sI (Int32.ofNat (2 * bs.length)), sI (Int32.ofNat (2 * bs.length)), sR t] [(.int (Int32.ofNat (2 * bs.length))), (.int ((32 : Int32) - (0 : Int32))), (.int 0), (.ref t), (.int 0), (.ref a)])) rfl (by rw [hml]; rfl) (argsL := [(.int ((32 : Int32) - (0 : Int32))), (.int (Int32.ofNat (2 * bs.length)))]) (rest := [(.int 0), (.ref t), (.int 0), (.ref a)]) (lenOf own_pd19 rfl) rfl (Nat.le_of_eq rfl) (dB d27_24) (fun _ _ => ⟨rfl, e26, Nat.le_of_ble_eq_true rfl, Nat.le_of_ble_eq_true rfl⟩)
  dsimp only [Pt.U, Pt.locs, Pt.cells, Pt.slots] at X31 l31 y31 z31 st31 hQ31
  subst l31 y31 z31
  obtain ⟨rfl, Nq31, eq31⟩ := hQ31
  have N31 := Fr.app N22 Nq31
  have e31 : T31.heap = h26 := eq31
  have cc32 : oS p e below S0' T31 (mkF m 27 #[sR a, sI 0, sI (Int32.ofNat (2 * bs.length)), sI (Int32.ofNat (2 * bs.length)), sR t] [(.int (Int32.ofNat (2 * bs.length))), (.int 0), (.ref t), (.int 0), (.ref a)]) := (cc30.trans (st31 _ (Steps.refl _)))
  obtain ⟨T33, h33, L33, X33, e33, N33, K33, V33, st33⟩ := cpA X31 hx hZ hown (own_w hw 169 rfl) (own_w hw 123 rfl) (own_w hw 121 rfl) (own_w hw 122 rfl) e31 fa27 Vp (Or.inl ⟨rfl, rfl⟩) (by decide) (by decide) ng (us := (StrChars.Road.wideBytes bs)) (by rw [en]; show 0 + _ ≤ 32; omega) (by rw [en]; show 0 + _ ≤ _; omega) (by rw [en]; exact (own_wtake bs).symm) (by rw [en]; show 0 + _ ≤ _; simp) N31 gn_t (g := (mkF m 27 #[sR a, sI 0, sI (Int32.ofNat (2 * bs.length)), sI (Int32.ofNat (2 * bs.length)), sR t] [(.int (Int32.ofNat (2 * bs.length))), (.int 0), (.ref t), (.int 0), (.ref a)])) rfl (by rw [hml]; rfl) rfl (dB d27_27) (by decide) (W := 0) (by show 2 * 0 + _ ≤ _; exact Nat.le_of_eq rfl) (by decide)
  have KK2 : Keep h0 h33 ([] : List Addr) := KK1.trans K33 (allS (Or.inr s0_t) all0)
  have Zs2 : n0 ≤ h33.size := Nat.le_trans Zs1 K33.1
  have V33' : Arv Z h33 t k26 .byte (Int32.ofNat (2 * bs.length)) (StrChars.Road.wideBytes bs) (.int (0 : Int32)) := own_arv_eq V33 (by rw [en]; show [] ++ _ ++ List.drop (0 + (2 * bs.length)) _ = _; simp)
  have cc34 : oS p e below S0' T33 (mkF m 32 #[sR a, sI 0, sI (Int32.ofNat (2 * bs.length)), sI (Int32.ofNat (2 * bs.length)), sR t] [(.ref t)]) := Steps.trans (cc32.trans (st33 _ (Steps.refl _))) (by
    refine XS.aload X33.here hx rfl (dB d27_30) rfl rfl ?_
    exact Steps.refl _)
  have cE := cc34
  rw [hS0'] at cE
  obtain ⟨fs, hr_, hrun, hended, hW, hsame⟩ := X33.leave (v := some (.ref t)) (fun h => by rw [Bd.returns] at h; cases h)
  refine ⟨_, _, cE.trans (X33.areturnOut hx (rfl) Bd.returns rfl (dB d27_32) hr_), hrun, hended, _, _, rfl, ?_, ⟨_, rfl⟩, hW, hsame.mono (by first | decide | omega) (by first | decide | omega)⟩
  show Q_own_crb1 Z a k bs h0 n0 _ T33.heap _
  rw [e33]
  exact ⟨t, _, rfl, N33, KK2, s0_t, V33'⟩
def Q_own_cr1 (Z : State) (a : Addr) (k : ClassId) (bs : List Int32) (h0 : Heap) (n0 : Nat) (v : Option Value) (h : Heap) (L : List Loc) : Prop := ∃ (t : Addr) (kt : ClassId), v = some (.ref t) ∧ Fr n0 L ∧ Keep h0 h [] ∧ h0.size ≤ t ∧ Arv Z h t kt .byte (Int32.ofNat (2 * bs.length)) (StrChars.Road.wideBytes bs) (.int (0 : Int32))
set_option maxRecDepth 65536 in
set_option maxHeartbeats 40000000 in
theorem own_cr1 (l : Launch) (Z : State) (a0 : Array Value) (hw : ∀ d ∈ tables_1, d.before a0 Z = true) (a : Addr) (k : ClassId) (bs : List Int32) (h0 : Heap) (n0 : Nat) (Z0 : n0 ≤ h0.size) (A : Arv Z h0 a k .byte (32 : Int32) (StrChars.Road.wideBytes bs) (.int (0 : Int32))) (hb : bs.length < 16) :
    MetFree l yM29 (head1 [Jvm.Cond.code yM29 jdk_65_method_132_code 3 (some (.array .byte))] rM29) (fun a_ U_ => a_ = #[(.ref a), (.int 0), (.int (Int32.ofNat (2 * bs.length)))] ∧ Z.Warmed39 U_.vm ∧ U_.heap = h0) (fun _ _ _ _ _ => True) (fun _ U_ o_ V_ => ∃ v_ L_, o_ = .returned v_ ∧ Q_own_cr1 Z a k bs h0 n0 v_ V_.heap L_ ∧ FrameEnd U_ o_ V_ L_ rM29.cells rM29.slots) := by
  refine MetFree.of_bodySF (plainFor_of_name own_pn6) hisR ?_
  intro p e s m args below meth c s₁ Bd hml0 hP hK
  obtain ⟨rfl, hZ, hh⟩ := hP
  have hx := Bd.exec
  have hby := Bd.bytes
  have dB := @own_d c _ hby
  have hml : c.maxLocals = 3 := hml0
  have hown : s.vm.findClass "java/util/Arrays" = some m.cls := findClass_of_methodNamed Bd.named
  have hnm := (name_of_methodNamed Bd.named Bd.method).1
  have X0 : Stand p l e rM29 s m #[(.ref a), (.int 0), (.int (Int32.ofNat (2 * bs.length)))] below meth c s₁ [] 0 0 := Stand.of_body Bd
  have e0 : s₁.heap = h0 := by rw [← hh, Bd.state]; rfl
  have N0 := Fr.nil n0
  have KK0 := Keep.refl h0 ([] : List Addr)
  have cc0 : Steps p.tables e below (s₁.setTop (entryFrame m #[(.ref a), (.int 0), (.int (Int32.ofNat (2 * bs.length)))] 3)) (s₁.setTop (mkF m 0 #[sR a, sI 0, sI (Int32.ofNat (2 * bs.length))] [])) := XT.entry rfl
  obtain ⟨S0', hS0'⟩ : ∃ S, S = (s₁.setTop (entryFrame m #[(.ref a), (.int 0), (.int (Int32.ofNat (2 * bs.length)))] 3)) := ⟨_, rfl⟩
  rw [← hS0'] at cc0
  have w_157 := own_w hw 157 rfl
  have w_161 := own_w hw 161 rfl
  have cc21 : oS p e below S0' s₁ (mkF m 6 #[sR a, sI 0, sI (Int32.ofNat (2 * bs.length))] [(.ref a), (.int (Int32.ofNat (2 * bs.length)))]) := Steps.trans cc0 (by
    refine XS.iloadN X0.here hx rfl (dB d28_0) rfl ?_
    refine XS.ifNo X0.here hx rfl (dB d28_1) rfl (i0_ne_f rfl) ?_
    refine XS.iloadN X0.here hx rfl (dB d28_4) rfl ?_
    refine XS.aloadN X0.here hx rfl (dB d28_5) rfl rfl ?_
    exact Steps.refl _)
  obtain ⟨clu22, Aru22, -, Su22, Ngu22, -, -⟩ := id A
  have cl_u22 := X0.arraylength hx (by rw [e0]; exact Aru22.1) (State.isArrayOf_alike (hZ).alike Aru22.2.1) (g := (mkF m 6 #[sR a, sI 0, sI (Int32.ofNat (2 * bs.length))] [(.ref a), (.int (Int32.ofNat (2 * bs.length)))])) rfl rfl (dB d28_6) _ (Steps.refl _)
  rw [len_of Su22 Ngu22] at cl_u22
  have cc23 : oS p e below S0' s₁ (mkF m 13 #[sR a, sI 0, sI (Int32.ofNat (2 * bs.length))] [(.int (Int32.ofNat (2 * bs.length))), (.int 0), (.ref a)]) := Steps.trans (Steps.trans cc21 cl_u22) (by
    refine XS.icmpNo X0.here hx rfl (dB d28_7) rfl (ii_eq_f (ne32 (b := 32) (by omega) (by decide) (by omega))) ?_
    refine XS.aloadN X0.here hx rfl (dB d28_10) rfl rfl ?_
    refine XS.iloadN X0.here hx rfl (dB d28_11) rfl ?_
    refine XS.iloadN X0.here hx rfl (dB d28_12) rfl ?_
    exact Steps.refl _)
  obtain ⟨_, _, ⟨T24, L24, k24, n24⟩, -, X24, ⟨Lc24, hQ24, l24, y24, z24⟩, st24⟩ := Jvm.LawKit.callS X0 hx (y := yM28) hown (mvT hZ (own_w hw 159 rfl)) (mvT hZ (own_w hw 160 rfl)) (mvT hZ w_157) (mvT hZ w_161) (by decide) (backOf (W := 0) (own_crb1 l Z a0 hw a k bs h0 n0 Z0 A hb) hZ w_161 w_157 (by decide) (by decide)) (g := (mkF m 13 #[sR a, sI 0, sI (Int32.ofNat (2 * bs.length))] [(.int (Int32.ofNat (2 * bs.length))), (.int 0), (.ref a)])) rfl (by rw [hml]; rfl) (argsL := [(.ref a), (.int 0), (.int (Int32.ofNat (2 * bs.length)))]) (rest := []) (lenOf own_pd20 rfl) rfl (Nat.le_of_eq rfl) (dB d28_13) (fun _ _ => ⟨rfl, e0, Nat.le_of_ble_eq_true rfl, Nat.le_of_ble_eq_true rfl⟩)
  dsimp only [Pt.U, Pt.locs, Pt.cells, Pt.slots] at X24 l24 y24 z24 st24 hQ24
  subst l24 y24 z24
  obtain ⟨t, kt, rfl, Nq24, Kq24, sq24, Aq24⟩ := hQ24
  have N24 := Fr.app N0 Nq24
  have KK1 : Keep h0 T24.heap ([] : List Addr) := KK0.trans Kq24 all0
  have Zs1 : n0 ≤ T24.heap.size := Nat.le_trans Z0 Kq24.1
  have e24 : T24.heap = T24.heap := rfl
  have cc25 : oS p e below S0' T24 (mkF m 16 #[sR a, sI 0, sI (Int32.ofNat (2 * bs.length))] [(.ref t)]) := (cc23.trans (st24 _ (Steps.refl _)))
  have cE := cc25
  rw [hS0'] at cE
  obtain ⟨fs, hr_, hrun, hended, hW, hsame⟩ := X24.leave (v := some (.ref t)) (fun h => by rw [Bd.returns] at h; cases h)
  refine ⟨_, _, cE.trans (X24.areturnOut hx (rfl) Bd.returns rfl (dB d28_16) hr_), hrun, hended, _, _, rfl, ?_, ⟨_, rfl⟩, hW, hsame.mono (by first | decide | omega) (by first | decide | omega)⟩
  show Q_own_cr1 Z a k bs h0 n0 _ T24.heap _
  rw [e24]
  exact ⟨t, kt, rfl, N24, KK1, sq24, Aq24⟩
theorem d29_41 : decode kM29 41 = .ok (.getstatic 38, 3) := by decide +kernel
theorem d29_44 : decode kM29 44 = .ok (.ifCond .eq 35, 3) := by decide +kernel
theorem d29_47 : decode kM29 47 = .ok (.aload_n 1, 1) := by decide +kernel
theorem d29_48 : decode kM29 48 = .ok (.getfield 1048, 3) := by decide +kernel
theorem d29_51 : decode kM29 51 = .ok (.ifCond .eq 28, 3) := by decide +kernel
theorem d29_79 : decode kM29 79 = .ok (.aload_n 0, 1) := by decide +kernel
theorem d29_80 : decode kM29 80 = .ok (.iconst 1, 1) := by decide +kernel
theorem d29_81 : decode kM29 81 = .ok (.putfield 15, 3) := by decide +kernel
theorem d29_84 : decode kM29 84 = .ok (.aload_n 0, 1) := by decide +kernel
theorem d29_85 : decode kM29 85 = .ok (.aload_n 3, 1) := by decide +kernel
theorem d29_86 : decode kM29 86 = .ok (.iconst 0, 1) := by decide +kernel
theorem d29_87 : decode kM29 87 = .ok (.iload 4, 2) := by decide +kernel
theorem d29_89 : decode kM29 89 = .ok (.iconst 1, 1) := by decide +kernel
theorem d29_90 : decode kM29 90 = .ok (.ishl, 1) := by decide +kernel
theorem d29_91 : decode kM29 91 = .ok (.invokestatic 54, 3) := by decide +kernel
theorem d29_94 : decode kM29 94 = .ok (.putfield 9, 3) := by decide +kernel
def Q_own_si21 (Z : State) (x b t : Addr) (kt : ClassId) (bs : List Int32) (z : Int32) (h0 : Heap) (n0 : Nat) (v : Option Value) (h : Heap) (L : List Loc) : Prop := v = none ∧ Fr n0 L ∧ Keep h0 h [x] ∧ own_Wid Z h x bs
set_option maxRecDepth 65536 in
set_option maxHeartbeats 40000000 in
theorem own_si21 (l : Launch) (Z : State) (a0 : Array Value) (hw : ∀ d ∈ tables_1, d.before a0 Z = true) (x b t : Addr) (kt : ClassId) (bs : List Int32) (z : Int32) (h0 : Heap) (n0 : Nat) (Z0 : n0 ≤ h0.size) (X00 : Old Z n0 h0) (O2 : Sta Z Z.heap "java/lang/String" "COMPACT_STRINGS" "Z" (.int z)) (P5 : ¬ z = 0) (E : Exa Z h0 x "java/lang/String") (V : Fld Z h0 x "java/lang/String" "value" "[B" .null) (C : Fld Z h0 x "java/lang/String" "coder" "B" (.int (0 : Int32))) (gx : n0 ≤ x) (Eb : Exa Z h0 b "java/lang/StringBuilder") (Cb : Fld Z h0 b "java/lang/AbstractStringBuilder" "coder" "B" (.int (1 : Int32))) (Nb : Fld Z h0 b "java/lang/AbstractStringBuilder" "count" "I" (.int (Int32.ofNat bs.length))) (Vb : Fld Z h0 b "java/lang/AbstractStringBuilder" "value" "[B" (.ref t)) (Mb : Fld Z h0 b "java/lang/AbstractStringBuilder" "maybeLatin1" "Z" (.int (0 : Int32))) (Ab : Arv Z h0 t kt .byte (32 : Int32) (StrChars.Road.wideBytes bs) (.int (0 : Int32))) (hp : ∀ c ∈ bs, ¬ c < 0 ∧ ¬ (65535 : Int32) < c) (hb : bs.length < 16) (hw1 : ∃ c ∈ bs, (255 : Int32) < c) :
    MetFree l yM30 (head1 [Jvm.Cond.code yM30 jdk_42_method_150_code 5 none] rM30) (fun a_ U_ => a_ = #[(.ref x), (.ref b), .null] ∧ Z.Warmed39 U_.vm ∧ U_.heap = h0) (fun _ _ _ _ _ => True) (fun _ U_ o_ V_ => ∃ v_ L_, o_ = .returned v_ ∧ Q_own_si21 Z x b t kt bs z h0 n0 v_ V_.heap L_ ∧ FrameEnd U_ o_ V_ L_ rM30.cells rM30.slots) := by
  refine MetFree.of_bodySF (plainFor_of_name own_pn0) hisR ?_
  intro p e s m args below meth c s₁ Bd hml0 hP hK
  obtain ⟨rfl, hZ, hh⟩ := hP
  have hx := Bd.exec
  have hby := Bd.bytes
  have dB := @own_d c _ hby
  have hml : c.maxLocals = 5 := hml0
  have hown : s.vm.findClass "java/lang/String" = some m.cls := findClass_of_methodNamed Bd.named
  have hnm := (name_of_methodNamed Bd.named Bd.method).1
  have X0 : Stand p l e rM30 s m #[(.ref x), (.ref b), .null] below meth c s₁ [] 0 0 := Stand.of_body Bd
  have e0 : s₁.heap = h0 := by rw [← hh, Bd.state]; rfl
  have N0 := Fr.nil n0
  have KK0 := Keep.refl h0 [x]
  have cc0 : Steps p.tables e below (s₁.setTop (entryFrame m #[(.ref x), (.ref b), .null] 5)) (s₁.setTop (mkF m 0 #[sR x, sR b, .val .null, .unset, .unset] [])) := XT.entry rfl
  obtain ⟨S0', hS0'⟩ : ∃ S, S = (s₁.setTop (entryFrame m #[(.ref x), (.ref b), .null] 5)) := ⟨_, rfl⟩
  rw [← hS0'] at cc0
  have w_6 := own_w hw 6 rfl
  have w_32 := own_w hw 32 rfl
  have w_34 := own_w hw 34 rfl
  have w_69 := own_w hw 69 rfl
  have w_140 := own_w hw 140 rfl
  have w_153 := own_w hw 153 rfl
  have w_157 := own_w hw 157 rfl
  have w_158 := own_w hw 158 rfl
  have ne_x_t : x ≠ t := own_ne_arv E w_6 Ab
  have ne_x_b : x ≠ b := ne_exa E Eb (by decide)
  have cc21 : oS p e below S0' s₁ (mkF m 1 #[sR x, sR b, .val .null, .unset, .unset] [(.ref x)]) := Steps.trans cc0 (by
    refine XS.aloadN X0.here hx rfl (dB d29_0) rfl rfl ?_
    exact Steps.refl _)
  obtain ⟨T22, X22, e22, st22⟩ := initO X0 hx hZ hown (own_w hw 16 rfl) (own_w hw 17 rfl) (own_w hw 18 rfl) e0 (g := (mkF m 1 #[sR x, sR b, .val .null, .unset, .unset] [(.ref x)])) rfl (by rw [hml]; rfl) rfl (dB d29_1) (by decide) (W := 0) (by show 2 * 0 + _ ≤ _; exact Nat.le_of_eq rfl) (by decide)
  have cc23 : oS p e below S0' T22 (mkF m 5 #[sR x, sR b, .val .null, .unset, .unset] [(.ref b)]) := Steps.trans (cc21.trans (st22 _ (Steps.refl _))) (by
    refine XS.aloadN X22.here hx rfl (dB d29_4) rfl rfl ?_
    exact Steps.refl _)
  obtain ⟨cq24, kq24, qa24, qb24, qc24⟩ := isOf hZ e22 Eb
  obtain ⟨_, _, ⟨T24, L24, k24, n24⟩, -, X24, ⟨Lc24, hQ24, l24, y24, z24⟩, st24⟩ := X22.virtualBack hx (y := yM23) (z := yM23) hown (mvT hZ (own_w hw 137 rfl)) (mvT hZ (own_w hw 138 rfl)) (notFace_of_selects (args := #[]) (mvT hZ w_140)) (mvT hZ w_140) (mvT hZ (own_w hw 139 rfl)) (by decide) (backOf (W := 0) (own_gv l Z a0 hw b t h0 n0 Z0 Vb) hZ (own_w hw 141 rfl) w_69 (by decide) (by decide)) qa24 qc24 (g := (mkF m 5 #[sR x, sR b, .val .null, .unset, .unset] [(.ref b)])) rfl (by rw [hml]; rfl) (Steps.refl _) (argsL := []) (rest := []) (lenOf own_pd21 rfl) rfl (Nat.le_of_eq rfl) (dB d29_5) (fun _ _ => ⟨rfl, e22, Nat.le_of_ble_eq_true rfl, Nat.le_of_ble_eq_true rfl⟩)
  dsimp only [Pt.U, Pt.locs, Pt.cells, Pt.slots] at X24 l24 y24 z24 st24 hQ24
  subst l24 y24 z24
  obtain ⟨rfl, Nq24, eq24⟩ := hQ24
  have N24 := Fr.app N0 Nq24
  have e24 : T24.heap = h0 := eq24
  have cc25 : oS p e below S0' T24 (mkF m 10 #[sR x, sR b, .val .null, sR t, .unset] [(.ref b)]) := Steps.trans (Steps.trans cc23 st24) (by
    refine XS.astoreN X24.here hx rfl (dB d29_8) rfl rfl rfl ?_
    refine XS.aloadN X24.here hx rfl (dB d29_9) rfl rfl ?_
    exact Steps.refl _)
  obtain ⟨cq26, kq26, qa26, qb26, qc26⟩ := isOf hZ e24 Eb
  obtain ⟨_, _, ⟨T26, L26, k26, n26⟩, -, X26, ⟨Lc26, hQ26, l26, y26, z26⟩, st26⟩ := X24.virtualBack hx (y := yM24) (z := yM25) hown (mvT hZ (own_w hw 142 rfl)) (mvT hZ (own_w hw 143 rfl)) (own_nf hZ (own_w hw 102 rfl) rfl) (mvT hZ (own_w hw 145 rfl)) (mvT hZ (own_w hw 146 rfl)) (by decide) (backOf (W := 0) (own_sbl l Z a0 hw b (Int32.ofNat bs.length) h0 n0 Z0 Eb Nb) hZ (own_w hw 147 rfl) (own_w hw 61 rfl) (by decide) (by decide)) qa26 qc26 (g := (mkF m 10 #[sR x, sR b, .val .null, sR t, .unset] [(.ref b)])) rfl (by rw [hml]; rfl) (Steps.refl _) (argsL := []) (rest := []) (lenOf own_pd15 rfl) rfl (Nat.le_of_eq rfl) (dB d29_10) (fun _ _ => ⟨rfl, e24, Nat.le_of_ble_eq_true rfl, Nat.le_of_ble_eq_true rfl⟩)
  dsimp only [Pt.U, Pt.locs, Pt.cells, Pt.slots] at X26 l26 y26 z26 st26 hQ26
  subst l26 y26 z26
  obtain ⟨rfl, Nq26, eq26⟩ := hQ26
  have N26 := Fr.app N24 Nq26
  have e26 : T26.heap = h0 := eq26
  have cc27 : oS p e below S0' T26 (mkF m 16 #[sR x, sR b, .val .null, sR t, sI (Int32.ofNat bs.length)] [(.ref b)]) := Steps.trans (Steps.trans cc25 st26) (by
    refine XS.istore X26.here hx rfl (dB d29_13) rfl rfl ?_
    refine XS.aloadN X26.here hx rfl (dB d29_15) rfl rfl ?_
    exact Steps.refl _)
  obtain ⟨cq28, kq28, qa28, qb28, qc28⟩ := isOf hZ e26 Eb
  obtain ⟨_, _, ⟨T28, L28, k28, n28⟩, -, X28, ⟨Lc28, hQ28, l28, y28, z28⟩, st28⟩ := X26.virtualBack hx (y := yM3) (z := yM3) hown (mvT hZ (own_w hw 150 rfl)) (mvT hZ (own_w hw 151 rfl)) (notFace_of_selects (args := #[]) (mvT hZ w_153)) (mvT hZ w_153) (mvT hZ (own_w hw 152 rfl)) (by decide) (backOf (W := 0) (own_sil1 l Z a0 hw b z h0 n0 Z0 X00 O2 P5 Cb) hZ (own_w hw 154 rfl) w_69 (by decide) (by decide)) qa28 qc28 (g := (mkF m 16 #[sR x, sR b, .val .null, sR t, sI (Int32.ofNat bs.length)] [(.ref b)])) rfl (by rw [hml]; rfl) (Steps.refl _) (argsL := []) (rest := []) (lenOf own_pd9 rfl) rfl (Nat.le_of_eq rfl) (dB d29_16) (fun _ _ => ⟨rfl, e26, Nat.le_of_ble_eq_true rfl, Nat.le_of_ble_eq_true rfl⟩)
  dsimp only [Pt.U, Pt.locs, Pt.cells, Pt.slots] at X28 l28 y28 z28 st28 hQ28
  subst l28 y28 z28
  obtain ⟨rfl, Nq28, eq28⟩ := hQ28
  have N28 := Fr.app N26 Nq28
  have e28 : T28.heap = h0 := eq28
  have cc29 : oS p e below S0' T28 (mkF m 41 #[sR x, sR b, .val .null, sR t, sI (Int32.ofNat bs.length)] []) := Steps.trans (Steps.trans cc27 st28) (by
    refine XS.ifYes X28.here hx rfl (pc0 := 19) rfl (dB d29_19) rfl (i0_eq_t rfl) (by decide) rfl ?_
    exact Steps.refl _)
  obtain ⟨T30, X30, e30, st30⟩ := getS2 X28 hx hZ hown (host := "") (Or.inl (own_w hw 19 rfl)) Via.refl e28 (O2.ext X00.2) (g := (mkF m 41 #[sR x, sR b, .val .null, sR t, sI (Int32.ofNat bs.length)] [])) rfl (dB d29_41)
  have cc31 : oS p e below S0' T30 (mkF m 48 #[sR x, sR b, .val .null, sR t, sI (Int32.ofNat bs.length)] [(.ref b)]) := Steps.trans (cc29.trans (st30 _ (Steps.refl _))) (by
    refine XS.ifNo X30.here hx rfl (dB d29_44) rfl (i0_eq_f P5) ?_
    refine XS.aloadN X30.here hx rfl (dB d29_47) rfl rfl ?_
    exact Steps.refl _)
  obtain ⟨T32, X32, e32, st32⟩ := getF X30 hx hZ hown (host := "") (Or.inl (own_w hw 238 rfl)) Via.refl e30 Mb (g := (mkF m 48 #[sR x, sR b, .val .null, sR t, sI (Int32.ofNat bs.length)] [(.ref b)])) rfl rfl (dB d29_48)
  have cc33 : oS p e below S0' T32 (mkF m 81 #[sR x, sR b, .val .null, sR t, sI (Int32.ofNat bs.length)] [(.int 1), (.ref x)]) := Steps.trans (cc31.trans (st32 _ (Steps.refl _))) (by
    refine XS.ifYes X32.here hx rfl (pc0 := 51) rfl (dB d29_51) rfl (i0_eq_t rfl) (by decide) rfl ?_
    refine XS.aloadN X32.here hx rfl (dB d29_79) rfl rfl ?_
    refine iconstV X32.here hx rfl 1 (dB d29_80) (by decide) ?_
    exact Steps.refl _)
  obtain ⟨T34, h34, X34, e34, W34, st34⟩ := putFN X32 hx hZ hown (own_w hw 31 rfl) Via.refl e32 C E (Or.inr ⟨w_32, rfl, hnm⟩) w_6 (ty := .byte) (v' := (.int (1 : Int32))) (by decide) rfl rfl (g := (mkF m 81 #[sR x, sR b, .val .null, sR t, sI (Int32.ofNat bs.length)] [(.int 1), (.ref x)])) rfl rfl (dB d29_81)
  have K34 := Keep.of_wr W34
  have N34 := Fr.snoc X34 N28 gx
  have KK1 : Keep h0 h34 [x] := KK0.trans K34 (allS (Or.inl (List.mem_of_getElem? (i := 0) rfl)) all0)
  have Zs1 : n0 ≤ h34.size := Nat.le_trans Z0 K34.1
  have cc35 : oS p e below S0' T34 (mkF m 91 #[sR x, sR b, .val .null, sR t, sI (Int32.ofNat bs.length)] [(.int ((Int32.ofNat bs.length) <<< ((1 : Int32) &&& 31))), (.int 0), (.ref t), (.ref x)]) := Steps.trans (cc33.trans (st34 _ (Steps.refl _))) (by
    refine XS.aloadN X34.here hx rfl (dB d29_84) rfl rfl ?_
    refine XS.aloadN X34.here hx rfl (dB d29_85) rfl rfl ?_
    refine iconstV X34.here hx rfl 0 (dB d29_86) (by decide) ?_
    refine XS.iload X34.here hx rfl (dB d29_87) rfl ?_
    refine iconstV X34.here hx rfl 1 (dB d29_89) (by decide) ?_
    refine XT.ishl X34.here hx rfl (dB d29_90) rfl ?_
    exact Steps.refl _)
  have cz36 : oS p e below S0' T34 (mkF m 91 #[sR x, sR b, .val .null, sR t, sI (Int32.ofNat bs.length)] [(.int (Int32.ofNat (2 * bs.length))), (.int 0), (.ref t), (.ref x)]) := by
    have := cc35
    rw [StrChars.shl1] at this
    exact this
  have fa37 : Arv Z h34 t kt .byte (32 : Int32) (StrChars.Road.wideBytes bs) (.int (0 : Int32)) := (Ab.keep K34 (ninS (Ne.symm ne_x_t) nin0))
  obtain ⟨_, _, ⟨T38, L38, k38, n38⟩, -, X38, ⟨Lc38, hQ38, l38, y38, z38⟩, st38⟩ := Jvm.LawKit.callS X34 hx (y := yM29) hown (mvT hZ (own_w hw 155 rfl)) (mvT hZ (own_w hw 156 rfl)) (mvT hZ w_157) (mvT hZ w_158) (by decide) (backOf (W := 1) (own_cr1 l Z a0 hw t kt bs h34 n0 Zs1 fa37 hb) hZ w_158 w_157 (by decide) (by decide)) (g := (mkF m 91 #[sR x, sR b, .val .null, sR t, sI (Int32.ofNat bs.length)] [(.int (Int32.ofNat (2 * bs.length))), (.int 0), (.ref t), (.ref x)])) rfl (by rw [hml]; rfl) (argsL := [(.ref t), (.int 0), (.int (Int32.ofNat (2 * bs.length)))]) (rest := [(.ref x)]) (lenOf own_pd20 rfl) rfl (Nat.le_of_eq rfl) (dB d29_91) (fun _ _ => ⟨rfl, e34, Nat.le_of_ble_eq_true rfl, Nat.le_of_ble_eq_true rfl⟩)
  dsimp only [Pt.U, Pt.locs, Pt.cells, Pt.slots] at X38 l38 y38 z38 st38 hQ38
  subst l38 y38 z38
  obtain ⟨u, ku, rfl, Nq38, Kq38, sq38, Aq38⟩ := hQ38
  have N38 := Fr.app N34 Nq38
  have b_u : h34.size ≤ u := sq38
  have gn_u : n0 ≤ u := Nat.le_trans Zs1 b_u
  have s0_u : h0.size ≤ u := Nat.le_trans KK1.1 b_u
  have fa39 : Exa Z h34 x "java/lang/String" := (E.keep K34)
  have ne_x_u : x ≠ u := Nat.ne_of_lt (Nat.lt_of_lt_of_le fa39.lt b_u)
  have fa40 : Exa Z h34 b "java/lang/StringBuilder" := (Eb.keep K34)
  have ne_b_u : b ≠ u := Nat.ne_of_lt (Nat.lt_of_lt_of_le fa40.lt b_u)
  have ne_t_u : t ≠ u := Nat.ne_of_lt (Nat.lt_of_lt_of_le fa37.lt b_u)
  have KK2 : Keep h0 T38.heap [x] := KK1.trans Kq38 all0
  have Zs2 : n0 ≤ T38.heap.size := Nat.le_trans Zs1 Kq38.1
  have e38 : T38.heap = T38.heap := rfl
  have cc42 : oS p e below S0' T38 (mkF m 94 #[sR x, sR b, .val .null, sR t, sI (Int32.ofNat bs.length)] [(.ref u), (.ref x)]) := (cz36.trans (st38 _ (Steps.refl _)))
  have fa41 : Fld Z T38.heap x "java/lang/String" "value" "[B" .null := ((V.other W34 (Or.inr (slot_ne (Or.inr w_34) (Or.inr w_32) (by decide) (t := (.array .byte)) (t' := .byte) (by decide) (by decide)))).keep Kq38 nin0)
  have fa43 : Exa Z T38.heap x "java/lang/String" := (fa39.keep Kq38)
  obtain ⟨T44, h44, X44, e44, W44, st44⟩ := putF X38 hx hZ hown (host := "") (Or.inl (own_w hw 33 rfl)) Via.refl e38 fa41 fa43 (Or.inr ⟨w_34, rfl, hnm⟩) w_6 (ty := (.array .byte)) (by decide) rfl rfl (g := (mkF m 94 #[sR x, sR b, .val .null, sR t, sI (Int32.ofNat bs.length)] [(.ref u), (.ref x)])) rfl rfl (dB d29_94)
  have K44 := Keep.of_wr W44
  have N44 := Fr.snoc X44 N38 gx
  have KK3 : Keep h0 h44 [x] := KK2.trans K44 (allS (Or.inl (List.mem_of_getElem? (i := 0) rfl)) all0)
  have Zs3 : n0 ≤ h44.size := Nat.le_trans Zs2 K44.1
  have cc46 : oS p e below S0' T44 (mkF m 97 #[sR x, sR b, .val .null, sR t, sI (Int32.ofNat bs.length)] []) := (cc42.trans (st44 _ (Steps.refl _)))
  have fa45 : Exa Z h44 x "java/lang/String" := (fa43.keep K44)
  have fa47 : Fld Z h44 x "java/lang/String" "coder" "B" (.int (1 : Int32)) := (((Fld.same W34 C).keep Kq38 nin0).other W44 (Or.inr (slot_ne (Or.inr w_32) (Or.inr w_34) (by decide) (t := .byte) (t' := (.array .byte)) (by decide) (by decide))))
  have fa48 : Arv Z h44 u ku .byte (Int32.ofNat (2 * bs.length)) (StrChars.Road.wideBytes bs) (.int (0 : Int32)) := (Aq38.keep K44 (ninS (Ne.symm ne_x_u) nin0))
  have cE := cc46
  rw [hS0'] at cE
  obtain ⟨fs, hr_, hrun, hended, hW, hsame⟩ := X44.leave (v := none) (fun _ => rfl)
  refine ⟨_, _, cE.trans (X44.returnOut hx Bd.returns (dB d29_97) hr_), hrun, hended, _, _, rfl, ?_, ⟨_, rfl⟩, hW, hsame.mono (by first | decide | omega) (by first | decide | omega)⟩
  show Q_own_si21 Z x b t kt bs z h0 n0 _ T44.heap _
  rw [e44]
  exact ⟨rfl, N44, KK3, fa45, fa47, hp, by omega, hw1, u, ku, (Fld.same W44 fa41), fa48⟩
def Q_own_si11 (Z : State) (x b t : Addr) (kt : ClassId) (bs : List Int32) (z : Int32) (h0 : Heap) (n0 : Nat) (v : Option Value) (h : Heap) (L : List Loc) : Prop := v = none ∧ Fr n0 L ∧ Keep h0 h [x] ∧ own_Wid Z h x bs
set_option maxRecDepth 65536 in
set_option maxHeartbeats 40000000 in
theorem own_si11 (l : Launch) (Z : State) (a0 : Array Value) (hw : ∀ d ∈ tables_1, d.before a0 Z = true) (x b t : Addr) (kt : ClassId) (bs : List Int32) (z : Int32) (h0 : Heap) (n0 : Nat) (Z0 : n0 ≤ h0.size) (X00 : Old Z n0 h0) (O2 : Sta Z Z.heap "java/lang/String" "COMPACT_STRINGS" "Z" (.int z)) (P5 : ¬ z = 0) (E : Exa Z h0 x "java/lang/String") (V : Fld Z h0 x "java/lang/String" "value" "[B" .null) (C : Fld Z h0 x "java/lang/String" "coder" "B" (.int (0 : Int32))) (gx : n0 ≤ x) (Eb : Exa Z h0 b "java/lang/StringBuilder") (Cb : Fld Z h0 b "java/lang/AbstractStringBuilder" "coder" "B" (.int (1 : Int32))) (Nb : Fld Z h0 b "java/lang/AbstractStringBuilder" "count" "I" (.int (Int32.ofNat bs.length))) (Vb : Fld Z h0 b "java/lang/AbstractStringBuilder" "value" "[B" (.ref t)) (Mb : Fld Z h0 b "java/lang/AbstractStringBuilder" "maybeLatin1" "Z" (.int (0 : Int32))) (Ab : Arv Z h0 t kt .byte (32 : Int32) (StrChars.Road.wideBytes bs) (.int (0 : Int32))) (hp : ∀ c ∈ bs, ¬ c < 0 ∧ ¬ (65535 : Int32) < c) (hb : bs.length < 16) (hw1 : ∃ c ∈ bs, (255 : Int32) < c) :
    MetFree l yM31 (head1 [Jvm.Cond.code yM31 jdk_42_method_53_code 2 none] rM31) (fun a_ U_ => a_ = #[(.ref x), (.ref b)] ∧ Z.Warmed39 U_.vm ∧ U_.heap = h0) (fun _ _ _ _ _ => True) (fun _ U_ o_ V_ => ∃ v_ L_, o_ = .returned v_ ∧ Q_own_si11 Z x b t kt bs z h0 n0 v_ V_.heap L_ ∧ FrameEnd U_ o_ V_ L_ rM31.cells rM31.slots) := by
  refine MetFree.of_bodySF (plainFor_of_name own_pn0) hisR ?_
  intro p e s m args below meth c s₁ Bd hml0 hP hK
  obtain ⟨rfl, hZ, hh⟩ := hP
  have hx := Bd.exec
  have hby := Bd.bytes
  have dB := @own_d c _ hby
  have hml : c.maxLocals = 2 := hml0
  have hown : s.vm.findClass "java/lang/String" = some m.cls := findClass_of_methodNamed Bd.named
  have hnm := (name_of_methodNamed Bd.named Bd.method).1
  have X0 : Stand p l e rM31 s m #[(.ref x), (.ref b)] below meth c s₁ [] 0 0 := Stand.of_body Bd
  have e0 : s₁.heap = h0 := by rw [← hh, Bd.state]; rfl
  have N0 := Fr.nil n0
  have KK0 := Keep.refl h0 [x]
  have cc0 : Steps p.tables e below (s₁.setTop (entryFrame m #[(.ref x), (.ref b)] 2)) (s₁.setTop (mkF m 0 #[sR x, sR b] [])) := XT.entry rfl
  obtain ⟨S0', hS0'⟩ : ∃ S, S = (s₁.setTop (entryFrame m #[(.ref x), (.ref b)] 2)) := ⟨_, rfl⟩
  rw [← hS0'] at cc0
  have w_136 := own_w hw 136 rfl
  have cc21 : oS p e below S0' s₁ (mkF m 3 #[sR x, sR b] [.null, (.ref b), (.ref x)]) := Steps.trans cc0 (by
    refine XS.aloadN X0.here hx rfl (dB d30_0) rfl rfl ?_
    refine XS.aloadN X0.here hx rfl (dB d30_1) rfl rfl ?_
    refine XS.aconstNull X0.here hx rfl (dB d30_2) ?_
    exact Steps.refl _)
  obtain ⟨_, _, ⟨T22, L22, k22, n22⟩, -, X22, ⟨Lc22, hQ22, l22, y22, z22⟩, st22⟩ := X0.specialBack hx (y := yM30) rfl hown (mvT hZ (own_w hw 134 rfl)) (mvT hZ (own_w hw 135 rfl)) (mvT hZ w_136) (by decide) (backOf (W := 0) (own_si21 l Z a0 hw x b t kt bs z h0 n0 Z0 X00 O2 P5 E V C gx Eb Cb Nb Vb Mb Ab hp hb hw1) hZ w_136 (own_w hw 7 rfl) (by decide) (by decide)) (g := (mkF m 3 #[sR x, sR b] [.null, (.ref b), (.ref x)])) rfl (by rw [hml]; rfl) (Steps.refl _) (a := x) (argsL := [(.ref b), .null]) (rest := []) (lenOf own_pd22 rfl) rfl (Nat.le_of_eq rfl) (dB d30_3) (fun _ _ => ⟨rfl, e0, Nat.le_of_ble_eq_true rfl, Nat.le_of_ble_eq_true rfl⟩)
  dsimp only [Pt.U, Pt.locs, Pt.cells, Pt.slots] at X22 l22 y22 z22 st22 hQ22
  subst l22 y22 z22
  obtain ⟨rfl, Nq22, Kq22, Hq22⟩ := hQ22
  have N22 := Fr.app N0 Nq22
  have KK1 : Keep h0 T22.heap [x] := KK0.trans Kq22 (allS (Or.inl (List.mem_of_getElem? (i := 0) rfl)) all0)
  have Zs1 : n0 ≤ T22.heap.size := Nat.le_trans Z0 Kq22.1
  have e22 : T22.heap = T22.heap := rfl
  have cc23 : oS p e below S0' T22 (mkF m 6 #[sR x, sR b] []) := (Steps.trans cc21 st22)
  have cE := cc23
  rw [hS0'] at cE
  obtain ⟨fs, hr_, hrun, hended, hW, hsame⟩ := X22.leave (v := none) (fun _ => rfl)
  refine ⟨_, _, cE.trans (X22.returnOut hx Bd.returns (dB d30_6) hr_), hrun, hended, _, _, rfl, ?_, ⟨_, rfl⟩, hW, hsame.mono (by first | decide | omega) (by first | decide | omega)⟩
  show Q_own_si11 Z x b t kt bs z h0 n0 _ T22.heap _
  rw [e22]
  exact ⟨rfl, N22, KK1, Hq22⟩
def Q_own_tos1 (Z : State) (b t : Addr) (kt : ClassId) (bs : List Int32) (z : Int32) (h0 : Heap) (n0 : Nat) (v : Option Value) (h : Heap) (L : List Loc) : Prop := ∃ x : Addr, v = some (.ref x) ∧ Fr n0 L ∧ Keep h0 h [] ∧ h0.size ≤ x ∧ own_Wid Z h x bs
set_option maxRecDepth 65536 in
set_option maxHeartbeats 40000000 in
theorem own_tos1 (l : Launch) (Z : State) (a0 : Array Value) (hw : ∀ d ∈ tables_1, d.before a0 Z = true) (b t : Addr) (kt : ClassId) (bs : List Int32) (z : Int32) (h0 : Heap) (n0 : Nat) (Z0 : n0 ≤ h0.size) (X00 : Old Z n0 h0) (O2 : Sta Z Z.heap "java/lang/String" "COMPACT_STRINGS" "Z" (.int z)) (P5 : ¬ z = 0) (E : Exa Z h0 b "java/lang/StringBuilder") (C : Fld Z h0 b "java/lang/AbstractStringBuilder" "coder" "B" (.int (1 : Int32))) (N : Fld Z h0 b "java/lang/AbstractStringBuilder" "count" "I" (.int (Int32.ofNat bs.length))) (V : Fld Z h0 b "java/lang/AbstractStringBuilder" "value" "[B" (.ref t)) (M : Fld Z h0 b "java/lang/AbstractStringBuilder" "maybeLatin1" "Z" (.int (0 : Int32))) (A : Arv Z h0 t kt .byte (32 : Int32) (StrChars.Road.wideBytes bs) (.int (0 : Int32))) (hp : ∀ c ∈ bs, ¬ c < 0 ∧ ¬ (65535 : Int32) < c) (hb : bs.length < 16) (hw1 : ∃ c ∈ bs, (255 : Int32) < c) :
    MetFree l yM32 (head1 [Jvm.Cond.code yM32 jdk_67_method_42_code 1 (some (.object "java/lang/String"))] rM32) (fun a_ U_ => a_ = #[(.ref b)] ∧ Z.Warmed39 U_.vm ∧ U_.heap = h0) (fun _ _ _ _ _ => True) (fun _ U_ o_ V_ => ∃ v_ L_, o_ = .returned v_ ∧ Q_own_tos1 Z b t kt bs z h0 n0 v_ V_.heap L_ ∧ FrameEnd U_ o_ V_ L_ rM32.cells rM32.slots) := by
  refine MetFree.of_bodySF (plainFor_of_name own_pn2) hisR ?_
  intro p e s m args below meth c s₁ Bd hml0 hP hK
  obtain ⟨rfl, hZ, hh⟩ := hP
  have hx := Bd.exec
  have hby := Bd.bytes
  have dB := @own_d c _ hby
  have hml : c.maxLocals = 1 := hml0
  have hown : s.vm.findClass "java/lang/StringBuilder" = some m.cls := findClass_of_methodNamed Bd.named
  have hnm := (name_of_methodNamed Bd.named Bd.method).1
  have X0 : Stand p l e rM32 s m #[(.ref b)] below meth c s₁ [] 0 0 := Stand.of_body Bd
  have e0 : s₁.heap = h0 := by rw [← hh, Bd.state]; rfl
  have N0 := Fr.nil n0
  have KK0 := Keep.refl h0 ([] : List Addr)
  have cc0 : Steps p.tables e below (s₁.setTop (entryFrame m #[(.ref b)] 1)) (s₁.setTop (mkF m 0 #[sR b] [])) := XT.entry rfl
  obtain ⟨S0', hS0'⟩ : ∃ S, S = (s₁.setTop (entryFrame m #[(.ref b)] 1)) := ⟨_, rfl⟩
  rw [← hS0'] at cc0
  have w_7 := own_w hw 7 rfl
  have w_133 := own_w hw 133 rfl
  obtain ⟨T21, h21, X21, e21, E21, A21, D21, -, st21⟩ := newO X0 hx hZ hown (own_w hw 130 rfl) (own_w hw 6 rfl) w_7 e0 (g := (mkF m 0 #[sR b] [])) rfl (dB d31_0) (by decide) (by decide)
  obtain ⟨x, g_x⟩ : ∃ z, z = h0.size := ⟨_, rfl⟩
  rw [← g_x] at A21 D21 st21
  have K21 := (Keep.refl h0 ([] : List Addr)).ext E21
  have b_x : h0.size ≤ x := (Nat.le_of_eq g_x.symm)
  have gn_x : n0 ≤ x := Nat.le_trans Z0 b_x
  have s0_x : h0.size ≤ x := Nat.le_trans KK0.1 b_x
  have ne_b_x : b ≠ x := Nat.ne_of_lt (Nat.lt_of_lt_of_le E.lt b_x)
  have ne_t_x : t ≠ x := Nat.ne_of_lt (Nat.lt_of_lt_of_le A.lt b_x)
  have KK1 : Keep h0 h21 ([] : List Addr) := KK0.trans K21 all0
  have Zs1 : n0 ≤ h21.size := Nat.le_trans Z0 K21.1
  have F_value_x : Fld Z h21 x "java/lang/String" "value" "[B" .null := D21 (Or.inr (own_w hw 34 rfl)) (ty := (.array .byte)) (by decide)
  have F_coder_x : Fld Z h21 x "java/lang/String" "coder" "B" (.int (0 : Int32)) := D21 (Or.inr (own_w hw 32 rfl)) (ty := .byte) (by decide)
  have cc23 : oS p e below S0' T21 (mkF m 5 #[sR b] [(.ref b), (.ref x), (.ref x)]) := Steps.trans (cc0.trans (st21 _ (Steps.refl _))) (by
    refine XS.dup X21.here hx rfl (dB d31_3) rfl rfl ?_
    refine XS.aloadN X21.here hx rfl (dB d31_4) rfl rfl ?_
    exact Steps.refl _)
  have fa22 : Old Z n0 h21 := (X00.keep K21 all0)
  have fa24 : Exa Z h21 b "java/lang/StringBuilder" := (E.keep K21)
  have fa25 : Fld Z h21 b "java/lang/AbstractStringBuilder" "coder" "B" (.int (1 : Int32)) := (C.keep K21 nin0)
  have fa26 : Fld Z h21 b "java/lang/AbstractStringBuilder" "count" "I" (.int (Int32.ofNat bs.length)) := (N.keep K21 nin0)
  have fa27 : Fld Z h21 b "java/lang/AbstractStringBuilder" "value" "[B" (.ref t) := (V.keep K21 nin0)
  have fa28 : Fld Z h21 b "java/lang/AbstractStringBuilder" "maybeLatin1" "Z" (.int (0 : Int32)) := (M.keep K21 nin0)
  have fa29 : Arv Z h21 t kt .byte (32 : Int32) (StrChars.Road.wideBytes bs) (.int (0 : Int32)) := (A.keep K21 nin0)
  obtain ⟨_, _, ⟨T30, L30, k30, n30⟩, -, X30, ⟨Lc30, hQ30, l30, y30, z30⟩, st30⟩ := X21.specialBack hx (y := yM31) rfl hown (mvT hZ (own_w hw 131 rfl)) (mvT hZ (own_w hw 132 rfl)) (mvT hZ w_133) (by decide) (backOf (W := 1) (own_si11 l Z a0 hw x b t kt bs z h21 n0 Zs1 fa22 O2 P5 A21 F_value_x F_coder_x gn_x fa24 fa25 fa26 fa27 fa28 fa29 hp hb hw1) hZ w_133 w_7 (by decide) (by decide)) (g := (mkF m 5 #[sR b] [(.ref b), (.ref x), (.ref x)])) rfl (by rw [hml]; rfl) (Steps.refl _) (a := x) (argsL := [(.ref b)]) (rest := [(.ref x)]) (lenOf own_pd23 rfl) rfl (Nat.le_of_eq rfl) (dB d31_5) (fun _ _ => ⟨rfl, e21, Nat.le_of_ble_eq_true rfl, Nat.le_of_ble_eq_true rfl⟩)
  dsimp only [Pt.U, Pt.locs, Pt.cells, Pt.slots] at X30 l30 y30 z30 st30 hQ30
  subst l30 y30 z30
  obtain ⟨rfl, Nq30, Kq30, Hq30⟩ := hQ30
  have N30 := Fr.app N0 Nq30
  have KK2 : Keep h0 T30.heap ([] : List Addr) := KK1.trans Kq30 (allS (Or.inr s0_x) all0)
  have Zs2 : n0 ≤ T30.heap.size := Nat.le_trans Zs1 Kq30.1
  have e30 : T30.heap = T30.heap := rfl
  have cc31 : oS p e below S0' T30 (mkF m 8 #[sR b] [(.ref x)]) := (Steps.trans cc23 st30)
  have cE := cc31
  rw [hS0'] at cE
  obtain ⟨fs, hr_, hrun, hended, hW, hsame⟩ := X30.leave (v := some (.ref x)) (fun h => by rw [Bd.returns] at h; cases h)
  refine ⟨_, _, cE.trans (X30.areturnOut hx (rfl) Bd.returns rfl (dB d31_8) hr_), hrun, hended, _, _, rfl, ?_, ⟨_, rfl⟩, hW, hsame.mono (by first | decide | omega) (by first | decide | omega)⟩
  show Q_own_tos1 Z b t kt bs z h0 n0 _ T30.heap _
  rw [e30]
  exact ⟨x, rfl, N30, KK2, s0_x, Hq30⟩
theorem d32_0 : decode kM32 0 = .ok (.getstatic 44, 3) := by decide +kernel
theorem d32_3 : decode kM32 3 = .ok (.ifCond .ne 25, 3) := by decide +kernel
theorem d32_28 : decode kM32 28 = .ok (.iload_n 1, 1) := by decide +kernel
theorem d32_29 : decode kM32 29 = .ok (.iconst 1, 1) := by decide +kernel
theorem d32_30 : decode kM32 30 = .ok (.ishl, 1) := by decide +kernel
theorem d32_31 : decode kM32 31 = .ok (.istore_n 1, 1) := by decide +kernel
theorem d32_32 : decode kM32 32 = .ok (.aload_n 0, 1) := by decide +kernel
theorem d32_33 : decode kM32 33 = .ok (.iload_n 1, 1) := by decide +kernel
theorem d32_34 : decode kM32 34 = .ok (.iinc 1 1, 3) := by decide +kernel
theorem d32_37 : decode kM32 37 = .ok (.baload, 1) := by decide +kernel
theorem d32_38 : decode kM32 38 = .ok (.sipush 255, 3) := by decide +kernel
theorem d32_41 : decode kM32 41 = .ok (.iand, 1) := by decide +kernel
theorem d32_42 : decode kM32 42 = .ok (.getstatic 59, 3) := by decide +kernel
theorem d32_45 : decode kM32 45 = .ok (.ishl, 1) := by decide +kernel
theorem d32_46 : decode kM32 46 = .ok (.aload_n 0, 1) := by decide +kernel
theorem d32_47 : decode kM32 47 = .ok (.iload_n 1, 1) := by decide +kernel
theorem d32_48 : decode kM32 48 = .ok (.baload, 1) := by decide +kernel
theorem d32_49 : decode kM32 49 = .ok (.sipush 255, 3) := by decide +kernel
theorem d32_52 : decode kM32 52 = .ok (.iand, 1) := by decide +kernel
theorem d32_53 : decode kM32 53 = .ok (.getstatic 63, 3) := by decide +kernel
theorem d32_56 : decode kM32 56 = .ok (.ishl, 1) := by decide +kernel
theorem d32_57 : decode kM32 57 = .ok (.ior, 1) := by decide +kernel
theorem d32_58 : decode kM32 58 = .ok (.i2c, 1) := by decide +kernel
theorem d32_59 : decode kM32 59 = .ok (.ireturn, 1) := by decide +kernel
def Q_own_getc (Z : State) (t : Addr) (kb : ClassId) (cs : List Int32) (i : Nat) (h0 : Heap) (n0 : Nat) (v : Option Value) (h : Heap) (L : List Loc) : Prop := v = some (.int (cs.getD i 0)) ∧ Fr n0 L ∧ h = h0
set_option maxRecDepth 65536 in
set_option maxHeartbeats 40000000 in
theorem own_getc (l : Launch) (Z : State) (a0 : Array Value) (hw : ∀ d ∈ tables_1, d.before a0 Z = true) (t : Addr) (kb : ClassId) (cs : List Int32) (i : Nat) (h0 : Heap) (n0 : Nat) (Z0 : n0 ≤ h0.size) (X00 : Old Z n0 h0) (O3 : StrChars.Road.U3Z Z Z.heap) (A : Arv Z h0 t kb .byte (Int32.ofNat (2 * cs.length)) (StrChars.Road.wideBytes cs) (.int (0 : Int32))) (hi : i < cs.length) (hl : cs.length ≤ 4000) (hp : ∀ c ∈ cs, ¬ c < 0 ∧ ¬ (65535 : Int32) < c) :
    MetFree l yM33 (head1 [Jvm.Cond.code yM33 jdk_52_method_5_code 2 (some .char)] rM2) (fun a_ U_ => a_ = #[(.ref t), (.int (Int32.ofNat i))] ∧ Z.Warmed39 U_.vm ∧ U_.heap = h0) (fun _ _ _ _ _ => True) (fun _ U_ o_ V_ => ∃ v_ L_, o_ = .returned v_ ∧ Q_own_getc Z t kb cs i h0 n0 v_ V_.heap L_ ∧ FrameEnd U_ o_ V_ L_ rM2.cells rM2.slots) := by
  refine MetFree.of_bodySF (plainFor_of_name own_pn3) hisR ?_
  intro p e s m args below meth c s₁ Bd hml0 hP hK
  obtain ⟨rfl, hZ, hh⟩ := hP
  have hx := Bd.exec
  have hby := Bd.bytes
  have dB := @own_d c _ hby
  have hml : c.maxLocals = 2 := hml0
  have hown : s.vm.findClass "java/lang/StringUTF16" = some m.cls := findClass_of_methodNamed Bd.named
  have hnm := (name_of_methodNamed Bd.named Bd.method).1
  have X0 : Stand p l e rM2 s m #[(.ref t), (.int (Int32.ofNat i))] below meth c s₁ [] 0 0 := Stand.of_body Bd
  have e0 : s₁.heap = h0 := by rw [← hh, Bd.state]; rfl
  have N0 := Fr.nil n0
  have KK0 := Keep.refl h0 ([] : List Addr)
  have cc0 : Steps p.tables e below (s₁.setTop (entryFrame m #[(.ref t), (.int (Int32.ofNat i))] 2)) (s₁.setTop (mkF m 0 #[sR t, sI (Int32.ofNat i)] [])) := XT.entry rfl
  obtain ⟨S0', hS0'⟩ : ∃ S, S = (s₁.setTop (entryFrame m #[(.ref t), (.int (Int32.ofNat i))] 2)) := ⟨_, rfl⟩
  rw [← hS0'] at cc0
  obtain ⟨T21, X21, e21, st21⟩ := getS2 X0 hx hZ hown (host := "") (Or.inl (own_w hw 206 rfl)) Via.refl e0 (O3.1.ext X00.2) (g := (mkF m 0 #[sR t, sI (Int32.ofNat i)] [])) rfl (dB d32_0)
  have cc22 : oS p e below S0' T21 (mkF m 31 #[sR t, sI (Int32.ofNat i)] [(.int ((Int32.ofNat i) <<< ((1 : Int32) &&& 31)))]) := Steps.trans (cc0.trans (st21 _ (Steps.refl _))) (by
    refine XS.ifYes X21.here hx rfl (pc0 := 3) rfl (dB d32_3) rfl (i0_ne_t (by decide)) (by decide) rfl ?_
    refine XS.iloadN X21.here hx rfl (dB d32_28) rfl ?_
    refine iconstV X21.here hx rfl 1 (dB d32_29) (by decide) ?_
    refine XT.ishl X21.here hx rfl (dB d32_30) rfl ?_
    exact Steps.refl _)
  rw [StrChars.shl1] at cc22
  have cc23 : oS p e below S0' T21 (mkF m 37 #[sR t, sI ((Int32.ofNat (2 * i)) + 1)] [(.int (Int32.ofNat (2 * i))), (.ref t)]) := Steps.trans cc22 (by
    refine XS.istoreN X21.here hx rfl (dB d32_31) rfl rfl ?_
    refine XS.aloadN X21.here hx rfl (dB d32_32) rfl rfl ?_
    refine XS.iloadN X21.here hx rfl (dB d32_33) rfl ?_
    refine iincV X21.here hx rfl 1 (dB d32_34) (by decide) rfl rfl ?_
    exact Steps.refl _)
  obtain ⟨clu24, Aru24, qu24, Su24, Ngu24, Hsu24, Gsu24⟩ := id A
  have inu24 : ¬ (Int32.ofNat (2 * i) < 0 ∨ clu24.slots.size ≤ (Int32.ofNat (2 * i)).toNatClampNeg) := inb_of Su24 ⟨Int32.ofNat_not_neg (by omega), lt32 (by omega) (by omega)⟩
  have atu24 : clu24.slots[(Int32.ofNat (2 * i)).toNatClampNeg]? = some (.int (StrChars.lo8 (cs.getD i 0))) := Hsu24.at inu24 (by rw [n32 (by omega)]; exact StrChars.Road.wide_lo _ cs i hi)
  have cc25 : oS p e below S0' T21 (mkF m 42 #[sR t, sI ((Int32.ofNat (2 * i)) + 1)] [(.int ((StrChars.lo8 (cs.getD i 0)) &&& (255 : Int32)))]) := Steps.trans cc23 (by
    refine X21.baloadBytes hx (j := Int32.ofNat (2 * i)) (v := (.int (StrChars.lo8 (cs.getD i 0)))) (by rw [e21]; exact Aru24.1) (State.isArrayOf_alike (hZ).alike Aru24.2.1) Aru24.2.2 inu24 atu24 (g := (mkF m 37 #[sR t, sI ((Int32.ofNat (2 * i)) + 1)] [(.int (Int32.ofNat (2 * i))), (.ref t)])) rfl rfl (dB d32_37) _ ?_
    refine sipushV X21.here hx rfl 255 (dB d32_38) (by decide) ?_
    refine XS.iand X21.here hx rfl (dB d32_41) rfl ?_
    exact Steps.refl _)
  obtain ⟨T26, X26, e26, st26⟩ := getS2 X21 hx hZ hown (host := "") (Or.inl (own_w hw 207 rfl)) Via.refl e21 (O3.2.1.ext X00.2) (g := (mkF m 42 #[sR t, sI ((Int32.ofNat (2 * i)) + 1)] [(.int ((StrChars.lo8 (cs.getD i 0)) &&& (255 : Int32)))])) rfl (dB d32_42)
  have cc27 : oS p e below S0' T26 (mkF m 48 #[sR t, sI ((Int32.ofNat (2 * i)) + 1)] [(.int ((Int32.ofNat (2 * i)) + 1)), (.ref t), (.int (((StrChars.lo8 (cs.getD i 0)) &&& (255 : Int32)) <<< ((0 : Int32) &&& 31)))]) := Steps.trans (cc25.trans (st26 _ (Steps.refl _))) (by
    refine XT.ishl X26.here hx rfl (dB d32_45) rfl ?_
    refine XS.aloadN X26.here hx rfl (dB d32_46) rfl rfl ?_
    refine XS.iloadN X26.here hx rfl (dB d32_47) rfl ?_
    exact Steps.refl _)
  have cz : oS p e below S0' T26 (mkF m 48 #[sR t, sI (Int32.ofNat (2 * i + 1))] [(.int (Int32.ofNat (2 * i + 1))), (.ref t), (.int (((StrChars.lo8 (cs.getD i 0)) &&& (255 : Int32)) <<< ((0 : Int32) &&& 31)))]) := by
    have := cc27
    rw [succ32] at this
    exact this
  obtain ⟨clu28, Aru28, qu28, Su28, Ngu28, Hsu28, Gsu28⟩ := id A
  have inu28 : ¬ (Int32.ofNat (2 * i + 1) < 0 ∨ clu28.slots.size ≤ (Int32.ofNat (2 * i + 1)).toNatClampNeg) := inb_of Su28 ⟨Int32.ofNat_not_neg (by omega), lt32 (by omega) (by omega)⟩
  have atu28 : clu28.slots[(Int32.ofNat (2 * i + 1)).toNatClampNeg]? = some (.int (StrChars.hi8 (cs.getD i 0))) := Hsu28.at inu28 (by rw [n32 (by omega)]; exact StrChars.Road.wide_hi _ cs i hi)
  have cc29 : oS p e below S0' T26 (mkF m 53 #[sR t, sI (Int32.ofNat (2 * i + 1))] [(.int ((StrChars.hi8 (cs.getD i 0)) &&& (255 : Int32))), (.int (((StrChars.lo8 (cs.getD i 0)) &&& (255 : Int32)) <<< ((0 : Int32) &&& 31)))]) := Steps.trans cz (by
    refine X26.baloadBytes hx (j := Int32.ofNat (2 * i + 1)) (v := (.int (StrChars.hi8 (cs.getD i 0)))) (by rw [e26]; exact Aru28.1) (State.isArrayOf_alike (hZ).alike Aru28.2.1) Aru28.2.2 inu28 atu28 (g := (mkF m 48 #[sR t, sI (Int32.ofNat (2 * i + 1))] [(.int (Int32.ofNat (2 * i + 1))), (.ref t), (.int (((StrChars.lo8 (cs.getD i 0)) &&& (255 : Int32)) <<< ((0 : Int32) &&& 31)))])) rfl rfl (dB d32_48) _ ?_
    refine sipushV X26.here hx rfl 255 (dB d32_49) (by decide) ?_
    refine XS.iand X26.here hx rfl (dB d32_52) rfl ?_
    exact Steps.refl _)
  obtain ⟨T30, X30, e30, st30⟩ := getS2 X26 hx hZ hown (host := "") (Or.inl (own_w hw 208 rfl)) Via.refl e26 (O3.2.2.ext X00.2) (g := (mkF m 53 #[sR t, sI (Int32.ofNat (2 * i + 1))] [(.int ((StrChars.hi8 (cs.getD i 0)) &&& (255 : Int32))), (.int (((StrChars.lo8 (cs.getD i 0)) &&& (255 : Int32)) <<< ((0 : Int32) &&& 31)))])) rfl (dB d32_53)
  have cc31 : oS p e below S0' T30 (mkF m 59 #[sR t, sI (Int32.ofNat (2 * i + 1))] [(.int (((((StrChars.lo8 (cs.getD i 0)) &&& (255 : Int32)) <<< ((0 : Int32) &&& 31)) ||| (((StrChars.hi8 (cs.getD i 0)) &&& (255 : Int32)) <<< ((8 : Int32) &&& 31))).toUInt32.toUInt16.toUInt32.toInt32))]) := Steps.trans (cc29.trans (st30 _ (Steps.refl _))) (by
    refine XT.ishl X30.here hx rfl (dB d32_56) rfl ?_
    refine XT.ior X30.here hx rfl (dB d32_57) rfl ?_
    refine XT.i2c X30.here hx rfl (dB d32_58) rfl ?_
    exact Steps.refl _)
  have hc : cs.getD i 0 ∈ cs := by rw [List.getD_eq_getElem?_getD, List.getElem?_eq_getElem hi]; exact List.getElem_mem _
  have cy : oS p e below S0' T30 (mkF m 59 #[sR t, sI (Int32.ofNat (2 * i + 1))] [(.int (cs.getD i 0))]) := by
    rw [← StrChars.pair_says (hp _ hc).1 (hp _ hc).2]
    exact cc31
  have cE := cy
  rw [hS0'] at cE
  obtain ⟨fs, hr_, hrun, hended, hW, hsame⟩ := X30.leave (v := some (.int (cs.getD i 0))) (fun h => by rw [Bd.returns] at h; cases h)
  refine ⟨_, _, cE.trans (X30.ireturnOut hx Bd.returns (StrChars.narrow_ch (hp _ hc).1 (hp _ hc).2) (by simp) (dB d32_59) hr_), hrun, hended, _, _, rfl, ?_, ⟨_, rfl⟩, hW, hsame.mono (by first | decide | omega) (by first | decide | omega)⟩
  show Q_own_getc Z t kb cs i h0 n0 _ T30.heap _
  rw [e30]
  exact ⟨rfl, N0, rfl⟩
theorem d33_0 : decode kM33 0 = .ok (.getstatic 38, 3) := by decide +kernel
theorem d33_3 : decode kM33 3 = .ok (.ifCond .eq 14, 3) := by decide +kernel
theorem d33_6 : decode kM33 6 = .ok (.aload_n 0, 1) := by decide +kernel
theorem d33_7 : decode kM33 7 = .ok (.getfield 15, 3) := by decide +kernel
theorem d33_10 : decode kM33 10 = .ok (.ifCond .ne 7, 3) := by decide +kernel
theorem d33_13 : decode kM33 13 = .ok (.iconst 1, 1) := by decide +kernel
theorem d33_14 : decode kM33 14 = .ok (.goto 4, 3) := by decide +kernel
theorem d33_17 : decode kM33 17 = .ok (.iconst 0, 1) := by decide +kernel
theorem d33_18 : decode kM33 18 = .ok (.ireturn, 1) := by decide +kernel
def Q_own_isL (Z : State) (x : Addr) (cd z : Int32) (h0 : Heap) (n0 : Nat) (v : Option Value) (h : Heap) (L : List Loc) : Prop := v = some (.int (1 - cd)) ∧ Fr n0 L ∧ h = h0
set_option maxRecDepth 65536 in
set_option maxHeartbeats 40000000 in
theorem own_isL (l : Launch) (Z : State) (a0 : Array Value) (hw : ∀ d ∈ tables_1, d.before a0 Z = true) (x : Addr) (cd z : Int32) (h0 : Heap) (n0 : Nat) (Z0 : n0 ≤ h0.size) (X00 : Old Z n0 h0) (O2 : Sta Z Z.heap "java/lang/String" "COMPACT_STRINGS" "Z" (.int z)) (P5 : ¬ z = 0) (C : Fld Z h0 x "java/lang/String" "coder" "B" (.int cd)) (hcd : cd = 0 ∨ cd = 1) :
    MetFree l yM34 (head1 [Jvm.Cond.code yM34 jdk_42_method_154_code 1 (some .boolean)] rM2) (fun a_ U_ => a_ = #[(.ref x)] ∧ Z.Warmed39 U_.vm ∧ U_.heap = h0) (fun _ _ _ _ _ => True) (fun _ U_ o_ V_ => ∃ v_ L_, o_ = .returned v_ ∧ Q_own_isL Z x cd z h0 n0 v_ V_.heap L_ ∧ FrameEnd U_ o_ V_ L_ rM2.cells rM2.slots) := by
  refine MetFree.of_bodySF (plainFor_of_name own_pn0) hisR ?_
  intro p e s m args below meth c s₁ Bd hml0 hP hK
  obtain ⟨rfl, hZ, hh⟩ := hP
  have hx := Bd.exec
  have hby := Bd.bytes
  have dB := @own_d c _ hby
  have hml : c.maxLocals = 1 := hml0
  have hown : s.vm.findClass "java/lang/String" = some m.cls := findClass_of_methodNamed Bd.named
  have hnm := (name_of_methodNamed Bd.named Bd.method).1
  have X0 : Stand p l e rM2 s m #[(.ref x)] below meth c s₁ [] 0 0 := Stand.of_body Bd
  have e0 : s₁.heap = h0 := by rw [← hh, Bd.state]; rfl
  have N0 := Fr.nil n0
  have KK0 := Keep.refl h0 ([] : List Addr)
  have cc0 : Steps p.tables e below (s₁.setTop (entryFrame m #[(.ref x)] 1)) (s₁.setTop (mkF m 0 #[sR x] [])) := XT.entry rfl
  obtain ⟨S0', hS0'⟩ : ∃ S, S = (s₁.setTop (entryFrame m #[(.ref x)] 1)) := ⟨_, rfl⟩
  rw [← hS0'] at cc0
  obtain ⟨T21, X21, e21, st21⟩ := getS2 X0 hx hZ hown (host := "") (Or.inl (own_w hw 19 rfl)) Via.refl e0 (O2.ext X00.2) (g := (mkF m 0 #[sR x] [])) rfl (dB d33_0)
  have cc22 : oS p e below S0' T21 (mkF m 7 #[sR x] [(.ref x)]) := Steps.trans (cc0.trans (st21 _ (Steps.refl _))) (by
    refine XS.ifNo X21.here hx rfl (dB d33_3) rfl (i0_eq_f P5) ?_
    refine XS.aloadN X21.here hx rfl (dB d33_6) rfl rfl ?_
    exact Steps.refl _)
  obtain ⟨T23, X23, e23, st23⟩ := getF X21 hx hZ hown (host := "") (Or.inl (own_w hw 31 rfl)) Via.refl e21 C (g := (mkF m 7 #[sR x] [(.ref x)])) rfl rfl (dB d33_7)
  have cc24 : oS p e below S0' T23 (mkF m 10 #[sR x] [(.int cd)]) := (cc22.trans (st23 _ (Steps.refl _)))
  rcases hcd with rfl | rfl
  · skip
    have cc25 : oS p e below S0' T23 (mkF m 18 #[sR x] [(.int 1)]) := Steps.trans cc24 (by
      refine XS.ifNo X23.here hx rfl (dB d33_10) rfl (i0_ne_f rfl) ?_
      refine iconstV X23.here hx rfl 1 (dB d33_13) (by decide) ?_
      refine XS.goto X23.here hx rfl (pc0 := 14) rfl (dB d33_14) (by decide) rfl ?_
      exact Steps.refl _)
    have cE := cc25
    rw [hS0'] at cE
    obtain ⟨fs, hr_, hrun, hended, hW, hsame⟩ := X23.leave (v := some (.int 1)) (fun h => by rw [Bd.returns] at h; cases h)
    refine ⟨_, _, cE.trans (X23.ireturnOut hx Bd.returns (rfl) (by simp) (dB d33_18) hr_), hrun, hended, _, _, rfl, ?_, ⟨_, rfl⟩, hW, hsame.mono (by first | decide | omega) (by first | decide | omega)⟩
    show Q_own_isL Z x 0 z h0 n0 _ T23.heap _
    rw [e23]
    exact ⟨rfl, N0, rfl⟩
  · skip
    have cc25 : oS p e below S0' T23 (mkF m 18 #[sR x] [(.int 0)]) := Steps.trans cc24 (by
      refine XS.ifYes X23.here hx rfl (pc0 := 10) rfl (dB d33_10) rfl (i0_ne_t (by decide)) (by decide) rfl ?_
      refine iconstV X23.here hx rfl 0 (dB d33_17) (by decide) ?_
      exact Steps.refl _)
    have cE := cc25
    rw [hS0'] at cE
    obtain ⟨fs, hr_, hrun, hended, hW, hsame⟩ := X23.leave (v := some (.int 0)) (fun h => by rw [Bd.returns] at h; cases h)
    refine ⟨_, _, cE.trans (X23.ireturnOut hx Bd.returns (rfl) (by simp) (dB d33_18) hr_), hrun, hended, _, _, rfl, ?_, ⟨_, rfl⟩, hW, hsame.mono (by first | decide | omega) (by first | decide | omega)⟩
    show Q_own_isL Z x 1 z h0 n0 _ T23.heap _
    rw [e23]
    exact ⟨rfl, N0, rfl⟩
theorem d34_0 : decode kM34 0 = .ok (.iload_n 0, 1) := by decide +kernel
theorem d34_1 : decode kM34 1 = .ok (.ifCond .lt 8, 3) := by decide +kernel
theorem d34_4 : decode kM34 4 = .ok (.iload_n 0, 1) := by decide +kernel
theorem d34_5 : decode kM34 5 = .ok (.iload_n 1, 1) := by decide +kernel
theorem d34_6 : decode kM34 6 = .ok (.if_icmp .lt 10, 3) := by decide +kernel
theorem d34_16 : decode kM34 16 = .ok (.iload_n 0, 1) := by decide +kernel
theorem d34_17 : decode kM34 17 = .ok (.ireturn, 1) := by decide +kernel
def Q_own_ck (Z : State) (a n : Int32) (f : Value) (h0 : Heap) (n0 : Nat) (v : Option Value) (h : Heap) (L : List Loc) : Prop := v = some (.int a) ∧ Fr n0 L ∧ h = h0
set_option maxRecDepth 65536 in
set_option maxHeartbeats 40000000 in
theorem own_ck (l : Launch) (Z : State) (a0 : Array Value) (hw : ∀ d ∈ tables_1, d.before a0 Z = true) (a n : Int32) (f : Value) (h0 : Heap) (n0 : Nat) (Z0 : n0 ≤ h0.size) (h1 : ¬ a < 0) (h2 : a < n) (hf : f.isRef = true) :
    MetFree l yM35 (head1 [Jvm.Cond.code yM35 jdk_41_method_11_code 3 (some .int)] rM2) (fun a_ U_ => a_ = #[(.int a), (.int n), f] ∧ Z.Warmed39 U_.vm ∧ U_.heap = h0) (fun _ _ _ _ _ => True) (fun _ U_ o_ V_ => ∃ v_ L_, o_ = .returned v_ ∧ Q_own_ck Z a n f h0 n0 v_ V_.heap L_ ∧ FrameEnd U_ o_ V_ L_ rM2.cells rM2.slots) := by
  refine MetFree.of_bodySF (plainFor_of_name own_pn4) hisR ?_
  intro p e s m args below meth c s₁ Bd hml0 hP hK
  obtain ⟨rfl, hZ, hh⟩ := hP
  have hx := Bd.exec
  have hby := Bd.bytes
  have dB := @own_d c _ hby
  have hml : c.maxLocals = 3 := hml0
  have hown : s.vm.findClass "jdk/internal/util/Preconditions" = some m.cls := findClass_of_methodNamed Bd.named
  have hnm := (name_of_methodNamed Bd.named Bd.method).1
  have X0 : Stand p l e rM2 s m #[(.int a), (.int n), f] below meth c s₁ [] 0 0 := Stand.of_body Bd
  have e0 : s₁.heap = h0 := by rw [← hh, Bd.state]; rfl
  have N0 := Fr.nil n0
  have KK0 := Keep.refl h0 ([] : List Addr)
  have cc0 : Steps p.tables e below (s₁.setTop (entryFrame m #[(.int a), (.int n), f] 3)) (s₁.setTop (mkF m 0 #[sI a, sI n, .val f] [])) := XT.entry (by cases f <;> first | rfl | (cases hf))
  obtain ⟨S0', hS0'⟩ : ∃ S, S = (s₁.setTop (entryFrame m #[(.int a), (.int n), f] 3)) := ⟨_, rfl⟩
  rw [← hS0'] at cc0
  have cc21 : oS p e below S0' s₁ (mkF m 17 #[sI a, sI n, .val f] [(.int a)]) := Steps.trans cc0 (by
    refine XS.iloadN X0.here hx rfl (dB d34_0) rfl ?_
    refine XS.ifNo X0.here hx rfl (dB d34_1) rfl (i0_lt_f h1) ?_
    refine XS.iloadN X0.here hx rfl (dB d34_4) rfl ?_
    refine XS.iloadN X0.here hx rfl (dB d34_5) rfl ?_
    refine XS.icmpYes X0.here hx rfl (pc0 := 6) rfl (dB d34_6) rfl (ii_lt_t h2) (by decide) rfl ?_
    refine XS.iloadN X0.here hx rfl (dB d34_16) rfl ?_
    exact Steps.refl _)
  have cE := cc21
  rw [hS0'] at cE
  obtain ⟨fs, hr_, hrun, hended, hW, hsame⟩ := X0.leave (v := some (.int a)) (fun h => by rw [Bd.returns] at h; cases h)
  refine ⟨_, _, cE.trans (X0.ireturnOut hx Bd.returns (rfl) (by simp) (dB d34_17) hr_), hrun, hended, _, _, rfl, ?_, ⟨_, rfl⟩, hW, hsame.mono (by first | decide | omega) (by first | decide | omega)⟩
  show Q_own_ck Z a n f h0 n0 _ s₁.heap _
  rw [e0]
  exact ⟨rfl, N0, rfl⟩
theorem d35_0 : decode kM35 0 = .ok (.iload_n 0, 1) := by decide +kernel
theorem d35_1 : decode kM35 1 = .ok (.iload_n 1, 1) := by decide +kernel
theorem d35_2 : decode kM35 2 = .ok (.getstatic 1053, 3) := by decide +kernel
theorem d35_5 : decode kM35 5 = .ok (.invokestatic 1059, 3) := by decide +kernel
theorem d35_8 : decode kM35 8 = .ok (.pop, 1) := by decide +kernel
theorem d35_9 : decode kM35 9 = .ok (.return_, 1) := by decide +kernel
def Q_own_sck (Z : State) (a n : Int32) (f : Value) (h0 : Heap) (n0 : Nat) (v : Option Value) (h : Heap) (L : List Loc) : Prop := v = none ∧ Fr n0 L ∧ h = h0
set_option maxRecDepth 65536 in
set_option maxHeartbeats 40000000 in
theorem own_sck (l : Launch) (Z : State) (a0 : Array Value) (hw : ∀ d ∈ tables_1, d.before a0 Z = true) (a n : Int32) (f : Value) (h0 : Heap) (n0 : Nat) (Z0 : n0 ≤ h0.size) (X00 : Old Z n0 h0) (h1 : ¬ a < 0) (h2 : a < n) (O4 : Sta Z Z.heap "jdk/internal/util/Preconditions" "SIOOBE_FORMATTER" "Ljava/util/function/BiFunction;" f) (hf : f.isRef = true) :
    MetFree l yM36 (head1 [Jvm.Cond.code yM36 jdk_42_method_155_code 2 none] rM33) (fun a_ U_ => a_ = #[(.int a), (.int n)] ∧ Z.Warmed39 U_.vm ∧ U_.heap = h0) (fun _ _ _ _ _ => True) (fun _ U_ o_ V_ => ∃ v_ L_, o_ = .returned v_ ∧ Q_own_sck Z a n f h0 n0 v_ V_.heap L_ ∧ FrameEnd U_ o_ V_ L_ rM33.cells rM33.slots) := by
  refine MetFree.of_bodySF (plainFor_of_name own_pn0) hisR ?_
  intro p e s m args below meth c s₁ Bd hml0 hP hK
  obtain ⟨rfl, hZ, hh⟩ := hP
  have hx := Bd.exec
  have hby := Bd.bytes
  have dB := @own_d c _ hby
  have hml : c.maxLocals = 2 := hml0
  have hown : s.vm.findClass "java/lang/String" = some m.cls := findClass_of_methodNamed Bd.named
  have hnm := (name_of_methodNamed Bd.named Bd.method).1
  have X0 : Stand p l e rM33 s m #[(.int a), (.int n)] below meth c s₁ [] 0 0 := Stand.of_body Bd
  have e0 : s₁.heap = h0 := by rw [← hh, Bd.state]; rfl
  have N0 := Fr.nil n0
  have KK0 := Keep.refl h0 ([] : List Addr)
  have cc0 : Steps p.tables e below (s₁.setTop (entryFrame m #[(.int a), (.int n)] 2)) (s₁.setTop (mkF m 0 #[sI a, sI n] [])) := XT.entry rfl
  obtain ⟨S0', hS0'⟩ : ∃ S, S = (s₁.setTop (entryFrame m #[(.int a), (.int n)] 2)) := ⟨_, rfl⟩
  rw [← hS0'] at cc0
  have w_189 := own_w hw 189 rfl
  have w_192 := own_w hw 192 rfl
  have cc21 : oS p e below S0' s₁ (mkF m 2 #[sI a, sI n] [(.int n), (.int a)]) := Steps.trans cc0 (by
    refine XS.iloadN X0.here hx rfl (dB d35_0) rfl ?_
    refine XS.iloadN X0.here hx rfl (dB d35_1) rfl ?_
    exact Steps.refl _)
  obtain ⟨T22, X22, e22, st22⟩ := getS2 X0 hx hZ hown (host := "") (Or.inl (own_w hw 188 rfl)) Via.refl e0 (O4.ext X00.2) (g := (mkF m 2 #[sI a, sI n] [(.int n), (.int a)])) rfl (dB d35_2)
  have cc23 : oS p e below S0' T22 (mkF m 5 #[sI a, sI n] [f, (.int n), (.int a)]) := (cc21.trans (st22 _ (Steps.refl _)))
  obtain ⟨_, _, ⟨T24, L24, k24, n24⟩, -, X24, ⟨Lc24, hQ24, l24, y24, z24⟩, st24⟩ := Jvm.LawKit.callS X22 hx (y := yM35) hown (mvT hZ (own_w hw 190 rfl)) (mvT hZ (own_w hw 191 rfl)) (mvT hZ w_189) (mvT hZ w_192) (by decide) (backOf (W := 0) (own_ck l Z a0 hw a n f h0 n0 Z0 h1 h2 hf) hZ w_192 w_189 (by decide) (by decide)) (g := (mkF m 5 #[sI a, sI n] [f, (.int n), (.int a)])) rfl (by rw [hml]; rfl) (argsL := [(.int a), (.int n), f]) (rest := []) (lenOf own_pd24 rfl) rfl (Nat.le_of_eq rfl) (dB d35_5) (fun _ _ => ⟨rfl, e22, Nat.le_of_ble_eq_true rfl, Nat.le_of_ble_eq_true rfl⟩)
  dsimp only [Pt.U, Pt.locs, Pt.cells, Pt.slots] at X24 l24 y24 z24 st24 hQ24
  subst l24 y24 z24
  obtain ⟨rfl, Nq24, eq24⟩ := hQ24
  have N24 := Fr.app N0 Nq24
  have e24 : T24.heap = h0 := eq24
  have cc25 : oS p e below S0' T24 (mkF m 9 #[sI a, sI n] []) := Steps.trans (cc23.trans (st24 _ (Steps.refl _))) (by
    refine XT.pop X24.here hx rfl (dB d35_8) rfl rfl ?_
    exact Steps.refl _)
  have cE := cc25
  rw [hS0'] at cE
  obtain ⟨fs, hr_, hrun, hended, hW, hsame⟩ := X24.leave (v := none) (fun _ => rfl)
  refine ⟨_, _, cE.trans (X24.returnOut hx Bd.returns (dB d35_9) hr_), hrun, hended, _, _, rfl, ?_, ⟨_, rfl⟩, hW, hsame.mono (by first | decide | omega) (by first | decide | omega)⟩
  show Q_own_sck Z a n f h0 n0 _ T24.heap _
  rw [e24]
  exact ⟨rfl, N24, rfl⟩
theorem d36_0 : decode kM36 0 = .ok (.iload_n 0, 1) := by decide +kernel
theorem d36_1 : decode kM36 1 = .ok (.aload_n 1, 1) := by decide +kernel
theorem d36_2 : decode kM36 2 = .ok (.invokestatic 48, 3) := by decide +kernel
theorem d36_5 : decode kM36 5 = .ok (.invokestatic 414, 3) := by decide +kernel
theorem d36_8 : decode kM36 8 = .ok (.return_, 1) := by decide +kernel
def Q_own_uck (Z : State) (t : Addr) (kt : ClassId) (cs : List Int32) (i : Nat) (f : Value) (h0 : Heap) (n0 : Nat) (v : Option Value) (h : Heap) (L : List Loc) : Prop := v = none ∧ Fr n0 L ∧ h = h0
set_option maxRecDepth 65536 in
set_option maxHeartbeats 40000000 in
theorem own_uck (l : Launch) (Z : State) (a0 : Array Value) (hw : ∀ d ∈ tables_1, d.before a0 Z = true) (t : Addr) (kt : ClassId) (cs : List Int32) (i : Nat) (f : Value) (h0 : Heap) (n0 : Nat) (Z0 : n0 ≤ h0.size) (X00 : Old Z n0 h0) (A : Arv Z h0 t kt .byte (Int32.ofNat (2 * cs.length)) (StrChars.Road.wideBytes cs) (.int (0 : Int32))) (hi : i < cs.length) (hl : cs.length ≤ 4000) (O4 : Sta Z Z.heap "jdk/internal/util/Preconditions" "SIOOBE_FORMATTER" "Ljava/util/function/BiFunction;" f) (hf : f.isRef = true) :
    MetFree l yM37 (head1 [Jvm.Cond.code yM37 jdk_52_method_91_code 2 none] rM12) (fun a_ U_ => a_ = #[(.int (Int32.ofNat i)), (.ref t)] ∧ Z.Warmed39 U_.vm ∧ U_.heap = h0) (fun _ _ _ _ _ => True) (fun _ U_ o_ V_ => ∃ v_ L_, o_ = .returned v_ ∧ Q_own_uck Z t kt cs i f h0 n0 v_ V_.heap L_ ∧ FrameEnd U_ o_ V_ L_ rM12.cells rM12.slots) := by
  refine MetFree.of_bodySF (plainFor_of_name own_pn3) hisR ?_
  intro p e s m args below meth c s₁ Bd hml0 hP hK
  obtain ⟨rfl, hZ, hh⟩ := hP
  have hx := Bd.exec
  have hby := Bd.bytes
  have dB := @own_d c _ hby
  have hml : c.maxLocals = 2 := hml0
  have hown : s.vm.findClass "java/lang/StringUTF16" = some m.cls := findClass_of_methodNamed Bd.named
  have hnm := (name_of_methodNamed Bd.named Bd.method).1
  have X0 : Stand p l e rM12 s m #[(.int (Int32.ofNat i)), (.ref t)] below meth c s₁ [] 0 0 := Stand.of_body Bd
  have e0 : s₁.heap = h0 := by rw [← hh, Bd.state]; rfl
  have N0 := Fr.nil n0
  have KK0 := Keep.refl h0 ([] : List Addr)
  have cc0 : Steps p.tables e below (s₁.setTop (entryFrame m #[(.int (Int32.ofNat i)), (.ref t)] 2)) (s₁.setTop (mkF m 0 #[sI (Int32.ofNat i), sR t] [])) := XT.entry rfl
  obtain ⟨S0', hS0'⟩ : ∃ S, S = (s₁.setTop (entryFrame m #[(.int (Int32.ofNat i)), (.ref t)] 2)) := ⟨_, rfl⟩
  rw [← hS0'] at cc0
  have w_7 := own_w hw 7 rfl
  have w_22 := own_w hw 22 rfl
  have w_187 := own_w hw 187 rfl
  have w_230 := own_w hw 230 rfl
  have cc21 : oS p e below S0' s₁ (mkF m 2 #[sI (Int32.ofNat i), sR t] [(.ref t), (.int (Int32.ofNat i))]) := Steps.trans cc0 (by
    refine XS.iloadN X0.here hx rfl (dB d36_0) rfl ?_
    refine XS.aloadN X0.here hx rfl (dB d36_1) rfl rfl ?_
    exact Steps.refl _)
  obtain ⟨_, _, ⟨T22, L22, k22, n22⟩, -, X22, ⟨Lc22, hQ22, l22, y22, z22⟩, st22⟩ := Jvm.LawKit.callS X0 hx (y := yM9) hown (mvT hZ (own_w hw 228 rfl)) (mvT hZ (own_w hw 229 rfl)) (mvT hZ w_22) (mvT hZ w_230) (by decide) (backOf (W := 1) (own_ulen l Z a0 hw t kt cs.length _ h0 n0 Z0 A (by omega)) hZ w_230 w_22 (by decide) (by decide)) (g := (mkF m 2 #[sI (Int32.ofNat i), sR t] [(.ref t), (.int (Int32.ofNat i))])) rfl (by rw [hml]; rfl) (argsL := [(.ref t)]) (rest := [(.int (Int32.ofNat i))]) (lenOf own_pd4 rfl) rfl (Nat.le_of_eq rfl) (dB d36_2) (fun _ _ => ⟨rfl, e0, Nat.le_of_ble_eq_true rfl, Nat.le_of_ble_eq_true rfl⟩)
  dsimp only [Pt.U, Pt.locs, Pt.cells, Pt.slots] at X22 l22 y22 z22 st22 hQ22
  subst l22 y22 z22
  obtain ⟨rfl, Nq22, eq22⟩ := hQ22
  have N22 := Fr.app N0 Nq22
  have e22 : T22.heap = h0 := eq22
  have cc23 : oS p e below S0' T22 (mkF m 5 #[sI (Int32.ofNat i), sR t] [(.int (Int32.ofNat cs.length)), (.int (Int32.ofNat i))]) := (cc21.trans (st22 _ (Steps.refl _)))
  obtain ⟨_, _, ⟨T24, L24, k24, n24⟩, -, X24, ⟨Lc24, hQ24, l24, y24, z24⟩, st24⟩ := Jvm.LawKit.callS X22 hx (y := yM36) hown (mvT hZ (own_w hw 246 rfl)) (mvT hZ (own_w hw 186 rfl)) (mvT hZ w_7) (mvT hZ w_187) (by decide) (backOf (W := 0) (own_sck l Z a0 hw (Int32.ofNat i) (Int32.ofNat cs.length) f h0 n0 Z0 X00 (Int32.ofNat_not_neg (by omega)) (lt32 (by omega) hi) O4 hf) hZ w_187 w_7 (by decide) (by decide)) (g := (mkF m 5 #[sI (Int32.ofNat i), sR t] [(.int (Int32.ofNat cs.length)), (.int (Int32.ofNat i))])) rfl (by rw [hml]; rfl) (argsL := [(.int (Int32.ofNat i)), (.int (Int32.ofNat cs.length))]) (rest := []) (lenOf own_pd18 rfl) rfl (Nat.le_of_eq rfl) (dB d36_5) (fun _ _ => ⟨rfl, e22, Nat.le_of_ble_eq_true rfl, Nat.le_of_ble_eq_true rfl⟩)
  dsimp only [Pt.U, Pt.locs, Pt.cells, Pt.slots] at X24 l24 y24 z24 st24 hQ24
  subst l24 y24 z24
  obtain ⟨rfl, Nq24, eq24⟩ := hQ24
  have N24 := Fr.app N22 Nq24
  have e24 : T24.heap = h0 := eq24
  have cc25 : oS p e below S0' T24 (mkF m 8 #[sI (Int32.ofNat i), sR t] []) := (cc23.trans (st24 _ (Steps.refl _)))
  have cE := cc25
  rw [hS0'] at cE
  obtain ⟨fs, hr_, hrun, hended, hW, hsame⟩ := X24.leave (v := none) (fun _ => rfl)
  refine ⟨_, _, cE.trans (X24.returnOut hx Bd.returns (dB d36_8) hr_), hrun, hended, _, _, rfl, ?_, ⟨_, rfl⟩, hW, hsame.mono (by first | decide | omega) (by first | decide | omega)⟩
  show Q_own_uck Z t kt cs i f h0 n0 _ T24.heap _
  rw [e24]
  exact ⟨rfl, N24, rfl⟩
theorem d37_0 : decode kM37 0 = .ok (.iload_n 1, 1) := by decide +kernel
theorem d37_1 : decode kM37 1 = .ok (.aload_n 0, 1) := by decide +kernel
theorem d37_2 : decode kM37 2 = .ok (.invokestatic 67, 3) := by decide +kernel
theorem d37_5 : decode kM37 5 = .ok (.aload_n 0, 1) := by decide +kernel
theorem d37_6 : decode kM37 6 = .ok (.iload_n 1, 1) := by decide +kernel
theorem d37_7 : decode kM37 7 = .ok (.invokestatic 71, 3) := by decide +kernel
theorem d37_10 : decode kM37 10 = .ok (.ireturn, 1) := by decide +kernel
def Q_own_uch (Z : State) (t : Addr) (kt : ClassId) (cs : List Int32) (i : Nat) (f : Value) (h0 : Heap) (n0 : Nat) (v : Option Value) (h : Heap) (L : List Loc) : Prop := v = some (.int (cs.getD i 0)) ∧ Fr n0 L ∧ h = h0
set_option maxRecDepth 65536 in
set_option maxHeartbeats 40000000 in
theorem own_uch (l : Launch) (Z : State) (a0 : Array Value) (hw : ∀ d ∈ tables_1, d.before a0 Z = true) (t : Addr) (kt : ClassId) (cs : List Int32) (i : Nat) (f : Value) (h0 : Heap) (n0 : Nat) (Z0 : n0 ≤ h0.size) (X00 : Old Z n0 h0) (A : Arv Z h0 t kt .byte (Int32.ofNat (2 * cs.length)) (StrChars.Road.wideBytes cs) (.int (0 : Int32))) (hi : i < cs.length) (hl : cs.length ≤ 4000) (O4 : Sta Z Z.heap "jdk/internal/util/Preconditions" "SIOOBE_FORMATTER" "Ljava/util/function/BiFunction;" f) (hf : f.isRef = true) (O3 : StrChars.Road.U3Z Z Z.heap) (hp : ∀ c ∈ cs, ¬ c < 0 ∧ ¬ (65535 : Int32) < c) :
    MetFree l yM38 (head1 [Jvm.Cond.code yM38 jdk_52_method_83_code 2 (some .char)] rM34) (fun a_ U_ => a_ = #[(.ref t), (.int (Int32.ofNat i))] ∧ Z.Warmed39 U_.vm ∧ U_.heap = h0) (fun _ _ _ _ _ => True) (fun _ U_ o_ V_ => ∃ v_ L_, o_ = .returned v_ ∧ Q_own_uch Z t kt cs i f h0 n0 v_ V_.heap L_ ∧ FrameEnd U_ o_ V_ L_ rM34.cells rM34.slots) := by
  refine MetFree.of_bodySF (plainFor_of_name own_pn3) hisR ?_
  intro p e s m args below meth c s₁ Bd hml0 hP hK
  obtain ⟨rfl, hZ, hh⟩ := hP
  have hx := Bd.exec
  have hby := Bd.bytes
  have dB := @own_d c _ hby
  have hml : c.maxLocals = 2 := hml0
  have hown : s.vm.findClass "java/lang/StringUTF16" = some m.cls := findClass_of_methodNamed Bd.named
  have hnm := (name_of_methodNamed Bd.named Bd.method).1
  have X0 : Stand p l e rM34 s m #[(.ref t), (.int (Int32.ofNat i))] below meth c s₁ [] 0 0 := Stand.of_body Bd
  have e0 : s₁.heap = h0 := by rw [← hh, Bd.state]; rfl
  have N0 := Fr.nil n0
  have KK0 := Keep.refl h0 ([] : List Addr)
  have cc0 : Steps p.tables e below (s₁.setTop (entryFrame m #[(.ref t), (.int (Int32.ofNat i))] 2)) (s₁.setTop (mkF m 0 #[sR t, sI (Int32.ofNat i)] [])) := XT.entry rfl
  obtain ⟨S0', hS0'⟩ : ∃ S, S = (s₁.setTop (entryFrame m #[(.ref t), (.int (Int32.ofNat i))] 2)) := ⟨_, rfl⟩
  rw [← hS0'] at cc0
  have w_22 := own_w hw 22 rfl
  have w_211 := own_w hw 211 rfl
  have w_245 := own_w hw 245 rfl
  have cc21 : oS p e below S0' s₁ (mkF m 2 #[sR t, sI (Int32.ofNat i)] [(.ref t), (.int (Int32.ofNat i))]) := Steps.trans cc0 (by
    refine XS.iloadN X0.here hx rfl (dB d37_0) rfl ?_
    refine XS.aloadN X0.here hx rfl (dB d37_1) rfl rfl ?_
    exact Steps.refl _)
  obtain ⟨_, _, ⟨T22, L22, k22, n22⟩, -, X22, ⟨Lc22, hQ22, l22, y22, z22⟩, st22⟩ := Jvm.LawKit.callS X0 hx (y := yM37) hown (mvT hZ (own_w hw 243 rfl)) (mvT hZ (own_w hw 244 rfl)) (mvT hZ w_22) (mvT hZ w_245) (by decide) (backOf (W := 0) (own_uck l Z a0 hw t kt cs i f h0 n0 Z0 X00 A hi hl O4 hf) hZ w_245 w_22 (by decide) (by decide)) (g := (mkF m 2 #[sR t, sI (Int32.ofNat i)] [(.ref t), (.int (Int32.ofNat i))])) rfl (by rw [hml]; rfl) (argsL := [(.int (Int32.ofNat i)), (.ref t)]) (rest := []) (lenOf own_pd25 rfl) rfl (Nat.le_of_eq rfl) (dB d37_2) (fun _ _ => ⟨rfl, e0, Nat.le_of_ble_eq_true rfl, Nat.le_of_ble_eq_true rfl⟩)
  dsimp only [Pt.U, Pt.locs, Pt.cells, Pt.slots] at X22 l22 y22 z22 st22 hQ22
  subst l22 y22 z22
  obtain ⟨rfl, Nq22, eq22⟩ := hQ22
  have N22 := Fr.app N0 Nq22
  have e22 : T22.heap = h0 := eq22
  have cc23 : oS p e below S0' T22 (mkF m 7 #[sR t, sI (Int32.ofNat i)] [(.int (Int32.ofNat i)), (.ref t)]) := Steps.trans (cc21.trans (st22 _ (Steps.refl _))) (by
    refine XS.aloadN X22.here hx rfl (dB d37_5) rfl rfl ?_
    refine XS.iloadN X22.here hx rfl (dB d37_6) rfl ?_
    exact Steps.refl _)
  obtain ⟨_, _, ⟨T24, L24, k24, n24⟩, -, X24, ⟨Lc24, hQ24, l24, y24, z24⟩, st24⟩ := Jvm.LawKit.callS X22 hx (y := yM33) hown (mvT hZ (own_w hw 209 rfl)) (mvT hZ (own_w hw 210 rfl)) (mvT hZ w_22) (mvT hZ w_211) (by decide) (backOf (W := 0) (own_getc l Z a0 hw t kt cs i h0 n0 Z0 X00 O3 A hi hl hp) hZ w_211 w_22 (by decide) (by decide)) (g := (mkF m 7 #[sR t, sI (Int32.ofNat i)] [(.int (Int32.ofNat i)), (.ref t)])) rfl (by rw [hml]; rfl) (argsL := [(.ref t), (.int (Int32.ofNat i))]) (rest := []) (lenOf own_pd26 rfl) rfl (Nat.le_of_eq rfl) (dB d37_7) (fun _ _ => ⟨rfl, e22, Nat.le_of_ble_eq_true rfl, Nat.le_of_ble_eq_true rfl⟩)
  dsimp only [Pt.U, Pt.locs, Pt.cells, Pt.slots] at X24 l24 y24 z24 st24 hQ24
  subst l24 y24 z24
  obtain ⟨rfl, Nq24, eq24⟩ := hQ24
  have N24 := Fr.app N22 Nq24
  have e24 : T24.heap = h0 := eq24
  have hc : cs.getD i 0 ∈ cs := by rw [List.getD_eq_getElem?_getD, List.getElem?_eq_getElem hi]; exact List.getElem_mem _
  have cc25 : oS p e below S0' T24 (mkF m 10 #[sR t, sI (Int32.ofNat i)] [(.int (cs.getD i 0))]) := (cc23.trans (st24 _ (Steps.refl _)))
  have cE := cc25
  rw [hS0'] at cE
  obtain ⟨fs, hr_, hrun, hended, hW, hsame⟩ := X24.leave (v := some (.int (cs.getD i 0))) (fun h => by rw [Bd.returns] at h; cases h)
  refine ⟨_, _, cE.trans (X24.ireturnOut hx Bd.returns (StrChars.narrow_ch (hp _ hc).1 (hp _ hc).2) (by simp) (dB d37_10) hr_), hrun, hended, _, _, rfl, ?_, ⟨_, rfl⟩, hW, hsame.mono (by first | decide | omega) (by first | decide | omega)⟩
  show Q_own_uch Z t kt cs i f h0 n0 _ T24.heap _
  rw [e24]
  exact ⟨rfl, N24, rfl⟩
theorem d38_0 : decode kM38 0 = .ok (.iload_n 1, 1) := by decide +kernel
theorem d38_1 : decode kM38 1 = .ok (.aload_n 0, 1) := by decide +kernel
theorem d38_2 : decode kM38 2 = .ok (.arraylength, 1) := by decide +kernel
theorem d38_3 : decode kM38 3 = .ok (.invokestatic 9, 3) := by decide +kernel
theorem d38_6 : decode kM38 6 = .ok (.aload_n 0, 1) := by decide +kernel
theorem d38_7 : decode kM38 7 = .ok (.iload_n 1, 1) := by decide +kernel
theorem d38_8 : decode kM38 8 = .ok (.baload, 1) := by decide +kernel
theorem d38_9 : decode kM38 9 = .ok (.sipush 255, 3) := by decide +kernel
theorem d38_12 : decode kM38 12 = .ok (.iand, 1) := by decide +kernel
theorem d38_13 : decode kM38 13 = .ok (.i2c, 1) := by decide +kernel
theorem d38_14 : decode kM38 14 = .ok (.ireturn, 1) := by decide +kernel
def Q_own_lch (Z : State) (t : Addr) (kt : ClassId) (cs : List Int32) (i : Nat) (f : Value) (h0 : Heap) (n0 : Nat) (v : Option Value) (h : Heap) (L : List Loc) : Prop := v = some (.int (cs.getD i 0)) ∧ Fr n0 L ∧ h = h0
set_option maxRecDepth 65536 in
set_option maxHeartbeats 40000000 in
theorem own_lch (l : Launch) (Z : State) (a0 : Array Value) (hw : ∀ d ∈ tables_1, d.before a0 Z = true) (t : Addr) (kt : ClassId) (cs : List Int32) (i : Nat) (f : Value) (h0 : Heap) (n0 : Nat) (Z0 : n0 ≤ h0.size) (X00 : Old Z n0 h0) (A : Arv Z h0 t kt .byte (Int32.ofNat cs.length) (own_by cs) (.int (0 : Int32))) (hi : i < cs.length) (hl : cs.length ≤ 4000) (O4 : Sta Z Z.heap "jdk/internal/util/Preconditions" "SIOOBE_FORMATTER" "Ljava/util/function/BiFunction;" f) (hf : f.isRef = true) (hp : ∀ c ∈ cs, ¬ c < 0 ∧ ¬ (255 : Int32) < c) :
    MetFree l yM39 (head1 [Jvm.Cond.code yM39 jdk_43_method_2_code 2 (some .char)] rM12) (fun a_ U_ => a_ = #[(.ref t), (.int (Int32.ofNat i))] ∧ Z.Warmed39 U_.vm ∧ U_.heap = h0) (fun _ _ _ _ _ => True) (fun _ U_ o_ V_ => ∃ v_ L_, o_ = .returned v_ ∧ Q_own_lch Z t kt cs i f h0 n0 v_ V_.heap L_ ∧ FrameEnd U_ o_ V_ L_ rM12.cells rM12.slots) := by
  refine MetFree.of_bodySF (plainFor_of_name own_pn5) hisR ?_
  intro p e s m args below meth c s₁ Bd hml0 hP hK
  obtain ⟨rfl, hZ, hh⟩ := hP
  have hx := Bd.exec
  have hby := Bd.bytes
  have dB := @own_d c _ hby
  have hml : c.maxLocals = 2 := hml0
  have hown : s.vm.findClass "java/lang/StringLatin1" = some m.cls := findClass_of_methodNamed Bd.named
  have hnm := (name_of_methodNamed Bd.named Bd.method).1
  have X0 : Stand p l e rM12 s m #[(.ref t), (.int (Int32.ofNat i))] below meth c s₁ [] 0 0 := Stand.of_body Bd
  have e0 : s₁.heap = h0 := by rw [← hh, Bd.state]; rfl
  have N0 := Fr.nil n0
  have KK0 := Keep.refl h0 ([] : List Addr)
  have cc0 : Steps p.tables e below (s₁.setTop (entryFrame m #[(.ref t), (.int (Int32.ofNat i))] 2)) (s₁.setTop (mkF m 0 #[sR t, sI (Int32.ofNat i)] [])) := XT.entry rfl
  obtain ⟨S0', hS0'⟩ : ∃ S, S = (s₁.setTop (entryFrame m #[(.ref t), (.int (Int32.ofNat i))] 2)) := ⟨_, rfl⟩
  rw [← hS0'] at cc0
  have w_7 := own_w hw 7 rfl
  have w_187 := own_w hw 187 rfl
  have hc : cs.getD i 0 ∈ cs := by rw [List.getD_eq_getElem?_getD, List.getElem?_eq_getElem hi]; exact List.getElem_mem _
  have cc21 : oS p e below S0' s₁ (mkF m 2 #[sR t, sI (Int32.ofNat i)] [(.ref t), (.int (Int32.ofNat i))]) := Steps.trans cc0 (by
    refine XS.iloadN X0.here hx rfl (dB d38_0) rfl ?_
    refine XS.aloadN X0.here hx rfl (dB d38_1) rfl rfl ?_
    exact Steps.refl _)
  obtain ⟨clu22, Aru22, -, Su22, Ngu22, -, -⟩ := id A
  have cl_u22 := X0.arraylength hx (by rw [e0]; exact Aru22.1) (State.isArrayOf_alike (hZ).alike Aru22.2.1) (g := (mkF m 2 #[sR t, sI (Int32.ofNat i)] [(.ref t), (.int (Int32.ofNat i))])) rfl rfl (dB d38_2) _ (Steps.refl _)
  rw [len_of Su22 Ngu22] at cl_u22
  have cc23 : oS p e below S0' s₁ (mkF m 3 #[sR t, sI (Int32.ofNat i)] [(.int (Int32.ofNat cs.length)), (.int (Int32.ofNat i))]) := (Steps.trans cc21 cl_u22)
  obtain ⟨_, _, ⟨T24, L24, k24, n24⟩, -, X24, ⟨Lc24, hQ24, l24, y24, z24⟩, st24⟩ := Jvm.LawKit.callS X0 hx (y := yM36) hown (mvT hZ (own_w hw 185 rfl)) (mvT hZ (own_w hw 186 rfl)) (mvT hZ w_7) (mvT hZ w_187) (by decide) (backOf (W := 0) (own_sck l Z a0 hw (Int32.ofNat i) (Int32.ofNat cs.length) f h0 n0 Z0 X00 (Int32.ofNat_not_neg (by omega)) (lt32 (by omega) hi) O4 hf) hZ w_187 w_7 (by decide) (by decide)) (g := (mkF m 3 #[sR t, sI (Int32.ofNat i)] [(.int (Int32.ofNat cs.length)), (.int (Int32.ofNat i))])) rfl (by rw [hml]; rfl) (argsL := [(.int (Int32.ofNat i)), (.int (Int32.ofNat cs.length))]) (rest := []) (lenOf own_pd18 rfl) rfl (Nat.le_of_eq rfl) (dB d38_3) (fun _ _ => ⟨rfl, e0, Nat.le_of_ble_eq_true rfl, Nat.le_of_ble_eq_true rfl⟩)
  dsimp only [Pt.U, Pt.locs, Pt.cells, Pt.slots] at X24 l24 y24 z24 st24 hQ24
  subst l24 y24 z24
  obtain ⟨rfl, Nq24, eq24⟩ := hQ24
  have N24 := Fr.app N0 Nq24
  have e24 : T24.heap = h0 := eq24
  have cc25 : oS p e below S0' T24 (mkF m 8 #[sR t, sI (Int32.ofNat i)] [(.int (Int32.ofNat i)), (.ref t)]) := Steps.trans (cc23.trans (st24 _ (Steps.refl _))) (by
    refine XS.aloadN X24.here hx rfl (dB d38_6) rfl rfl ?_
    refine XS.iloadN X24.here hx rfl (dB d38_7) rfl ?_
    exact Steps.refl _)
  obtain ⟨clu26, Aru26, qu26, Su26, Ngu26, Hsu26, Gsu26⟩ := id A
  have inu26 : ¬ (Int32.ofNat i < 0 ∨ clu26.slots.size ≤ (Int32.ofNat i).toNatClampNeg) := inb_of Su26 ⟨Int32.ofNat_not_neg (by omega), lt32 (by omega) hi⟩
  have atu26 : clu26.slots[(Int32.ofNat i).toNatClampNeg]? = some (.int (StrChars.lo8 (cs.getD i 0))) := Hsu26.at inu26 (by rw [n32 (by omega)]; simp [own_by, List.getD_eq_getElem?_getD, List.getElem?_eq_getElem hi, StrChars.lo8])
  have cc27 : oS p e below S0' T24 (mkF m 14 #[sR t, sI (Int32.ofNat i)] [(.int (((StrChars.lo8 (cs.getD i 0)) &&& (255 : Int32)).toUInt32.toUInt16.toUInt32.toInt32))]) := Steps.trans cc25 (by
    refine X24.baloadBytes hx (j := Int32.ofNat i) (v := (.int (StrChars.lo8 (cs.getD i 0)))) (by rw [e24]; exact Aru26.1) (State.isArrayOf_alike (hZ).alike Aru26.2.1) Aru26.2.2 inu26 atu26 (g := (mkF m 8 #[sR t, sI (Int32.ofNat i)] [(.int (Int32.ofNat i)), (.ref t)])) rfl rfl (dB d38_8) _ ?_
    refine sipushV X24.here hx rfl 255 (dB d38_9) (by decide) ?_
    refine XS.iand X24.here hx rfl (dB d38_12) rfl ?_
    refine XT.i2c X24.here hx rfl (dB d38_13) rfl ?_
    exact Steps.refl _)
  have cz28 : oS p e below S0' T24 (mkF m 14 #[sR t, sI (Int32.ofNat i)] [(.int (cs.getD i 0))]) := by
    have := cc27
    rw [StrChars.lo8_mask (hp _ hc).1 (hp _ hc).2, own_i2c_id (own_up _ hp _ hc)] at this
    exact this
  have cE := cz28
  rw [hS0'] at cE
  obtain ⟨fs, hr_, hrun, hended, hW, hsame⟩ := X24.leave (v := some (.int (cs.getD i 0))) (fun h => by rw [Bd.returns] at h; cases h)
  refine ⟨_, _, cE.trans (X24.ireturnOut hx Bd.returns (StrChars.narrow_ch (own_up _ hp _ hc).1 (own_up _ hp _ hc).2) (by simp) (dB d38_14) hr_), hrun, hended, _, _, rfl, ?_, ⟨_, rfl⟩, hW, hsame.mono (by first | decide | omega) (by first | decide | omega)⟩
  show Q_own_lch Z t kt cs i f h0 n0 _ T24.heap _
  rw [e24]
  exact ⟨rfl, N24, rfl⟩
theorem d39_0 : decode kM39 0 = .ok (.aload_n 0, 1) := by decide +kernel
theorem d39_1 : decode kM39 1 = .ok (.invokevirtual 492, 3) := by decide +kernel
theorem d39_4 : decode kM39 4 = .ok (.ifCond .eq 12, 3) := by decide +kernel
theorem d39_7 : decode kM39 7 = .ok (.aload_n 0, 1) := by decide +kernel
theorem d39_8 : decode kM39 8 = .ok (.getfield 9, 3) := by decide +kernel
theorem d39_11 : decode kM39 11 = .ok (.iload_n 1, 1) := by decide +kernel
theorem d39_12 : decode kM39 12 = .ok (.invokestatic 495, 3) := by decide +kernel
theorem d39_15 : decode kM39 15 = .ok (.ireturn, 1) := by decide +kernel
theorem d39_16 : decode kM39 16 = .ok (.aload_n 0, 1) := by decide +kernel
theorem d39_17 : decode kM39 17 = .ok (.getfield 9, 3) := by decide +kernel
theorem d39_20 : decode kM39 20 = .ok (.iload_n 1, 1) := by decide +kernel
theorem d39_21 : decode kM39 21 = .ok (.invokestatic 498, 3) := by decide +kernel
theorem d39_24 : decode kM39 24 = .ok (.ireturn, 1) := by decide +kernel
def Q_own_che (Z : State) (x : Addr) (cs : List Int32) (i : Nat) (z : Int32) (f : Value) (h0 : Heap) (n0 : Nat) (v : Option Value) (h : Heap) (L : List Loc) : Prop := v = some (.int (cs.getD i 0)) ∧ Fr n0 L ∧ h = h0
set_option maxRecDepth 65536 in
set_option maxHeartbeats 40000000 in
theorem own_che (l : Launch) (Z : State) (a0 : Array Value) (hw : ∀ d ∈ tables_1, d.before a0 Z = true) (x : Addr) (cs : List Int32) (i : Nat) (z : Int32) (f : Value) (h0 : Heap) (n0 : Nat) (Z0 : n0 ≤ h0.size) (X00 : Old Z n0 h0) (O2 : Sta Z Z.heap "java/lang/String" "COMPACT_STRINGS" "Z" (.int z)) (P5 : ¬ z = 0) (O3 : StrChars.Road.U3Z Z Z.heap) (O4 : Sta Z Z.heap "jdk/internal/util/Preconditions" "SIOOBE_FORMATTER" "Ljava/util/function/BiFunction;" f) (hf : f.isRef = true) (Hx : own_Str Z h0 x cs) (hi : i < cs.length) :
    MetFree l yM40 (head1 [Jvm.Cond.code yM40 jdk_42_method_56_code 2 (some .char)] rM35) (fun a_ U_ => a_ = #[(.ref x), (.int (Int32.ofNat i))] ∧ Z.Warmed39 U_.vm ∧ U_.heap = h0) (fun _ _ _ _ _ => True) (fun _ U_ o_ V_ => ∃ v_ L_, o_ = .returned v_ ∧ Q_own_che Z x cs i z f h0 n0 v_ V_.heap L_ ∧ FrameEnd U_ o_ V_ L_ rM35.cells rM35.slots) := by
  refine MetFree.of_bodySF (plainFor_of_name own_pn0) hisR ?_
  intro p e s m args below meth c s₁ Bd hml0 hP hK
  obtain ⟨rfl, hZ, hh⟩ := hP
  have hx := Bd.exec
  have hby := Bd.bytes
  have dB := @own_d c _ hby
  have hml : c.maxLocals = 2 := hml0
  have hown : s.vm.findClass "java/lang/String" = some m.cls := findClass_of_methodNamed Bd.named
  have hnm := (name_of_methodNamed Bd.named Bd.method).1
  have X0 : Stand p l e rM35 s m #[(.ref x), (.int (Int32.ofNat i))] below meth c s₁ [] 0 0 := Stand.of_body Bd
  have e0 : s₁.heap = h0 := by rw [← hh, Bd.state]; rfl
  have N0 := Fr.nil n0
  have KK0 := Keep.refl h0 ([] : List Addr)
  have cc0 : Steps p.tables e below (s₁.setTop (entryFrame m #[(.ref x), (.int (Int32.ofNat i))] 2)) (s₁.setTop (mkF m 0 #[sR x, sI (Int32.ofNat i)] [])) := XT.entry rfl
  obtain ⟨S0', hS0'⟩ : ∃ S, S = (s₁.setTop (entryFrame m #[(.ref x), (.int (Int32.ofNat i))] 2)) := ⟨_, rfl⟩
  rw [← hS0'] at cc0
  have w_7 := own_w hw 7 rfl
  have w_22 := own_w hw 22 rfl
  have w_33 := own_w hw 33 rfl
  have w_176 := own_w hw 176 rfl
  have w_177 := own_w hw 177 rfl
  have w_178 := own_w hw 178 rfl
  have w_179 := own_w hw 179 rfl
  have w_180 := own_w hw 180 rfl
  have w_183 := own_w hw 183 rfl
  have w_184 := own_w hw 184 rfl
  have w_242 := own_w hw 242 rfl
  have hc : cs.getD i 0 ∈ cs := by rw [List.getD_eq_getElem?_getD, List.getElem?_eq_getElem hi]; exact List.getElem_mem _
  rcases own_split Hx with Hx | Hx
  · skip
    obtain ⟨Ex, Cx, px, lx, tx, kx, Vx, Ax⟩ := Hx
    have cc21 : oS p e below S0' s₁ (mkF m 1 #[sR x, sI (Int32.ofNat i)] [(.ref x)]) := Steps.trans cc0 (by
      refine XS.aloadN X0.here hx rfl (dB d39_0) rfl rfl ?_
      exact Steps.refl _)
    obtain ⟨cq22, kq22, qa22, qb22, qc22⟩ := isOf hZ e0 Ex
    obtain ⟨_, _, ⟨T22, L22, k22, n22⟩, -, X22, ⟨Lc22, hQ22, l22, y22, z22⟩, st22⟩ := X0.virtualBack hx (y := yM34) (z := yM34) hown (mvT hZ w_176) (mvT hZ w_177) (notFace_of_selects (args := #[]) (mvT hZ w_179)) (mvT hZ w_179) (mvT hZ w_178) (by decide) (backOf (W := 0) (own_isL l Z a0 hw x 0 z h0 n0 Z0 X00 O2 P5 Cx (Or.inl rfl)) hZ w_180 w_7 (by decide) (by decide)) qa22 qc22 (g := (mkF m 1 #[sR x, sI (Int32.ofNat i)] [(.ref x)])) rfl (by rw [hml]; rfl) (Steps.refl _) (argsL := []) (rest := []) (lenOf own_pd9 rfl) rfl (Nat.le_of_eq rfl) (dB d39_1) (fun _ _ => ⟨rfl, e0, Nat.le_of_ble_eq_true rfl, Nat.le_of_ble_eq_true rfl⟩)
    dsimp only [Pt.U, Pt.locs, Pt.cells, Pt.slots] at X22 l22 y22 z22 st22 hQ22
    subst l22 y22 z22
    obtain ⟨rfl, Nq22, eq22⟩ := hQ22
    have N22 := Fr.app N0 Nq22
    have e22 : T22.heap = h0 := eq22
    have cc23 : oS p e below S0' T22 (mkF m 8 #[sR x, sI (Int32.ofNat i)] [(.ref x)]) := Steps.trans (Steps.trans cc21 st22) (by
      refine XS.ifNo X22.here hx rfl (dB d39_4) rfl (i0_eq_f (by decide)) ?_
      refine XS.aloadN X22.here hx rfl (dB d39_7) rfl rfl ?_
      exact Steps.refl _)
    obtain ⟨T24, X24, e24, st24⟩ := getF X22 hx hZ hown (host := "") (Or.inl w_33) Via.refl e22 Vx (g := (mkF m 8 #[sR x, sI (Int32.ofNat i)] [(.ref x)])) rfl rfl (dB d39_8)
    have cc25 : oS p e below S0' T24 (mkF m 12 #[sR x, sI (Int32.ofNat i)] [(.int (Int32.ofNat i)), (.ref tx)]) := Steps.trans (cc23.trans (st24 _ (Steps.refl _))) (by
      refine XS.iloadN X24.here hx rfl (dB d39_11) rfl ?_
      exact Steps.refl _)
    obtain ⟨_, _, ⟨T26, L26, k26, n26⟩, -, X26, ⟨Lc26, hQ26, l26, y26, z26⟩, st26⟩ := Jvm.LawKit.callS X24 hx (y := yM39) hown (mvT hZ (own_w hw 181 rfl)) (mvT hZ (own_w hw 182 rfl)) (mvT hZ w_183) (mvT hZ w_184) (by decide) (backOf (W := 0) (own_lch l Z a0 hw tx kx cs i f h0 n0 Z0 X00 Ax hi lx O4 hf px) hZ w_184 w_183 (by decide) (by decide)) (g := (mkF m 12 #[sR x, sI (Int32.ofNat i)] [(.int (Int32.ofNat i)), (.ref tx)])) rfl (by rw [hml]; rfl) (argsL := [(.ref tx), (.int (Int32.ofNat i))]) (rest := []) (lenOf own_pd26 rfl) rfl (Nat.le_of_eq rfl) (dB d39_12) (fun _ _ => ⟨rfl, e24, Nat.le_of_ble_eq_true rfl, Nat.le_of_ble_eq_true rfl⟩)
    dsimp only [Pt.U, Pt.locs, Pt.cells, Pt.slots] at X26 l26 y26 z26 st26 hQ26
    subst l26 y26 z26
    obtain ⟨rfl, Nq26, eq26⟩ := hQ26
    have N26 := Fr.app N22 Nq26
    have e26 : T26.heap = h0 := eq26
    have cc27 : oS p e below S0' T26 (mkF m 15 #[sR x, sI (Int32.ofNat i)] [(.int (cs.getD i 0))]) := (cc25.trans (st26 _ (Steps.refl _)))
    have cE := cc27
    rw [hS0'] at cE
    obtain ⟨fs, hr_, hrun, hended, hW, hsame⟩ := X26.leave (v := some (.int (cs.getD i 0))) (fun h => by rw [Bd.returns] at h; cases h)
    refine ⟨_, _, cE.trans (X26.ireturnOut hx Bd.returns (StrChars.narrow_ch (own_up _ px _ hc).1 (own_up _ px _ hc).2) (by simp) (dB d39_15) hr_), hrun, hended, _, _, rfl, ?_, ⟨_, rfl⟩, hW, hsame.mono (by first | decide | omega) (by first | decide | omega)⟩
    show Q_own_che Z x cs i z f h0 n0 _ T26.heap _
    rw [e26]
    exact ⟨rfl, N26, rfl⟩
  · skip
    obtain ⟨Ex, Cx, px, lx, wx, tx, kx, Vx, Ax⟩ := Hx
    have cc21 : oS p e below S0' s₁ (mkF m 1 #[sR x, sI (Int32.ofNat i)] [(.ref x)]) := Steps.trans cc0 (by
      refine XS.aloadN X0.here hx rfl (dB d39_0) rfl rfl ?_
      exact Steps.refl _)
    obtain ⟨cq22, kq22, qa22, qb22, qc22⟩ := isOf hZ e0 Ex
    obtain ⟨_, _, ⟨T22, L22, k22, n22⟩, -, X22, ⟨Lc22, hQ22, l22, y22, z22⟩, st22⟩ := X0.virtualBack hx (y := yM34) (z := yM34) hown (mvT hZ w_176) (mvT hZ w_177) (notFace_of_selects (args := #[]) (mvT hZ w_179)) (mvT hZ w_179) (mvT hZ w_178) (by decide) (backOf (W := 0) (own_isL l Z a0 hw x 1 z h0 n0 Z0 X00 O2 P5 Cx (Or.inr rfl)) hZ w_180 w_7 (by decide) (by decide)) qa22 qc22 (g := (mkF m 1 #[sR x, sI (Int32.ofNat i)] [(.ref x)])) rfl (by rw [hml]; rfl) (Steps.refl _) (argsL := []) (rest := []) (lenOf own_pd9 rfl) rfl (Nat.le_of_eq rfl) (dB d39_1) (fun _ _ => ⟨rfl, e0, Nat.le_of_ble_eq_true rfl, Nat.le_of_ble_eq_true rfl⟩)
    dsimp only [Pt.U, Pt.locs, Pt.cells, Pt.slots] at X22 l22 y22 z22 st22 hQ22
    subst l22 y22 z22
    obtain ⟨rfl, Nq22, eq22⟩ := hQ22
    have N22 := Fr.app N0 Nq22
    have e22 : T22.heap = h0 := eq22
    have cc23 : oS p e below S0' T22 (mkF m 17 #[sR x, sI (Int32.ofNat i)] [(.ref x)]) := Steps.trans (Steps.trans cc21 st22) (by
      refine XS.ifYes X22.here hx rfl (pc0 := 4) rfl (dB d39_4) rfl (i0_eq_t rfl) (by decide) rfl ?_
      refine XS.aloadN X22.here hx rfl (dB d39_16) rfl rfl ?_
      exact Steps.refl _)
    obtain ⟨T24, X24, e24, st24⟩ := getF X22 hx hZ hown (host := "") (Or.inl w_33) Via.refl e22 Vx (g := (mkF m 17 #[sR x, sI (Int32.ofNat i)] [(.ref x)])) rfl rfl (dB d39_17)
    have cc25 : oS p e below S0' T24 (mkF m 21 #[sR x, sI (Int32.ofNat i)] [(.int (Int32.ofNat i)), (.ref tx)]) := Steps.trans (cc23.trans (st24 _ (Steps.refl _))) (by
      refine XS.iloadN X24.here hx rfl (dB d39_20) rfl ?_
      exact Steps.refl _)
    obtain ⟨_, _, ⟨T26, L26, k26, n26⟩, -, X26, ⟨Lc26, hQ26, l26, y26, z26⟩, st26⟩ := Jvm.LawKit.callS X24 hx (y := yM38) hown (mvT hZ (own_w hw 240 rfl)) (mvT hZ (own_w hw 241 rfl)) (mvT hZ w_22) (mvT hZ w_242) (by decide) (backOf (W := 0) (own_uch l Z a0 hw tx kx cs i f h0 n0 Z0 X00 Ax hi lx O4 hf O3 px) hZ w_242 w_22 (by decide) (by decide)) (g := (mkF m 21 #[sR x, sI (Int32.ofNat i)] [(.int (Int32.ofNat i)), (.ref tx)])) rfl (by rw [hml]; rfl) (argsL := [(.ref tx), (.int (Int32.ofNat i))]) (rest := []) (lenOf own_pd26 rfl) rfl (Nat.le_of_eq rfl) (dB d39_21) (fun _ _ => ⟨rfl, e24, Nat.le_of_ble_eq_true rfl, Nat.le_of_ble_eq_true rfl⟩)
    dsimp only [Pt.U, Pt.locs, Pt.cells, Pt.slots] at X26 l26 y26 z26 st26 hQ26
    subst l26 y26 z26
    obtain ⟨rfl, Nq26, eq26⟩ := hQ26
    have N26 := Fr.app N22 Nq26
    have e26 : T26.heap = h0 := eq26
    have cc27 : oS p e below S0' T26 (mkF m 24 #[sR x, sI (Int32.ofNat i)] [(.int (cs.getD i 0))]) := (cc25.trans (st26 _ (Steps.refl _)))
    have cE := cc27
    rw [hS0'] at cE
    obtain ⟨fs, hr_, hrun, hended, hW, hsame⟩ := X26.leave (v := some (.int (cs.getD i 0))) (fun h => by rw [Bd.returns] at h; cases h)
    refine ⟨_, _, cE.trans (X26.ireturnOut hx Bd.returns (StrChars.narrow_ch (px _ hc).1 (px _ hc).2) (by simp) (dB d39_24) hr_), hrun, hended, _, _, rfl, ?_, ⟨_, rfl⟩, hW, hsame.mono (by first | decide | omega) (by first | decide | omega)⟩
    show Q_own_che Z x cs i z f h0 n0 _ T26.heap _
    rw [e26]
    exact ⟨rfl, N26, rfl⟩
theorem d40_0 : decode kM40 0 = .ok (.iload_n 0, 1) := by decide +kernel
theorem d40_1 : decode kM40 1 = .ok (.ifCond .ne 14, 3) := by decide +kernel
theorem d40_4 : decode kM40 4 = .ok (.new 7, 3) := by decide +kernel
theorem d40_7 : decode kM40 7 = .ok (.dup, 1) := by decide +kernel
theorem d40_8 : decode kM40 8 = .ok (.iconst 0, 1) := by decide +kernel
theorem d40_9 : decode kM40 9 = .ok (.newarray .char, 2) := by decide +kernel
theorem d40_11 : decode kM40 11 = .ok (.invokespecial 9, 3) := by decide +kernel
theorem d40_14 : decode kM40 14 = .ok (.areturn, 1) := by decide +kernel
theorem d40_15 : decode kM40 15 = .ok (.iload_n 0, 1) := by decide +kernel
theorem d40_16 : decode kM40 16 = .ok (.iconst 1, 1) := by decide +kernel
theorem d40_17 : decode kM40 17 = .ok (.if_icmp .ne 18, 3) := by decide +kernel
theorem d40_20 : decode kM40 20 = .ok (.new 7, 3) := by decide +kernel
theorem d40_23 : decode kM40 23 = .ok (.dup, 1) := by decide +kernel
theorem d40_24 : decode kM40 24 = .ok (.iconst 1, 1) := by decide +kernel
theorem d40_25 : decode kM40 25 = .ok (.newarray .char, 2) := by decide +kernel
theorem d40_27 : decode kM40 27 = .ok (.dup, 1) := by decide +kernel
theorem d40_28 : decode kM40 28 = .ok (.iconst 0, 1) := by decide +kernel
theorem d40_29 : decode kM40 29 = .ok (.iload_n 1, 1) := by decide +kernel
theorem d40_30 : decode kM40 30 = .ok (.castore, 1) := by decide +kernel
theorem d40_31 : decode kM40 31 = .ok (.invokespecial 9, 3) := by decide +kernel
theorem d40_34 : decode kM40 34 = .ok (.areturn, 1) := by decide +kernel
theorem d40_35 : decode kM40 35 = .ok (.new 7, 3) := by decide +kernel
theorem d40_38 : decode kM40 38 = .ok (.dup, 1) := by decide +kernel
theorem d40_39 : decode kM40 39 = .ok (.iconst 2, 1) := by decide +kernel
theorem d40_40 : decode kM40 40 = .ok (.newarray .char, 2) := by decide +kernel
theorem d40_42 : decode kM40 42 = .ok (.dup, 1) := by decide +kernel
theorem d40_43 : decode kM40 43 = .ok (.iconst 0, 1) := by decide +kernel
theorem d40_44 : decode kM40 44 = .ok (.iload_n 1, 1) := by decide +kernel
theorem d40_45 : decode kM40 45 = .ok (.castore, 1) := by decide +kernel
theorem d40_46 : decode kM40 46 = .ok (.dup, 1) := by decide +kernel
theorem d40_47 : decode kM40 47 = .ok (.iconst 1, 1) := by decide +kernel
theorem d40_48 : decode kM40 48 = .ok (.iload_n 2, 1) := by decide +kernel
theorem d40_49 : decode kM40 49 = .ok (.castore, 1) := by decide +kernel
theorem d40_50 : decode kM40 50 = .ok (.invokespecial 9, 3) := by decide +kernel
theorem d40_53 : decode kM40 53 = .ok (.areturn, 1) := by decide +kernel
def Q_own_mk (Z : State) (n c0 c1 z : Int32) (h0 : Heap) (n0 : Nat) (v : Option Value) (h : Heap) (L : List Loc) : Prop := ∃ (x : Addr) (cs : List Int32), v = some (.ref x) ∧ Fr n0 L ∧ Keep h0 h [] ∧ h0.size ≤ x ∧ own_Str Z h x cs ∧ (n = 0 ∧ cs = [] ∨ n = 1 ∧ cs = [c0] ∨ n = 2 ∧ cs = [c0, c1])
set_option maxRecDepth 65536 in
set_option maxHeartbeats 40000000 in
theorem own_mk (l : Launch) (Z : State) (a0 : Array Value) (hw : ∀ d ∈ tables_1, d.before a0 Z = true) (n c0 c1 z : Int32) (h0 : Heap) (n0 : Nat) (Z0 : n0 ≤ h0.size) (X00 : Old Z n0 h0) (O2 : Sta Z Z.heap "java/lang/String" "COMPACT_STRINGS" "Z" (.int z)) (P5 : ¬ z = 0) (O3 : StrChars.Road.U3Z Z Z.heap) (hn : n = 0 ∨ n = 1 ∨ n = 2) (g0 : ¬ c0 < 0 ∧ ¬ (65535 : Int32) < c0) (g1 : ¬ c1 < 0 ∧ ¬ (65535 : Int32) < c1) :
    MetFree l yM41 (head1 [Jvm.Cond.code yM41 method_2_code 3 (some (.object "java/lang/String"))] rM36) (fun a_ U_ => a_ = #[(.int n), (.int c0), (.int c1)] ∧ Z.Warmed39 U_.vm ∧ U_.heap = h0 ∧ CHv Z EL U_.vm h0) (fun _ _ _ _ _ => True) (fun _ U_ o_ V_ => ∃ v_ L_, o_ = .returned v_ ∧ Q_own_mk Z n c0 c1 z h0 n0 v_ V_.heap L_ ∧ CHr Z EL U_.vm U_.heap V_.vm V_.heap ∧ ReturnedEndW U_ o_ V_ L_ rM36.cells rM36.slots) := by
  refine MetFree.of_bodySF (plainFor_of_name own_pn7) hisR ?_
  intro p e s m args below meth c s₁ Bd hml0 hP hK
  obtain ⟨rfl, hZ, hh, hCH⟩ := hP
  have hx := Bd.exec
  have hby := Bd.bytes
  have dB := @own_d c _ hby
  have hml : c.maxLocals = 3 := hml0
  have hown : s.vm.findClass "com/example/chronoforge/chronoforge/design/PrecedenceToStringPinLaw" = some m.cls := findClass_of_methodNamed Bd.named
  have hnm := (name_of_methodNamed Bd.named Bd.method).1
  have X0 : Stand p l e rM36 (s.setVm s.vm) m #[(.int n), (.int c0), (.int c1)] below meth c s₁ [] 0 0 := Stand.of_body Bd
  have e0 : s₁.heap = h0 := by rw [← hh, Bd.state]; rfl
  have N0 := Fr.nil n0
  have KK0 := Keep.refl h0 ([] : List Addr)
  have C0 := CHr.refl hCH
  have hS0 : s.Since s.vm 0 := (State.WarmedH.refl s).since 0
  have hk0 : 0 ≤ h0.size := Nat.zero_le _
  have hEL : EW Z a0 EL := own_EW hw
  have cc0 : Steps p.tables e below (s₁.setTop (entryFrame m #[(.int n), (.int c0), (.int c1)] 3)) (s₁.setTop (mkF m 0 #[sI n, sI c0, sI c1] [])) := XT.entry rfl
  obtain ⟨S0', hS0'⟩ : ∃ S, S = (s₁.setTop (entryFrame m #[(.int n), (.int c0), (.int c1)] 3)) := ⟨_, rfl⟩
  rw [← hS0'] at cc0
  have w_5 := own_w hw 5 rfl
  have w_6 := own_w hw 6 rfl
  have w_7 := own_w hw 7 rfl
  have w_8 := own_w hw 8 rfl
  have w_9 := own_w hw 9 rfl
  have w_10 := own_w hw 10 rfl
  have w_11 := own_w hw 11 rfl
  have w_32 := own_w hw 32 rfl
  have w_34 := own_w hw 34 rfl
  have hw_words : ∀ d ∈ StrChars.Road.words, d.before a0 Z = true := fun d hd => hw d ((by decide +kernel : ∀ d ∈ StrChars.Road.words, d ∈ tables_1) d hd)
  have hw_wordsW : ∀ d ∈ StrChars.Road.wordsW, d.before a0 Z = true := fun d hd => hw d ((by decide +kernel : ∀ d ∈ StrChars.Road.wordsW, d ∈ tables_1) d hd)
  have cc21 : oS p e below S0' s₁ (mkF m 1 #[sI n, sI c0, sI c1] [(.int n)]) := Steps.trans cc0 (by
    refine XS.iloadN X0.here hx rfl (dB d40_0) rfl ?_
    exact Steps.refl _)
  rcases hn with rfl | rfl | rfl
  · skip
    have cz0 : oS p e below S0' s₁ (mkF m 1 #[sI 0, sI c0, sI c1] [(.int 0)]) := cc21
    have cc22 : oS p e below S0' s₁ (mkF m 4 #[sI 0, sI c0, sI c1] []) := Steps.trans cz0 (by
      refine XS.ifNo X0.here hx rfl (dB d40_1) rfl (i0_ne_f rfl) ?_
      exact Steps.refl _)
    obtain ⟨T23, h23, X23, e23, E23, A23, D23, -, st23⟩ := newO X0 hx hZ hown w_5 w_6 w_7 e0 (g := (mkF m 4 #[sI 0, sI c0, sI c1] [])) rfl (dB d40_4) (by decide) (by decide)
    obtain ⟨x, g_x⟩ : ∃ z, z = h0.size := ⟨_, rfl⟩
    rw [← g_x] at A23 D23 st23
    have K23 := (Keep.refl h0 ([] : List Addr)).ext E23
    have b_x : h0.size ≤ x := (Nat.le_of_eq g_x.symm)
    have gn_x : n0 ≤ x := Nat.le_trans Z0 b_x
    have s0_x : h0.size ≤ x := Nat.le_trans KK0.1 b_x
    have D24 := CHr.ext E23 C0.1
    have C25 := C0.trans D24
    have sf_x : Safe Z EL s.vm h23 x := Safe.ext E23 C0.1 (Safe.new b_x)
    have KK1 : Keep h0 h23 ([] : List Addr) := KK0.trans K23 all0
    have Zs1 : n0 ≤ h23.size := Nat.le_trans Z0 K23.1
    have F_value_x : Fld Z h23 x "java/lang/String" "value" "[B" .null := D23 (Or.inr w_34) (ty := (.array .byte)) (by decide)
    have F_coder_x : Fld Z h23 x "java/lang/String" "coder" "B" (.int (0 : Int32)) := D23 (Or.inr w_32) (ty := .byte) (by decide)
    have cc26 : oS p e below S0' T23 (mkF m 9 #[sI 0, sI c0, sI c1] [(.int 0), (.ref x), (.ref x)]) := Steps.trans (cc22.trans (st23 _ (Steps.refl _))) (by
      refine XS.dup X23.here hx rfl (dB d40_7) rfl rfl ?_
      refine iconstV X23.here hx rfl 0 (dB d40_8) (by decide) ?_
      exact Steps.refl _)
    obtain ⟨T27, h27, k27, X27, e27, E27, A27, st27⟩ := newP X23 hx hZ (aty := .char) w_8 e23 (g := (mkF m 9 #[sI 0, sI c0, sI c1] [(.int 0), (.ref x), (.ref x)])) rfl (dB d40_9) rfl (by decide) (cap := 0) (by decide) (by decide) (by decide) (by decide)
    obtain ⟨b, g_b⟩ : ∃ z, z = h23.size := ⟨_, rfl⟩
    rw [← g_b] at A27 st27
    have K27 := (Keep.refl h23 ([] : List Addr)).ext E27
    have b_b : h23.size ≤ b := (Nat.le_of_eq g_b.symm)
    have gn_b : n0 ≤ b := Nat.le_trans Zs1 b_b
    have s0_b : h0.size ≤ b := Nat.le_trans KK1.1 b_b
    have ne_x_b : x ≠ b := Nat.ne_of_lt (Nat.lt_of_lt_of_le A23.lt b_b)
    have D28 := CHr.ext E27 C25.1
    have C29 := C25.trans D28
    have sf_b : Safe Z EL s.vm h27 b := Safe.ext E27 C25.1 (Safe.new b_b)
    have KK2 : Keep h0 h27 ([] : List Addr) := KK1.trans K27 all0
    have Zs2 : n0 ≤ h27.size := Nat.le_trans Zs1 K27.1
    have V_b : Arv Z h27 b k27 .char (0 : Int32) [] (.int (0 : Int32)) := (Arv.new A27 (by decide)).pad (pad_rep [] (.int (0 : Int32)) 0)
    have cc31 : oS p e below S0' T27 (mkF m 11 #[sI 0, sI c0, sI c1] [(.ref b), (.ref x), (.ref x)]) := (cc26.trans (st27 _ (Steps.refl _)))
    have fa30 : Exa Z h27 x "java/lang/String" := (A23.keep K27)
    have fa32 : Fld Z h27 x "java/lang/String" "value" "[B" .null := (F_value_x.keep K27 nin0)
    have fa33 : Fld Z h27 x "java/lang/String" "coder" "B" (.int (0 : Int32)) := (F_coder_x.keep K27 nin0)
    have fa34 : Old Z n0 h27 := ((X00.keep K23 all0).keep K27 all0)
    have hp : ∀ c' ∈ ([] : List Int32), ¬ c' < 0 ∧ ¬ (65535 : Int32) < c' := by
      intro c' hc'
      cases hc'
    obtain ⟨_, _, ⟨T35, L35, k35, n35⟩, -, X35, hs35, gr35, ⟨Lc35, hQ35, l35, y35, z35, CH35⟩, st35⟩ := X27.specialBackS hx (y := yM1) rfl hown (mvT hZ w_9) (mvT hZ w_10) (mvT hZ w_11) (by decide) (backOfSH (W := 1) (own_new1e l Z a0 hw x b _ h27 n0 Zs2 fa30 fa32 fa33 gn_x V_b) hZ w_11 w_7 (by decide) (by decide) hEL C29.1) (g := (mkF m 11 #[sI 0, sI c0, sI c1] [(.ref b), (.ref x), (.ref x)])) rfl (by rw [hml]; rfl) (Steps.refl _) (a := x) (argsL := [(.ref b)]) (rest := [(.ref x)]) (lenOf own_pd27 rfl) rfl (Nat.le_of_eq rfl) (dB d40_11) (fun _ _ => ⟨rfl, e27, Nat.le_of_ble_eq_true rfl, Nat.le_of_ble_eq_true rfl⟩)
    dsimp only [Pt.U, Pt.locs, Pt.cells, Pt.slots] at X35 l35 y35 z35 st35 hQ35 hs35 gr35 CH35
    subst l35 y35 z35
    obtain ⟨rfl, Nq35, Kq35, Eq35, Cq35, t, kb, q135, q235, Vq35, Aq35⟩ := hQ35
    obtain ⟨Xr35, hS35, hZ35, hown35⟩ := rebS hS0 (by rw [e27]; exact (Nat.le_trans (Nat.le_trans hk0 K23.1) K27.1)) X35 hs35 gr35 hZ hown
    have hk35 : T35.heap.size ≤ T35.heap.size := Nat.le_refl _
    have C35 := C29.trans CH35
    have N35 := Fr.app N0 Nq35
    have KK3 : Keep h0 T35.heap ([] : List Addr) := KK2.trans Kq35 (allS (Or.inr s0_x) all0)
    have Zs3 : n0 ≤ T35.heap.size := Nat.le_trans Zs2 Kq35.1
    have e35 : T35.heap = T35.heap := rfl
    have Hx : own_Str Z T35.heap x [] := ⟨Eq35, hp, by simp, 0, 0, [], t, kb, Or.inl ⟨rfl, rfl, rfl, fun c hc => by cases hc⟩, Cq35, Vq35, Aq35⟩
    have cc36 : oS p e below S0' T35 (mkF m 14 #[sI 0, sI c0, sI c1] [(.ref x)]) := (Steps.trans cc31 st35)
    have cE := cc36
    rw [hS0'] at cE
    obtain ⟨fs, hr_, hrun, hended, hE⟩ := Xr35.leaveW hS35 (by rw [e35]; exact hk35) (v := some (.ref x)) (fun h => by rw [Bd.returns] at h; cases h)
    have CE := C35.trans (CHv.at Xr35 hZ35 hEL C35.1)
    refine ⟨_, _, cE.trans (Xr35.areturnOut hx (rfl) Bd.returns rfl (dB d40_14) hr_), hrun, hended, _, _, rfl, ?_, ?_, hE.1, hE.2.1, hE.2.2.1, hE.2.2.2.mono (by first | decide | omega) (by first | decide | omega)⟩
    · show Q_own_mk Z 0 c0 c1 z h0 n0 _ T35.heap _
      rw [e35]
      exact ⟨x, ([] : List Int32), rfl, N35, KK3, s0_x, Hx, Or.inl ⟨rfl, rfl⟩⟩
    · rw [hh]
      show CHr Z EL s.vm h0 T35.vm T35.heap
      rw [e35]
      exact CE
  · skip
    have cz0 : oS p e below S0' s₁ (mkF m 1 #[sI 1, sI c0, sI c1] [(.int 1)]) := cc21
    have cc22 : oS p e below S0' s₁ (mkF m 20 #[sI 1, sI c0, sI c1] []) := Steps.trans cz0 (by
      refine XS.ifYes X0.here hx rfl (pc0 := 1) rfl (dB d40_1) rfl (i0_ne_t (by decide)) (by decide) rfl ?_
      refine XS.iloadN X0.here hx rfl (dB d40_15) rfl ?_
      refine iconstV X0.here hx rfl 1 (dB d40_16) (by decide) ?_
      refine XS.icmpNo X0.here hx rfl (dB d40_17) rfl (ii_ne_f (by decide)) ?_
      exact Steps.refl _)
    obtain ⟨T23, h23, X23, e23, E23, A23, D23, -, st23⟩ := newO X0 hx hZ hown w_5 w_6 w_7 e0 (g := (mkF m 20 #[sI 1, sI c0, sI c1] [])) rfl (dB d40_20) (by decide) (by decide)
    obtain ⟨x, g_x⟩ : ∃ z, z = h0.size := ⟨_, rfl⟩
    rw [← g_x] at A23 D23 st23
    have K23 := (Keep.refl h0 ([] : List Addr)).ext E23
    have b_x : h0.size ≤ x := (Nat.le_of_eq g_x.symm)
    have gn_x : n0 ≤ x := Nat.le_trans Z0 b_x
    have s0_x : h0.size ≤ x := Nat.le_trans KK0.1 b_x
    have D24 := CHr.ext E23 C0.1
    have C25 := C0.trans D24
    have sf_x : Safe Z EL s.vm h23 x := Safe.ext E23 C0.1 (Safe.new b_x)
    have KK1 : Keep h0 h23 ([] : List Addr) := KK0.trans K23 all0
    have Zs1 : n0 ≤ h23.size := Nat.le_trans Z0 K23.1
    have F_value_x : Fld Z h23 x "java/lang/String" "value" "[B" .null := D23 (Or.inr w_34) (ty := (.array .byte)) (by decide)
    have F_coder_x : Fld Z h23 x "java/lang/String" "coder" "B" (.int (0 : Int32)) := D23 (Or.inr w_32) (ty := .byte) (by decide)
    have cc26 : oS p e below S0' T23 (mkF m 25 #[sI 1, sI c0, sI c1] [(.int 1), (.ref x), (.ref x)]) := Steps.trans (cc22.trans (st23 _ (Steps.refl _))) (by
      refine XS.dup X23.here hx rfl (dB d40_23) rfl rfl ?_
      refine iconstV X23.here hx rfl 1 (dB d40_24) (by decide) ?_
      exact Steps.refl _)
    obtain ⟨T27, h27, k27, X27, e27, E27, A27, st27⟩ := newP X23 hx hZ (aty := .char) w_8 e23 (g := (mkF m 25 #[sI 1, sI c0, sI c1] [(.int 1), (.ref x), (.ref x)])) rfl (dB d40_25) rfl (by decide) (cap := 1) (by decide) (by decide) (by decide) (by decide)
    obtain ⟨b, g_b⟩ : ∃ z, z = h23.size := ⟨_, rfl⟩
    rw [← g_b] at A27 st27
    have K27 := (Keep.refl h23 ([] : List Addr)).ext E27
    have b_b : h23.size ≤ b := (Nat.le_of_eq g_b.symm)
    have gn_b : n0 ≤ b := Nat.le_trans Zs1 b_b
    have s0_b : h0.size ≤ b := Nat.le_trans KK1.1 b_b
    have ne_x_b : x ≠ b := Nat.ne_of_lt (Nat.lt_of_lt_of_le A23.lt b_b)
    have D28 := CHr.ext E27 C25.1
    have C29 := C25.trans D28
    have sf_b : Safe Z EL s.vm h27 b := Safe.ext E27 C25.1 (Safe.new b_b)
    have KK2 : Keep h0 h27 ([] : List Addr) := KK1.trans K27 all0
    have Zs2 : n0 ≤ h27.size := Nat.le_trans Zs1 K27.1
    have V_b : Arv Z h27 b k27 .char (1 : Int32) [(.int (0 : Int32))] (.int (0 : Int32)) := (Arv.new A27 (by decide)).pad (pad_rep [] (.int (0 : Int32)) 1)
    have cc30 : oS p e below S0' T27 (mkF m 30 #[sI 1, sI c0, sI c1] [(.int c0), (.int 0), (.ref b), (.ref b), (.ref x), (.ref x)]) := Steps.trans (cc26.trans (st27 _ (Steps.refl _))) (by
      refine XS.dup X27.here hx rfl (dB d40_27) rfl rfl ?_
      refine iconstV X27.here hx rfl 0 (dB d40_28) (by decide) ?_
      refine XS.iloadN X27.here hx rfl (dB d40_29) rfl ?_
      exact Steps.refl _)
    obtain ⟨clu31, Aru31, qu31, Su31, Ngu31, Hsu31, Gsu31⟩ := id V_b
    have inu31 : ¬ ((0 : Int32) < 0 ∨ clu31.slots.size ≤ (0 : Int32).toNatClampNeg) := inb_of Su31 ⟨by decide, by decide⟩
    obtain ⟨T32, h32, X32, e32, W32, st32⟩ := stC X27 hx hZ e27 Aru31 (j := (0 : Int32)) inu31 (g := (mkF m 30 #[sI 1, sI c0, sI c1] [(.int c0), (.int 0), (.ref b), (.ref b), (.ref x), (.ref x)])) rfl rfl (dB d40_30)
    have K32 := Keep.of_wr W32
    have N32 := Fr.snoc X32 N0 gn_b
    have D33 := CHr.wr W32 sf_b C29.1
    have C34 := C29.trans D33
    have KK3 : Keep h0 h32 ([] : List Addr) := KK2.trans K32 (allS (Or.inr s0_b) all0)
    have Zs3 : n0 ≤ h32.size := Nat.le_trans Zs2 K32.1
    have V32 : Arv Z h32 b k27 .char (1 : Int32) ([(.int (nar .char c0))]) (.int (0 : Int32)) := Arv.set Aru31 qu31 Su31 Ngu31 Hsu31 Gsu31 (fits_nar_char _) W32 0 rfl (Nat.le_of_ble_eq_true rfl)
    have cc36 : oS p e below S0' T32 (mkF m 31 #[sI 1, sI c0, sI c1] [(.ref b), (.ref x), (.ref x)]) := (cc30.trans (st32 _ (Steps.refl _)))
    have fa35 : Exa Z h32 x "java/lang/String" := ((A23.keep K27).keep K32)
    have fa37 : Fld Z h32 x "java/lang/String" "value" "[B" .null := ((F_value_x.keep K27 nin0).keep K32 (ninS ne_x_b nin0))
    have fa38 : Fld Z h32 x "java/lang/String" "coder" "B" (.int (0 : Int32)) := ((F_coder_x.keep K27 nin0).keep K32 (ninS ne_x_b nin0))
    have fa39 : Old Z n0 h32 := (((X00.keep K23 all0).keep K27 all0).keep K32 (allS gn_b all0))
    have hp : ∀ c' ∈ ([c0] : List Int32), ¬ c' < 0 ∧ ¬ (65535 : Int32) < c' := by
      intro c' hc'
      simp only [List.mem_cons, List.not_mem_nil, or_false] at hc'
      rcases hc' with rfl <;> assumption
    obtain ⟨_, _, ⟨T40, L40, k40, n40⟩, -, X40, ⟨Lc40, hQ40, l40, y40, z40⟩, st40⟩ := X32.specialBack hx (y := yM1) rfl hown (mvT hZ w_9) (mvT hZ w_10) (mvT hZ w_11) (by decide) (StrChars.Road.backT (W := 1) hZ hw_words hw_wordsW (kI := 4) w_6 (cs := ([c0] : List Int32)) (n := 1) gn_x Zs3 fa35 fa37 fa38 (own_arv_eq V32 (by simp only [own_narc g0, own_narc g1]; rfl) : Arv Z h32 b _ .char (1 : Int32) ((([c0] : List Int32)).map Value.int) (.int (0 : Int32))) (O2.ext fa39.2) P5 (O3.ext fa39.2) rfl rfl (by decide) (by decide) (fun c hc => (hp c hc).1) (by decide) (by decide)) (g := (mkF m 31 #[sI 1, sI c0, sI c1] [(.ref b), (.ref x), (.ref x)])) rfl (by rw [hml]; rfl) (Steps.refl _) (a := x) (argsL := [(.ref b)]) (rest := [(.ref x)]) (lenOf own_pd27 rfl) rfl (Nat.le_of_eq rfl) (dB d40_31) (fun _ _ => ⟨rfl, e32, Nat.le_of_ble_eq_true rfl, Nat.le_of_ble_eq_true rfl⟩)
    dsimp only [Pt.U, Pt.locs, Pt.cells, Pt.slots] at X40 l40 y40 z40 st40 hQ40
    subst l40 y40 z40
    obtain ⟨rfl, Nq40, Kq40, Eq40, cd, N2, vs, t, kb, hcd, Cq40, g140, g240, g340, Vq40, Aq40⟩ := hQ40
    have N40 := Fr.app N32 Nq40
    have sf41 := D28.safe A23.lt sf_x
    have lt42 := Nat.lt_of_lt_of_le A23.lt K27.1
    have sf43 := D33.safe lt42 sf41
    have lt44 := Nat.lt_of_lt_of_le lt42 K32.1
    have D45 := CHr.keep Kq40 (sfS sf43 sf0) C34.1
    have C46 := C34.trans D45
    have KK4 : Keep h0 T40.heap ([] : List Addr) := KK3.trans Kq40 (allS (Or.inr s0_x) all0)
    have Zs4 : n0 ≤ T40.heap.size := Nat.le_trans Zs3 Kq40.1
    have e40 : T40.heap = T40.heap := rfl
    have Hx : own_Str Z T40.heap x ([c0] : List Int32) := ⟨Eq40, hp, by simp, cd, N2, vs, t, kb, hcd, Cq40, Vq40, Aq40⟩
    have cc47 : oS p e below S0' T40 (mkF m 34 #[sI 1, sI c0, sI c1] [(.ref x)]) := (Steps.trans cc36 st40)
    have cE := cc47
    rw [hS0'] at cE
    obtain ⟨fs, hr_, hrun, hended, hE⟩ := X40.leaveW hS0 (by rw [e40]; exact (Nat.le_trans (Nat.le_trans (Nat.le_trans (Nat.le_trans hk0 K23.1) K27.1) K32.1) Kq40.1)) (v := some (.ref x)) (fun h => by rw [Bd.returns] at h; cases h)
    have CE := C46.trans (CHv.at X40 hZ hEL C46.1)
    refine ⟨_, _, cE.trans (X40.areturnOut hx (rfl) Bd.returns rfl (dB d40_34) hr_), hrun, hended, _, _, rfl, ?_, ?_, hE.1, hE.2.1, hE.2.2.1, hE.2.2.2.mono (by first | decide | omega) (by first | decide | omega)⟩
    · show Q_own_mk Z 1 c0 c1 z h0 n0 _ T40.heap _
      rw [e40]
      exact ⟨x, ([c0] : List Int32), rfl, N40, KK4, s0_x, Hx, Or.inr (Or.inl ⟨rfl, rfl⟩)⟩
    · rw [hh]
      show CHr Z EL s.vm h0 T40.vm T40.heap
      rw [e40]
      exact CE
  · skip
    have cz0 : oS p e below S0' s₁ (mkF m 1 #[sI 2, sI c0, sI c1] [(.int 2)]) := cc21
    have cc22 : oS p e below S0' s₁ (mkF m 35 #[sI 2, sI c0, sI c1] []) := Steps.trans cz0 (by
      refine XS.ifYes X0.here hx rfl (pc0 := 1) rfl (dB d40_1) rfl (i0_ne_t (by decide)) (by decide) rfl ?_
      refine XS.iloadN X0.here hx rfl (dB d40_15) rfl ?_
      refine iconstV X0.here hx rfl 1 (dB d40_16) (by decide) ?_
      refine XS.icmpYes X0.here hx rfl (pc0 := 17) rfl (dB d40_17) rfl (ii_ne_t (by decide)) (by decide) rfl ?_
      exact Steps.refl _)
    obtain ⟨T23, h23, X23, e23, E23, A23, D23, -, st23⟩ := newO X0 hx hZ hown w_5 w_6 w_7 e0 (g := (mkF m 35 #[sI 2, sI c0, sI c1] [])) rfl (dB d40_35) (by decide) (by decide)
    obtain ⟨x, g_x⟩ : ∃ z, z = h0.size := ⟨_, rfl⟩
    rw [← g_x] at A23 D23 st23
    have K23 := (Keep.refl h0 ([] : List Addr)).ext E23
    have b_x : h0.size ≤ x := (Nat.le_of_eq g_x.symm)
    have gn_x : n0 ≤ x := Nat.le_trans Z0 b_x
    have s0_x : h0.size ≤ x := Nat.le_trans KK0.1 b_x
    have D24 := CHr.ext E23 C0.1
    have C25 := C0.trans D24
    have sf_x : Safe Z EL s.vm h23 x := Safe.ext E23 C0.1 (Safe.new b_x)
    have KK1 : Keep h0 h23 ([] : List Addr) := KK0.trans K23 all0
    have Zs1 : n0 ≤ h23.size := Nat.le_trans Z0 K23.1
    have F_value_x : Fld Z h23 x "java/lang/String" "value" "[B" .null := D23 (Or.inr w_34) (ty := (.array .byte)) (by decide)
    have F_coder_x : Fld Z h23 x "java/lang/String" "coder" "B" (.int (0 : Int32)) := D23 (Or.inr w_32) (ty := .byte) (by decide)
    have cc26 : oS p e below S0' T23 (mkF m 40 #[sI 2, sI c0, sI c1] [(.int 2), (.ref x), (.ref x)]) := Steps.trans (cc22.trans (st23 _ (Steps.refl _))) (by
      refine XS.dup X23.here hx rfl (dB d40_38) rfl rfl ?_
      refine iconstV X23.here hx rfl 2 (dB d40_39) (by decide) ?_
      exact Steps.refl _)
    obtain ⟨T27, h27, k27, X27, e27, E27, A27, st27⟩ := newP X23 hx hZ (aty := .char) w_8 e23 (g := (mkF m 40 #[sI 2, sI c0, sI c1] [(.int 2), (.ref x), (.ref x)])) rfl (dB d40_40) rfl (by decide) (cap := 2) (by decide) (by decide) (by decide) (by decide)
    obtain ⟨b, g_b⟩ : ∃ z, z = h23.size := ⟨_, rfl⟩
    rw [← g_b] at A27 st27
    have K27 := (Keep.refl h23 ([] : List Addr)).ext E27
    have b_b : h23.size ≤ b := (Nat.le_of_eq g_b.symm)
    have gn_b : n0 ≤ b := Nat.le_trans Zs1 b_b
    have s0_b : h0.size ≤ b := Nat.le_trans KK1.1 b_b
    have ne_x_b : x ≠ b := Nat.ne_of_lt (Nat.lt_of_lt_of_le A23.lt b_b)
    have D28 := CHr.ext E27 C25.1
    have C29 := C25.trans D28
    have sf_b : Safe Z EL s.vm h27 b := Safe.ext E27 C25.1 (Safe.new b_b)
    have KK2 : Keep h0 h27 ([] : List Addr) := KK1.trans K27 all0
    have Zs2 : n0 ≤ h27.size := Nat.le_trans Zs1 K27.1
    have V_b : Arv Z h27 b k27 .char (2 : Int32) [(.int (0 : Int32)), (.int (0 : Int32))] (.int (0 : Int32)) := (Arv.new A27 (by decide)).pad (pad_rep [] (.int (0 : Int32)) 2)
    have cc30 : oS p e below S0' T27 (mkF m 45 #[sI 2, sI c0, sI c1] [(.int c0), (.int 0), (.ref b), (.ref b), (.ref x), (.ref x)]) := Steps.trans (cc26.trans (st27 _ (Steps.refl _))) (by
      refine XS.dup X27.here hx rfl (dB d40_42) rfl rfl ?_
      refine iconstV X27.here hx rfl 0 (dB d40_43) (by decide) ?_
      refine XS.iloadN X27.here hx rfl (dB d40_44) rfl ?_
      exact Steps.refl _)
    obtain ⟨clu31, Aru31, qu31, Su31, Ngu31, Hsu31, Gsu31⟩ := id V_b
    have inu31 : ¬ ((0 : Int32) < 0 ∨ clu31.slots.size ≤ (0 : Int32).toNatClampNeg) := inb_of Su31 ⟨by decide, by decide⟩
    obtain ⟨T32, h32, X32, e32, W32, st32⟩ := stC X27 hx hZ e27 Aru31 (j := (0 : Int32)) inu31 (g := (mkF m 45 #[sI 2, sI c0, sI c1] [(.int c0), (.int 0), (.ref b), (.ref b), (.ref x), (.ref x)])) rfl rfl (dB d40_45)
    have K32 := Keep.of_wr W32
    have N32 := Fr.snoc X32 N0 gn_b
    have D33 := CHr.wr W32 sf_b C29.1
    have C34 := C29.trans D33
    have KK3 : Keep h0 h32 ([] : List Addr) := KK2.trans K32 (allS (Or.inr s0_b) all0)
    have Zs3 : n0 ≤ h32.size := Nat.le_trans Zs2 K32.1
    have V32 : Arv Z h32 b k27 .char (2 : Int32) ([(.int (nar .char c0)), (.int (0 : Int32))]) (.int (0 : Int32)) := Arv.set Aru31 qu31 Su31 Ngu31 Hsu31 Gsu31 (fits_nar_char _) W32 0 rfl (Nat.le_of_ble_eq_true rfl)
    have sf35 := D33.safe A27.lt sf_b
    have lt36 := Nat.lt_of_lt_of_le A27.lt K32.1
    have cc37 : oS p e below S0' T32 (mkF m 49 #[sI 2, sI c0, sI c1] [(.int c1), (.int 1), (.ref b), (.ref b), (.ref x), (.ref x)]) := Steps.trans (cc30.trans (st32 _ (Steps.refl _))) (by
      refine XS.dup X32.here hx rfl (dB d40_46) rfl rfl ?_
      refine iconstV X32.here hx rfl 1 (dB d40_47) (by decide) ?_
      refine XS.iloadN X32.here hx rfl (dB d40_48) rfl ?_
      exact Steps.refl _)
    obtain ⟨clu38, Aru38, qu38, Su38, Ngu38, Hsu38, Gsu38⟩ := id V32
    have inu38 : ¬ ((1 : Int32) < 0 ∨ clu38.slots.size ≤ (1 : Int32).toNatClampNeg) := inb_of Su38 ⟨by decide, by decide⟩
    obtain ⟨T39, h39, X39, e39, W39, st39⟩ := stC X32 hx hZ e32 Aru38 (j := (1 : Int32)) inu38 (g := (mkF m 49 #[sI 2, sI c0, sI c1] [(.int c1), (.int 1), (.ref b), (.ref b), (.ref x), (.ref x)])) rfl rfl (dB d40_49)
    have K39 := Keep.of_wr W39
    have N39 := Fr.snoc X39 N32 gn_b
    have D40 := CHr.wr W39 sf35 C34.1
    have C41 := C34.trans D40
    have KK4 : Keep h0 h39 ([] : List Addr) := KK3.trans K39 (allS (Or.inr s0_b) all0)
    have Zs4 : n0 ≤ h39.size := Nat.le_trans Zs3 K39.1
    have V39 : Arv Z h39 b k27 .char (2 : Int32) ([(.int (nar .char c0)), (.int (nar .char c1))]) (.int (0 : Int32)) := Arv.set Aru38 qu38 Su38 Ngu38 Hsu38 Gsu38 (fits_nar_char _) W39 1 rfl (Nat.le_of_ble_eq_true rfl)
    have cc43 : oS p e below S0' T39 (mkF m 50 #[sI 2, sI c0, sI c1] [(.ref b), (.ref x), (.ref x)]) := (cc37.trans (st39 _ (Steps.refl _)))
    have fa42 : Exa Z h39 x "java/lang/String" := (((A23.keep K27).keep K32).keep K39)
    have fa44 : Fld Z h39 x "java/lang/String" "value" "[B" .null := (((F_value_x.keep K27 nin0).keep K32 (ninS ne_x_b nin0)).keep K39 (ninS ne_x_b nin0))
    have fa45 : Fld Z h39 x "java/lang/String" "coder" "B" (.int (0 : Int32)) := (((F_coder_x.keep K27 nin0).keep K32 (ninS ne_x_b nin0)).keep K39 (ninS ne_x_b nin0))
    have fa46 : Old Z n0 h39 := ((((X00.keep K23 all0).keep K27 all0).keep K32 (allS gn_b all0)).keep K39 (allS gn_b all0))
    have hp : ∀ c' ∈ ([c0, c1] : List Int32), ¬ c' < 0 ∧ ¬ (65535 : Int32) < c' := by
      intro c' hc'
      simp only [List.mem_cons, List.not_mem_nil, or_false] at hc'
      rcases hc' with rfl | rfl <;> assumption
    obtain ⟨_, _, ⟨T47, L47, k47, n47⟩, -, X47, ⟨Lc47, hQ47, l47, y47, z47⟩, st47⟩ := X39.specialBack hx (y := yM1) rfl hown (mvT hZ w_9) (mvT hZ w_10) (mvT hZ w_11) (by decide) (StrChars.Road.backT (W := 1) hZ hw_words hw_wordsW (kI := 4) w_6 (cs := ([c0, c1] : List Int32)) (n := 2) gn_x Zs4 fa42 fa44 fa45 (own_arv_eq V39 (by simp only [own_narc g0, own_narc g1]; rfl) : Arv Z h39 b _ .char (2 : Int32) ((([c0, c1] : List Int32)).map Value.int) (.int (0 : Int32))) (O2.ext fa46.2) P5 (O3.ext fa46.2) rfl rfl (by decide) (by decide) (fun c hc => (hp c hc).1) (by decide) (by decide)) (g := (mkF m 50 #[sI 2, sI c0, sI c1] [(.ref b), (.ref x), (.ref x)])) rfl (by rw [hml]; rfl) (Steps.refl _) (a := x) (argsL := [(.ref b)]) (rest := [(.ref x)]) (lenOf own_pd27 rfl) rfl (Nat.le_of_eq rfl) (dB d40_50) (fun _ _ => ⟨rfl, e39, Nat.le_of_ble_eq_true rfl, Nat.le_of_ble_eq_true rfl⟩)
    dsimp only [Pt.U, Pt.locs, Pt.cells, Pt.slots] at X47 l47 y47 z47 st47 hQ47
    subst l47 y47 z47
    obtain ⟨rfl, Nq47, Kq47, Eq47, cd, N2, vs, t, kb, hcd, Cq47, g147, g247, g347, Vq47, Aq47⟩ := hQ47
    have N47 := Fr.app N39 Nq47
    have sf48 := D28.safe A23.lt sf_x
    have lt49 := Nat.lt_of_lt_of_le A23.lt K27.1
    have sf50 := D33.safe lt49 sf48
    have lt51 := Nat.lt_of_lt_of_le lt49 K32.1
    have sf52 := D40.safe lt51 sf50
    have lt53 := Nat.lt_of_lt_of_le lt51 K39.1
    have D54 := CHr.keep Kq47 (sfS sf52 sf0) C41.1
    have C55 := C41.trans D54
    have KK5 : Keep h0 T47.heap ([] : List Addr) := KK4.trans Kq47 (allS (Or.inr s0_x) all0)
    have Zs5 : n0 ≤ T47.heap.size := Nat.le_trans Zs4 Kq47.1
    have e47 : T47.heap = T47.heap := rfl
    have Hx : own_Str Z T47.heap x ([c0, c1] : List Int32) := ⟨Eq47, hp, by simp, cd, N2, vs, t, kb, hcd, Cq47, Vq47, Aq47⟩
    have cc56 : oS p e below S0' T47 (mkF m 53 #[sI 2, sI c0, sI c1] [(.ref x)]) := (Steps.trans cc43 st47)
    have cE := cc56
    rw [hS0'] at cE
    obtain ⟨fs, hr_, hrun, hended, hE⟩ := X47.leaveW hS0 (by rw [e47]; exact (Nat.le_trans (Nat.le_trans (Nat.le_trans (Nat.le_trans (Nat.le_trans hk0 K23.1) K27.1) K32.1) K39.1) Kq47.1)) (v := some (.ref x)) (fun h => by rw [Bd.returns] at h; cases h)
    have CE := C55.trans (CHv.at X47 hZ hEL C55.1)
    refine ⟨_, _, cE.trans (X47.areturnOut hx (rfl) Bd.returns rfl (dB d40_53) hr_), hrun, hended, _, _, rfl, ?_, ?_, hE.1, hE.2.1, hE.2.2.1, hE.2.2.2.mono (by first | decide | omega) (by first | decide | omega)⟩
    · show Q_own_mk Z 2 c0 c1 z h0 n0 _ T47.heap _
      rw [e47]
      exact ⟨x, ([c0, c1] : List Int32), rfl, N47, KK5, s0_x, Hx, Or.inr (Or.inr ⟨rfl, rfl⟩)⟩
    · rw [hh]
      show CHr Z EL s.vm h0 T47.vm T47.heap
      rw [e47]
      exact CE
theorem d41_0 : decode kM41 0 = .ok (.aload_n 0, 1) := by decide +kernel
theorem d41_1 : decode kM41 1 = .ok (.invokespecial 1, 3) := by decide +kernel
theorem d41_4 : decode kM41 4 = .ok (.return_, 1) := by decide +kernel
def Q_own_rec (Z : State) (a : Addr) (h0 : Heap) (n0 : Nat) (v : Option Value) (h : Heap) (L : List Loc) : Prop := v = none ∧ Fr n0 L ∧ h = h0
set_option maxRecDepth 65536 in
set_option maxHeartbeats 40000000 in
theorem own_rec (l : Launch) (Z : State) (a0 : Array Value) (hw : ∀ d ∈ tables_1, d.before a0 Z = true) (a : Addr) (h0 : Heap) (n0 : Nat) (Z0 : n0 ≤ h0.size)  :
    MetFree l yM42 (head1 [Jvm.Cond.code yM42 jdk_30_method_1_code 1 none] rM22) (fun a_ U_ => a_ = #[(.ref a)] ∧ Z.Warmed39 U_.vm ∧ U_.heap = h0) (fun _ _ _ _ _ => True) (fun _ U_ o_ V_ => ∃ v_ L_, o_ = .returned v_ ∧ Q_own_rec Z a h0 n0 v_ V_.heap L_ ∧ FrameEnd U_ o_ V_ L_ rM22.cells rM22.slots) := by
  refine MetFree.of_bodySF (plainFor_of_name own_pn8) hisR ?_
  intro p e s m args below meth c s₁ Bd hml0 hP hK
  obtain ⟨rfl, hZ, hh⟩ := hP
  have hx := Bd.exec
  have hby := Bd.bytes
  have dB := @own_d c _ hby
  have hml : c.maxLocals = 1 := hml0
  have hown : s.vm.findClass "java/lang/Record" = some m.cls := findClass_of_methodNamed Bd.named
  have hnm := (name_of_methodNamed Bd.named Bd.method).1
  have X0 : Stand p l e rM22 s m #[(.ref a)] below meth c s₁ [] 0 0 := Stand.of_body Bd
  have e0 : s₁.heap = h0 := by rw [← hh, Bd.state]; rfl
  have N0 := Fr.nil n0
  have KK0 := Keep.refl h0 ([] : List Addr)
  have cc0 : Steps p.tables e below (s₁.setTop (entryFrame m #[(.ref a)] 1)) (s₁.setTop (mkF m 0 #[sR a] [])) := XT.entry rfl
  obtain ⟨S0', hS0'⟩ : ∃ S, S = (s₁.setTop (entryFrame m #[(.ref a)] 1)) := ⟨_, rfl⟩
  rw [← hS0'] at cc0
  have cc21 : oS p e below S0' s₁ (mkF m 1 #[sR a] [(.ref a)]) := Steps.trans cc0 (by
    refine XS.aloadN X0.here hx rfl (dB d41_0) rfl rfl ?_
    exact Steps.refl _)
  obtain ⟨T22, X22, e22, st22⟩ := initO X0 hx hZ hown (own_w hw 49 rfl) (own_w hw 17 rfl) (own_w hw 18 rfl) e0 (g := (mkF m 1 #[sR a] [(.ref a)])) rfl (by rw [hml]; rfl) rfl (dB d41_1) (by decide) (W := 0) (by show 2 * 0 + _ ≤ _; exact Nat.le_of_eq rfl) (by decide)
  have cc23 : oS p e below S0' T22 (mkF m 4 #[sR a] []) := (cc21.trans (st22 _ (Steps.refl _)))
  have cE := cc23
  rw [hS0'] at cE
  obtain ⟨fs, hr_, hrun, hended, hW, hsame⟩ := X22.leave (v := none) (fun _ => rfl)
  refine ⟨_, _, cE.trans (X22.returnOut hx Bd.returns (dB d41_4) hr_), hrun, hended, _, _, rfl, ?_, ⟨_, rfl⟩, hW, hsame.mono (by first | decide | omega) (by first | decide | omega)⟩
  show Q_own_rec Z a h0 n0 _ T22.heap _
  rw [e22]
  exact ⟨rfl, N0, rfl⟩
theorem d42_0 : decode kM42 0 = .ok (.aload_n 0, 1) := by decide +kernel
theorem d42_1 : decode kM42 1 = .ok (.invokespecial 1, 3) := by decide +kernel
theorem d42_4 : decode kM42 4 = .ok (.aload_n 0, 1) := by decide +kernel
theorem d42_5 : decode kM42 5 = .ok (.aload_n 1, 1) := by decide +kernel
theorem d42_6 : decode kM42 6 = .ok (.putfield 7, 3) := by decide +kernel
theorem d42_9 : decode kM42 9 = .ok (.aload_n 0, 1) := by decide +kernel
theorem d42_10 : decode kM42 10 = .ok (.aload_n 2, 1) := by decide +kernel
theorem d42_11 : decode kM42 11 = .ok (.putfield 13, 3) := by decide +kernel
theorem d42_14 : decode kM42 14 = .ok (.return_, 1) := by decide +kernel
def Q_own_pin (Z : State) (g x y : Addr) (h0 : Heap) (n0 : Nat) (v : Option Value) (h : Heap) (L : List Loc) : Prop := v = none ∧ Fr n0 L ∧ Keep h0 h [g] ∧ Fld Z h g "com/example/chronoforge/chronoforge/design/Precedence" "from" "Ljava/lang/String;" (.ref x) ∧ Fld Z h g "com/example/chronoforge/chronoforge/design/Precedence" "to" "Ljava/lang/String;" (.ref y)
set_option maxRecDepth 65536 in
set_option maxHeartbeats 40000000 in
theorem own_pin (l : Launch) (Z : State) (a0 : Array Value) (hw : ∀ d ∈ tables_1, d.before a0 Z = true) (g x y : Addr) (h0 : Heap) (n0 : Nat) (Z0 : n0 ≤ h0.size) (E : Exa Z h0 g "com/example/chronoforge/chronoforge/design/Precedence") (F1 : Fld Z h0 g "com/example/chronoforge/chronoforge/design/Precedence" "from" "Ljava/lang/String;" .null) (F2 : Fld Z h0 g "com/example/chronoforge/chronoforge/design/Precedence" "to" "Ljava/lang/String;" .null) (gg : n0 ≤ g) :
    MetFree l yM43 (head1 [Jvm.Cond.code yM43 prog_40_method_1_code 3 none] rM37) (fun a_ U_ => a_ = #[(.ref g), (.ref x), (.ref y)] ∧ Z.Warmed39 U_.vm ∧ U_.heap = h0) (fun _ _ _ _ _ => True) (fun _ U_ o_ V_ => ∃ v_ L_, o_ = .returned v_ ∧ Q_own_pin Z g x y h0 n0 v_ V_.heap L_ ∧ FrameEnd U_ o_ V_ L_ rM37.cells rM37.slots) := by
  refine MetFree.of_bodySF (plainFor_of_name own_pn9) hisR ?_
  intro p e s m args below meth c s₁ Bd hml0 hP hK
  obtain ⟨rfl, hZ, hh⟩ := hP
  have hx := Bd.exec
  have hby := Bd.bytes
  have dB := @own_d c _ hby
  have hml : c.maxLocals = 3 := hml0
  have hown : s.vm.findClass "com/example/chronoforge/chronoforge/design/Precedence" = some m.cls := findClass_of_methodNamed Bd.named
  have hnm := (name_of_methodNamed Bd.named Bd.method).1
  have X0 : Stand p l e rM37 s m #[(.ref g), (.ref x), (.ref y)] below meth c s₁ [] 0 0 := Stand.of_body Bd
  have e0 : s₁.heap = h0 := by rw [← hh, Bd.state]; rfl
  have N0 := Fr.nil n0
  have KK0 := Keep.refl h0 [g]
  have cc0 : Steps p.tables e below (s₁.setTop (entryFrame m #[(.ref g), (.ref x), (.ref y)] 3)) (s₁.setTop (mkF m 0 #[sR g, sR x, sR y] [])) := XT.entry rfl
  obtain ⟨S0', hS0'⟩ : ∃ S, S = (s₁.setTop (entryFrame m #[(.ref g), (.ref x), (.ref y)] 3)) := ⟨_, rfl⟩
  rw [← hS0'] at cc0
  have w_39 := own_w hw 39 rfl
  have w_48 := own_w hw 48 rfl
  have w_51 := own_w hw 51 rfl
  have w_53 := own_w hw 53 rfl
  have cc21 : oS p e below S0' s₁ (mkF m 1 #[sR g, sR x, sR y] [(.ref g)]) := Steps.trans cc0 (by
    refine XS.aloadN X0.here hx rfl (dB d42_0) rfl rfl ?_
    exact Steps.refl _)
  obtain ⟨_, _, ⟨T22, L22, k22, n22⟩, -, X22, ⟨Lc22, hQ22, l22, y22, z22⟩, st22⟩ := X0.specialBack hx (y := yM42) rfl hown (mvT hZ (own_w hw 44 rfl)) (mvT hZ (own_w hw 45 rfl)) (mvT hZ w_48) (by decide) (backOf (W := 0) (own_rec l Z a0 hw g h0 n0 Z0 ) hZ w_48 (own_w hw 47 rfl) (by decide) (by decide)) (g := (mkF m 1 #[sR g, sR x, sR y] [(.ref g)])) rfl (by rw [hml]; rfl) (Steps.refl _) (a := g) (argsL := []) (rest := []) (lenOf own_pd12 rfl) rfl (Nat.le_of_eq rfl) (dB d42_1) (fun _ _ => ⟨rfl, e0, Nat.le_of_ble_eq_true rfl, Nat.le_of_ble_eq_true rfl⟩)
  dsimp only [Pt.U, Pt.locs, Pt.cells, Pt.slots] at X22 l22 y22 z22 st22 hQ22
  subst l22 y22 z22
  obtain ⟨rfl, Nq22, eq22⟩ := hQ22
  have N22 := Fr.app N0 Nq22
  have e22 : T22.heap = h0 := eq22
  have cc23 : oS p e below S0' T22 (mkF m 6 #[sR g, sR x, sR y] [(.ref x), (.ref g)]) := Steps.trans (Steps.trans cc21 st22) (by
    refine XS.aloadN X22.here hx rfl (dB d42_4) rfl rfl ?_
    refine XS.aloadN X22.here hx rfl (dB d42_5) rfl rfl ?_
    exact Steps.refl _)
  obtain ⟨T24, h24, X24, e24, W24, st24⟩ := putF X22 hx hZ hown (host := "") (Or.inl (own_w hw 50 rfl)) Via.refl e22 F1 E (Or.inr ⟨w_51, rfl, hnm⟩) w_39 (ty := (.object "java/lang/String")) (by decide) rfl rfl (g := (mkF m 6 #[sR g, sR x, sR y] [(.ref x), (.ref g)])) rfl rfl (dB d42_6)
  have K24 := Keep.of_wr W24
  have N24 := Fr.snoc X24 N22 gg
  have KK1 : Keep h0 h24 [g] := KK0.trans K24 (allS (Or.inl (List.mem_of_getElem? (i := 0) rfl)) all0)
  have Zs1 : n0 ≤ h24.size := Nat.le_trans Z0 K24.1
  have cc26 : oS p e below S0' T24 (mkF m 11 #[sR g, sR x, sR y] [(.ref y), (.ref g)]) := Steps.trans (cc23.trans (st24 _ (Steps.refl _))) (by
    refine XS.aloadN X24.here hx rfl (dB d42_9) rfl rfl ?_
    refine XS.aloadN X24.here hx rfl (dB d42_10) rfl rfl ?_
    exact Steps.refl _)
  have fa25 : Fld Z h24 g "com/example/chronoforge/chronoforge/design/Precedence" "to" "Ljava/lang/String;" .null := (F2.other W24 (Or.inr (slot_ne (Or.inr w_53) (Or.inr w_51) (by decide) (t := (.object "java/lang/String")) (t' := (.object "java/lang/String")) (by decide) (by decide))))
  have fa27 : Exa Z h24 g "com/example/chronoforge/chronoforge/design/Precedence" := (E.keep K24)
  obtain ⟨T28, h28, X28, e28, W28, st28⟩ := putF X24 hx hZ hown (host := "") (Or.inl (own_w hw 52 rfl)) Via.refl e24 fa25 fa27 (Or.inr ⟨w_53, rfl, hnm⟩) w_39 (ty := (.object "java/lang/String")) (by decide) rfl rfl (g := (mkF m 11 #[sR g, sR x, sR y] [(.ref y), (.ref g)])) rfl rfl (dB d42_11)
  have K28 := Keep.of_wr W28
  have N28 := Fr.snoc X28 N24 gg
  have KK2 : Keep h0 h28 [g] := KK1.trans K28 (allS (Or.inl (List.mem_of_getElem? (i := 0) rfl)) all0)
  have Zs2 : n0 ≤ h28.size := Nat.le_trans Zs1 K28.1
  have cc30 : oS p e below S0' T28 (mkF m 14 #[sR g, sR x, sR y] []) := (cc26.trans (st28 _ (Steps.refl _)))
  have fa29 : Fld Z h28 g "com/example/chronoforge/chronoforge/design/Precedence" "from" "Ljava/lang/String;" (.ref x) := ((Fld.same W24 F1).other W28 (Or.inr (slot_ne (Or.inr w_51) (Or.inr w_53) (by decide) (t := (.object "java/lang/String")) (t' := (.object "java/lang/String")) (by decide) (by decide))))
  have cE := cc30
  rw [hS0'] at cE
  obtain ⟨fs, hr_, hrun, hended, hW, hsame⟩ := X28.leave (v := none) (fun _ => rfl)
  refine ⟨_, _, cE.trans (X28.returnOut hx Bd.returns (dB d42_14) hr_), hrun, hended, _, _, rfl, ?_, ⟨_, rfl⟩, hW, hsame.mono (by first | decide | omega) (by first | decide | omega)⟩
  show Q_own_pin Z g x y h0 n0 _ T28.heap _
  rw [e28]
  exact ⟨rfl, N28, KK2, fa29, (Fld.same W28 fa25)⟩
theorem own_fld_inj {Z : State} {h : Heap} {a : Addr} {C n d : String} {v w : Value} (F : Fld Z h a C n d v) (G : Fld Z h a C n d w) : v = w := by
  obtain ⟨cell, cf, k, i, f, h1, h2, -, -, -, -, h7⟩ := F
  obtain ⟨cell', cf', k', i', f', g1, g2, -, -, -, -, g7⟩ := G
  cases h1.symm.trans g1
  have e := h2.symm.trans g2
  simp only [Option.some.injEq, Prod.mk.injEq] at e
  rw [e.2.2.2] at h7
  exact Option.some.inj (h7.symm.trans g7)
theorem d43_0 : decode kM43 0 = .ok (.new 16, 3) := by decide +kernel
theorem d43_3 : decode kM43 3 = .ok (.dup, 1) := by decide +kernel
theorem d43_4 : decode kM43 4 = .ok (.invokespecial 18, 3) := by decide +kernel
theorem d43_7 : decode kM43 7 = .ok (.aload_n 0, 1) := by decide +kernel
theorem d43_8 : decode kM43 8 = .ok (.getfield 7, 3) := by decide +kernel
theorem d43_11 : decode kM43 11 = .ok (.invokevirtual 19, 3) := by decide +kernel
theorem d43_14 : decode kM43 14 = .ok (.ldc 23, 2) := by decide +kernel
theorem d43_16 : decode kM43 16 = .ok (.invokevirtual 19, 3) := by decide +kernel
theorem d43_19 : decode kM43 19 = .ok (.aload_n 0, 1) := by decide +kernel
theorem d43_20 : decode kM43 20 = .ok (.getfield 13, 3) := by decide +kernel
theorem d43_23 : decode kM43 23 = .ok (.invokevirtual 19, 3) := by decide +kernel
theorem d43_26 : decode kM43 26 = .ok (.invokevirtual 25, 3) := by decide +kernel
theorem d43_29 : decode kM43 29 = .ok (.areturn, 1) := by decide +kernel
def Q_own_pts (Z : State) (g x y : Addr) (cs ds : List Int32) (z : Int32) (f : Value) (h0 : Heap) (n0 : Nat) (v : Option Value) (h : Heap) (L : List Loc) : Prop := ∃ s1 : Addr, v = some (.ref s1) ∧ Fr n0 L ∧ Keep h0 h [] ∧ own_Str Z h s1 (cs ++ (32 :: 45 :: 62 :: 32 :: ds))
set_option maxRecDepth 65536 in
set_option maxHeartbeats 40000000 in
theorem own_pts (l : Launch) (Z : State) (a0 : Array Value) (hw : ∀ d ∈ tables_1, d.before a0 Z = true) (g x y : Addr) (cs ds : List Int32) (z : Int32) (f : Value) (h0 : Heap) (n0 : Nat) (Z0 : n0 ≤ h0.size) (X00 : Old Z n0 h0) (O2 : Sta Z Z.heap "java/lang/String" "COMPACT_STRINGS" "Z" (.int z)) (P5 : ¬ z = 0) (O3 : StrChars.Road.U3Z Z Z.heap) (O4 : Sta Z Z.heap "jdk/internal/util/Preconditions" "SIOOBE_FORMATTER" "Ljava/util/function/BiFunction;" f) (hf : f.isRef = true) (F1 : Fld Z h0 g "com/example/chronoforge/chronoforge/design/Precedence" "from" "Ljava/lang/String;" (.ref x)) (F2 : Fld Z h0 g "com/example/chronoforge/chronoforge/design/Precedence" "to" "Ljava/lang/String;" (.ref y)) (Hx : own_Str Z h0 x cs) (Hy : own_Str Z h0 y ds) (nx : cs.length ≤ 2) (ny : ds.length ≤ 2) :
    MetFree l yM44 (head1 [Jvm.Cond.code yM44 prog_40_method_2_code 1 (some (.object "java/lang/String"))] rM38) (fun a_ U_ => a_ = #[(.ref g)] ∧ Z.Warmed39 U_.vm ∧ U_.heap = h0 ∧ CHv Z EL U_.vm h0) (fun _ _ _ _ _ => True) (fun _ U_ o_ V_ => ∃ v_ L_, o_ = .returned v_ ∧ Q_own_pts Z g x y cs ds z f h0 n0 v_ V_.heap L_ ∧ CHr Z EL U_.vm U_.heap V_.vm V_.heap ∧ ReturnedEndW U_ o_ V_ L_ rM38.cells rM38.slots) := by
  refine MetFree.of_bodySF (plainFor_of_name own_pn9) hisR ?_
  intro p e s m args below meth c s₁ Bd hml0 hP hK
  obtain ⟨rfl, hZ, hh, hCH⟩ := hP
  have hx := Bd.exec
  have hby := Bd.bytes
  have dB := @own_d c _ hby
  have hml : c.maxLocals = 1 := hml0
  have hown : s.vm.findClass "com/example/chronoforge/chronoforge/design/Precedence" = some m.cls := findClass_of_methodNamed Bd.named
  have hnm := (name_of_methodNamed Bd.named Bd.method).1
  have X0 : Stand p l e rM38 (s.setVm s.vm) m #[(.ref g)] below meth c s₁ [] 0 0 := Stand.of_body Bd
  have e0 : s₁.heap = h0 := by rw [← hh, Bd.state]; rfl
  have N0 := Fr.nil n0
  have KK0 := Keep.refl h0 ([] : List Addr)
  have C0 := CHr.refl hCH
  have hS0 : s.Since s.vm 0 := (State.WarmedH.refl s).since 0
  have hk0 : 0 ≤ h0.size := Nat.zero_le _
  have hEL : EW Z a0 EL := own_EW hw
  have cc0 : Steps p.tables e below (s₁.setTop (entryFrame m #[(.ref g)] 1)) (s₁.setTop (mkF m 0 #[sR g] [])) := XT.entry rfl
  obtain ⟨S0', hS0'⟩ : ∃ S, S = (s₁.setTop (entryFrame m #[(.ref g)] 1)) := ⟨_, rfl⟩
  rw [← hS0'] at cc0
  have w_50 := own_w hw 50 rfl
  have w_52 := own_w hw 52 rfl
  have w_59 := own_w hw 59 rfl
  have w_60 := own_w hw 60 rfl
  have w_61 := own_w hw 61 rfl
  have w_62 := own_w hw 62 rfl
  have w_63 := own_w hw 63 rfl
  have w_64 := own_w hw 64 rfl
  have w_74 := own_w hw 74 rfl
  have w_76 := own_w hw 76 rfl
  have w_77 := own_w hw 77 rfl
  have w_78 := own_w hw 78 rfl
  have w_79 := own_w hw 79 rfl
  have w_80 := own_w hw 80 rfl
  have w_81 := own_w hw 81 rfl
  have w_98 := own_w hw 98 rfl
  have w_124 := own_w hw 124 rfl
  have w_125 := own_w hw 125 rfl
  have w_126 := own_w hw 126 rfl
  have w_127 := own_w hw 127 rfl
  have w_128 := own_w hw 128 rfl
  have w_129 := own_w hw 129 rfl
  have w_239 := own_w hw 239 rfl
  rcases own_split Hx with Hx | Hx
  · skip
    obtain ⟨Ex, Cx, px, lx, tx, kx, Vx, Ax⟩ := Hx
    rcases own_split Hy with Hy | Hy
    · skip
      obtain ⟨Ey, Cy, py, ly, ty, ky, Vy, Ay⟩ := Hy
      obtain ⟨T21, h21, X21, e21, E21, A21, D21, -, st21⟩ := newO X0 hx hZ hown w_59 w_60 w_61 e0 (g := (mkF m 0 #[sR g] [])) rfl (dB d43_0) (by decide) (by decide)
      obtain ⟨sb, g_sb⟩ : ∃ z, z = h0.size := ⟨_, rfl⟩
      rw [← g_sb] at A21 D21 st21
      have K21 := (Keep.refl h0 ([] : List Addr)).ext E21
      have b_sb : h0.size ≤ sb := (Nat.le_of_eq g_sb.symm)
      have gn_sb : n0 ≤ sb := Nat.le_trans Z0 b_sb
      have s0_sb : h0.size ≤ sb := Nat.le_trans KK0.1 b_sb
      have ne_g_sb : g ≠ sb := Nat.ne_of_lt (Nat.lt_of_lt_of_le F1.lt b_sb)
      have ne_x_sb : x ≠ sb := Nat.ne_of_lt (Nat.lt_of_lt_of_le Ex.lt b_sb)
      have ne_tx_sb : tx ≠ sb := Nat.ne_of_lt (Nat.lt_of_lt_of_le Ax.lt b_sb)
      have ne_y_sb : y ≠ sb := Nat.ne_of_lt (Nat.lt_of_lt_of_le Ey.lt b_sb)
      have ne_ty_sb : ty ≠ sb := Nat.ne_of_lt (Nat.lt_of_lt_of_le Ay.lt b_sb)
      have D22 := CHr.ext E21 C0.1
      have C23 := C0.trans D22
      have sf_sb : Safe Z EL s.vm h21 sb := Safe.ext E21 C0.1 (Safe.new b_sb)
      have KK1 : Keep h0 h21 ([] : List Addr) := KK0.trans K21 all0
      have Zs1 : n0 ≤ h21.size := Nat.le_trans Z0 K21.1
      have F_value_sb : Fld Z h21 sb "java/lang/AbstractStringBuilder" "value" "[B" .null := D21 (Or.inl w_74) (ty := (.array .byte)) (by decide)
      have F_coder_sb : Fld Z h21 sb "java/lang/AbstractStringBuilder" "coder" "B" (.int (0 : Int32)) := D21 (Or.inl w_76) (ty := .byte) (by decide)
      have F_count_sb : Fld Z h21 sb "java/lang/AbstractStringBuilder" "count" "I" (.int (0 : Int32)) := D21 (Or.inl w_98) (ty := .int) (by decide)
      have F_maybeLatin1_sb : Fld Z h21 sb "java/lang/AbstractStringBuilder" "maybeLatin1" "Z" (.int (0 : Int32)) := D21 (Or.inl w_239) (ty := .boolean) (by decide)
      have cc25 : oS p e below S0' T21 (mkF m 4 #[sR g] [(.ref sb), (.ref sb)]) := Steps.trans (cc0.trans (st21 _ (Steps.refl _))) (by
        refine XS.dup X21.here hx rfl (dB d43_3) rfl rfl ?_
        exact Steps.refl _)
      have fa24 : Old Z n0 h21 := (X00.keep K21 all0)
      obtain ⟨_, _, ⟨T26, L26, k26, n26⟩, -, X26, ⟨Lc26, hQ26, l26, y26, z26⟩, st26⟩ := X21.specialBack hx (y := yM5) rfl hown (mvT hZ w_62) (mvT hZ w_63) (mvT hZ w_64) (by decide) (backOf (W := 1) (own_sb0 l Z a0 hw sb z h21 n0 Zs1 fa24 O2 P5 A21 F_coder_sb F_count_sb F_value_sb F_maybeLatin1_sb gn_sb) hZ w_64 w_61 (by decide) (by decide)) (g := (mkF m 4 #[sR g] [(.ref sb), (.ref sb)])) rfl (by rw [hml]; rfl) (Steps.refl _) (a := sb) (argsL := []) (rest := [(.ref sb)]) (lenOf own_pd12 rfl) rfl (Nat.le_of_eq rfl) (dB d43_4) (fun _ _ => ⟨rfl, e21, Nat.le_of_ble_eq_true rfl, Nat.le_of_ble_eq_true rfl⟩)
      dsimp only [Pt.U, Pt.locs, Pt.cells, Pt.slots] at X26 l26 y26 z26 st26 hQ26
      subst l26 y26 z26
      obtain ⟨t, kt, rfl, Nq26, Kq26, s0q26, f126, f226, f326, f426, f526⟩ := hQ26
      have N26 := Fr.app N0 Nq26
      have b_t : h21.size ≤ t := s0q26
      have gn_t : n0 ≤ t := Nat.le_trans Zs1 b_t
      have s0_t : h0.size ≤ t := Nat.le_trans KK1.1 b_t
      have fa27 : Fld Z h21 g "com/example/chronoforge/chronoforge/design/Precedence" "from" "Ljava/lang/String;" (.ref x) := (F1.keep K21 nin0)
      have ne_g_t : g ≠ t := Nat.ne_of_lt (Nat.lt_of_lt_of_le fa27.lt b_t)
      have fa28 : Exa Z h21 x "java/lang/String" := (Ex.keep K21)
      have ne_x_t : x ≠ t := Nat.ne_of_lt (Nat.lt_of_lt_of_le fa28.lt b_t)
      have fa29 : Arv Z h21 tx kx .byte (Int32.ofNat cs.length) (own_by cs) (.int (0 : Int32)) := (Ax.keep K21 nin0)
      have ne_tx_t : tx ≠ t := Nat.ne_of_lt (Nat.lt_of_lt_of_le fa29.lt b_t)
      have fa30 : Exa Z h21 y "java/lang/String" := (Ey.keep K21)
      have ne_y_t : y ≠ t := Nat.ne_of_lt (Nat.lt_of_lt_of_le fa30.lt b_t)
      have fa31 : Arv Z h21 ty ky .byte (Int32.ofNat ds.length) (own_by ds) (.int (0 : Int32)) := (Ay.keep K21 nin0)
      have ne_ty_t : ty ≠ t := Nat.ne_of_lt (Nat.lt_of_lt_of_le fa31.lt b_t)
      have ne_sb_t : sb ≠ t := Nat.ne_of_lt (Nat.lt_of_lt_of_le A21.lt b_t)
      have D32 := CHr.keep Kq26 (sfS sf_sb sf0) C23.1
      have C33 := C23.trans D32
      have sf_t := Safe.keep Kq26 (sfS sf_sb sf0) C23.1 (Safe.new b_t)
      have KK2 : Keep h0 T26.heap ([] : List Addr) := KK1.trans Kq26 (allS (Or.inr s0_sb) all0)
      have Zs2 : n0 ≤ T26.heap.size := Nat.le_trans Zs1 Kq26.1
      have e26 : T26.heap = T26.heap := rfl
      have cc35 : oS p e below S0' T26 (mkF m 7 #[sR g] [(.ref sb)]) := (Steps.trans cc25 st26)
      have fa34 : Exa Z T26.heap sb "java/lang/StringBuilder" := (A21.keep Kq26)
      have cc37 : oS p e below S0' T26 (mkF m 8 #[sR g] [(.ref g), (.ref sb)]) := Steps.trans cc35 (by
        refine XS.aloadN X26.here hx rfl (dB d43_7) rfl rfl ?_
        exact Steps.refl _)
      have fa36 : Fld Z T26.heap g "com/example/chronoforge/chronoforge/design/Precedence" "from" "Ljava/lang/String;" (.ref x) := (fa27.keep Kq26 (ninS ne_g_sb nin0))
      obtain ⟨T38, X38, e38, st38⟩ := getF X26 hx hZ hown (host := "") (Or.inl w_50) Via.refl e26 fa36 (g := (mkF m 8 #[sR g] [(.ref g), (.ref sb)])) rfl rfl (dB d43_8)
      have cc40 : oS p e below S0' T38 (mkF m 11 #[sR g] [(.ref x), (.ref sb)]) := (cc37.trans (st38 _ (Steps.refl _)))
      have fa39 : Exa Z T26.heap x "java/lang/String" := (fa28.keep Kq26)
      have fa41 : Fld Z T26.heap x "java/lang/String" "coder" "B" (.int (0 : Int32)) := ((Cx.keep K21 nin0).keep Kq26 (ninS ne_x_sb nin0))
      have fa42 : Fld Z T26.heap x "java/lang/String" "value" "[B" (.ref tx) := ((Vx.keep K21 nin0).keep Kq26 (ninS ne_x_sb nin0))
      have fa43 : Arv Z T26.heap tx kx .byte (Int32.ofNat cs.length) (own_by cs) (.int (0 : Int32)) := (fa29.keep Kq26 (ninS ne_tx_sb nin0))
      have fa44 : Old Z n0 T26.heap := (fa24.keep Kq26 (allS gn_sb all0))
      obtain ⟨cq45, kq45, qa45, qb45, qc45⟩ := isOf hZ e38 fa34
      obtain ⟨_, _, ⟨T45, L45, k45, n45⟩, -, X45, ⟨Lc45, hQ45, l45, y45, z45⟩, st45⟩ := X38.virtualBack hx (y := yM22) (z := yM22) hown (mvT hZ w_77) (mvT hZ w_78) (notFace_of_selects (args := #[]) (mvT hZ w_80)) (mvT hZ w_80) (mvT hZ w_79) (by decide) (backOf (W := 0) (own_app00 l Z a0 hw sb t kt ([] : List Int32) x cs z f T26.heap n0 Zs2 fa44 O2 P5 O3 O4 hf fa34 f126 f226 f326 f426 f526 (⟨fa39, fa41, px, lx, tx, kx, fa42, fa43⟩ : own_Lat Z T26.heap x cs) gn_sb gn_t (by first | omega | (simp; done) | (simp; omega))) hZ w_81 w_61 (by decide) (by decide)) qa45 qc45 (g := (mkF m 11 #[sR g] [(.ref x), (.ref sb)])) rfl (by rw [hml]; rfl) (Steps.refl _) (argsL := [(.ref x)]) (rest := []) (lenOf own_pd28 rfl) rfl (Nat.le_of_eq rfl) (dB d43_11) (fun _ _ => ⟨rfl, e38, Nat.le_of_ble_eq_true rfl, Nat.le_of_ble_eq_true rfl⟩)
      dsimp only [Pt.U, Pt.locs, Pt.cells, Pt.slots] at X45 l45 y45 z45 st45 hQ45
      subst l45 y45 z45
      obtain ⟨rfl, Nq45, Kq45, f145, f245, f345, f445, f545⟩ := hQ45
      have N45 := Fr.app N26 Nq45
      have sf46 := D32.safe A21.lt sf_sb
      have lt47 := Nat.lt_of_lt_of_le A21.lt Kq26.1
      have D48 := CHr.keep Kq45 (sfS sf46 (sfS sf_t sf0)) C33.1
      have C49 := C33.trans D48
      have KK3 : Keep h0 T45.heap ([] : List Addr) := KK2.trans Kq45 (allS (Or.inr s0_sb) (allS (Or.inr s0_t) all0))
      have Zs3 : n0 ≤ T45.heap.size := Nat.le_trans Zs2 Kq45.1
      have e45 : T45.heap = T45.heap := rfl
      have cc51 : oS p e below S0' T45 (mkF m 14 #[sR g] [(.ref sb)]) := (Steps.trans cc40 st45)
      have fa50 : Exa Z T45.heap sb "java/lang/StringBuilder" := (fa34.keep Kq45)
      obtain ⟨q1, T52, h52, k52, tq1, kb52, X52, e52, E52, hS52, hk52, hZ52, hown52, Ex52, Fc52, Fv52, Ar52, lta52, ltb52, CH52, -, sfn52, st52⟩ := ldcCH X45 hx hZ hown w_124 (fun a ha => hw a ((by decide +kernel : ∀ a ∈ Bundle.stringAtoms, a ∈ tables_1) a ha)) e45 hS0 (Nat.le_trans (Nat.le_trans (Nat.le_trans hk0 K21.1) Kq26.1) Kq45.1) hEL (by decide +kernel) C49.1 (vs := [(.int (32 : Int32)), (.int (45 : Int32)), (.int (62 : Int32)), (.int (32 : Int32))]) (z := 4) (by decide +kernel) (by decide) (by decide) (g := (mkF m 14 #[sR g] [(.ref sb)])) rfl (dB d43_14) (n := 16) (by decide) (by decide) (by decide) (by decide)
      have K52 := (Keep.refl T45.heap ([] : List Addr)).ext E52
      have C52 := C49.trans CH52
      have KK4 : Keep h0 h52 ([] : List Addr) := KK3.trans K52 all0
      have Zs4 : n0 ≤ h52.size := Nat.le_trans Zs3 K52.1
      have sf53 := D48.safe lt47 sf46
      have lt54 := Nat.lt_of_lt_of_le lt47 Kq45.1
      have sf55 := CH52.safe lt54 sf53
      have lt56 := Nat.lt_of_lt_of_le lt54 K52.1
      have nl52_sb := sfn52 _ sf55
      have sf57 := D48.safe f526.lt sf_t
      have lt58 := Nat.lt_of_lt_of_le f526.lt Kq45.1
      have sf59 := CH52.safe lt58 sf57
      have lt60 := Nat.lt_of_lt_of_le lt58 K52.1
      have nl52_t := sfn52 _ sf59
      have cc62 : oS p e below S0' T52 (mkF m 16 #[sR g] [(.ref q1), (.ref sb)]) := (cc51.trans (st52 _ (Steps.refl _)))
      have fa61 : Exa Z h52 sb "java/lang/StringBuilder" := (fa50.keep K52)
      have fa63 : Fld Z h52 sb "java/lang/AbstractStringBuilder" "coder" "B" (.int (0 : Int32)) := (f145.keep K52 nin0)
      have fa64 : Fld Z h52 sb "java/lang/AbstractStringBuilder" "count" "I" (.int (Int32.ofNat (([] : List Int32) ++ cs).length)) := (f245.keep K52 nin0)
      have fa65 : Fld Z h52 sb "java/lang/AbstractStringBuilder" "value" "[B" (.ref t) := (f345.keep K52 nin0)
      have fa66 : Fld Z h52 sb "java/lang/AbstractStringBuilder" "maybeLatin1" "Z" (.int (0 : Int32)) := (f445.keep K52 nin0)
      have fa67 : Arv Z h52 t kt .byte (16 : Int32) (own_by (([] : List Int32) ++ cs)) (.int (0 : Int32)) := (f545.keep K52 nin0)
      have fa68 : Old Z n0 h52 := ((fa44.keep Kq45 (allS gn_sb (allS gn_t all0))).keep K52 all0)
      obtain ⟨cq69, kq69, qa69, qb69, qc69⟩ := isOf hZ52 e52 fa61
      obtain ⟨_, _, ⟨T69, L69, k69, n69⟩, -, X69, ⟨Lc69, hQ69, l69, y69, z69⟩, st69⟩ := X52.virtualBack hx (y := yM22) (z := yM22) hown52 (mvT hZ52 w_77) (mvT hZ52 w_78) (notFace_of_selects (args := #[]) (mvT hZ52 w_80)) (mvT hZ52 w_80) (mvT hZ52 w_79) (by decide) (backOf (W := 0) (own_app00 l Z a0 hw sb t kt (([] : List Int32) ++ cs) q1 ([32, 45, 62, 32] : List Int32) z f h52 n0 Zs4 fa68 O2 P5 O3 O4 hf fa61 fa63 fa64 fa65 fa66 fa67 (⟨Ex52, Fc52, by decide, by decide, tq1, _, Fv52, Ar52⟩ : own_Lat Z h52 q1 ([32, 45, 62, 32] : List Int32)) gn_sb gn_t (by first | omega | (simp; done) | (simp; omega))) hZ52 w_81 w_61 (by decide) (by decide)) qa69 qc69 (g := (mkF m 16 #[sR g] [(.ref q1), (.ref sb)])) rfl (by rw [hml]; rfl) (Steps.refl _) (argsL := [(.ref q1)]) (rest := []) (lenOf own_pd28 rfl) rfl (Nat.le_of_eq rfl) (dB d43_16) (fun _ _ => ⟨rfl, e52, Nat.le_of_ble_eq_true rfl, Nat.le_of_ble_eq_true rfl⟩)
      dsimp only [Pt.U, Pt.locs, Pt.cells, Pt.slots] at X69 l69 y69 z69 st69 hQ69
      subst l69 y69 z69
      obtain ⟨rfl, Nq69, Kq69, f169, f269, f369, f469, f569⟩ := hQ69
      have N69 := Fr.app N45 Nq69
      have D70 := CHr.keep Kq69 (sfS sf55 (sfS sf59 sf0)) C52.1
      have C71 := C52.trans D70
      have KK5 : Keep h0 T69.heap ([] : List Addr) := KK4.trans Kq69 (allS (Or.inr s0_sb) (allS (Or.inr s0_t) all0))
      have Zs5 : n0 ≤ T69.heap.size := Nat.le_trans Zs4 Kq69.1
      have e69 : T69.heap = T69.heap := rfl
      have cc73 : oS p e below S0' T69 (mkF m 19 #[sR g] [(.ref sb)]) := (Steps.trans cc62 st69)
      have fa72 : Exa Z T69.heap sb "java/lang/StringBuilder" := (fa61.keep Kq69)
      have cc75 : oS p e below S0' T69 (mkF m 20 #[sR g] [(.ref g), (.ref sb)]) := Steps.trans cc73 (by
        refine XS.aloadN X69.here hx rfl (dB d43_19) rfl rfl ?_
        exact Steps.refl _)
      have fa74 : Fld Z T69.heap g "com/example/chronoforge/chronoforge/design/Precedence" "to" "Ljava/lang/String;" (.ref y) := (((((F2.keep K21 nin0).keep Kq26 (ninS ne_g_sb nin0)).keep Kq45 (ninS ne_g_sb (ninS ne_g_t nin0))).keep K52 nin0).keep Kq69 (ninS ne_g_sb (ninS ne_g_t nin0)))
      obtain ⟨T76, X76, e76, st76⟩ := getF X69 hx hZ52 hown52 (host := "") (Or.inl w_52) Via.refl e69 fa74 (g := (mkF m 20 #[sR g] [(.ref g), (.ref sb)])) rfl rfl (dB d43_20)
      have hpb : ∀ c' ∈ ((([] : List Int32) ++ cs) ++ ([32, 45, 62, 32] : List Int32)), ¬ c' < 0 ∧ ¬ (255 : Int32) < c' := by
        intro c' hc'
        simp only [List.mem_append, List.mem_cons, List.not_mem_nil, or_false, false_or] at hc'
        rcases hc' with q | rfl | rfl | rfl | rfl <;> first | exact px _ q | decide
      have cc78 : oS p e below S0' T76 (mkF m 23 #[sR g] [(.ref y), (.ref sb)]) := (cc75.trans (st76 _ (Steps.refl _)))
      have fa77 : Exa Z T69.heap y "java/lang/String" := ((((fa30.keep Kq26).keep Kq45).keep K52).keep Kq69)
      have fa79 : Fld Z T69.heap y "java/lang/String" "coder" "B" (.int (0 : Int32)) := (((((Cy.keep K21 nin0).keep Kq26 (ninS ne_y_sb nin0)).keep Kq45 (ninS ne_y_sb (ninS ne_y_t nin0))).keep K52 nin0).keep Kq69 (ninS ne_y_sb (ninS ne_y_t nin0)))
      have fa80 : Fld Z T69.heap y "java/lang/String" "value" "[B" (.ref ty) := (((((Vy.keep K21 nin0).keep Kq26 (ninS ne_y_sb nin0)).keep Kq45 (ninS ne_y_sb (ninS ne_y_t nin0))).keep K52 nin0).keep Kq69 (ninS ne_y_sb (ninS ne_y_t nin0)))
      have fa81 : Arv Z T69.heap ty ky .byte (Int32.ofNat ds.length) (own_by ds) (.int (0 : Int32)) := ((((fa31.keep Kq26 (ninS ne_ty_sb nin0)).keep Kq45 (ninS ne_ty_sb (ninS ne_ty_t nin0))).keep K52 nin0).keep Kq69 (ninS ne_ty_sb (ninS ne_ty_t nin0)))
      have fa82 : Old Z n0 T69.heap := (fa68.keep Kq69 (allS gn_sb (allS gn_t all0)))
      obtain ⟨cq83, kq83, qa83, qb83, qc83⟩ := isOf hZ52 e76 fa72
      obtain ⟨_, _, ⟨T83, L83, k83, n83⟩, -, X83, ⟨Lc83, hQ83, l83, y83, z83⟩, st83⟩ := X76.virtualBack hx (y := yM22) (z := yM22) hown52 (mvT hZ52 w_77) (mvT hZ52 w_78) (notFace_of_selects (args := #[]) (mvT hZ52 w_80)) (mvT hZ52 w_80) (mvT hZ52 w_79) (by decide) (backOf (W := 0) (own_app00 l Z a0 hw sb t kt ((([] : List Int32) ++ cs) ++ ([32, 45, 62, 32] : List Int32)) y ds z f T69.heap n0 Zs5 fa82 O2 P5 O3 O4 hf fa72 f169 f269 f369 f469 f569 (⟨fa77, fa79, py, ly, ty, ky, fa80, fa81⟩ : own_Lat Z T69.heap y ds) gn_sb gn_t (by first | omega | (simp; done) | (simp; omega))) hZ52 w_81 w_61 (by decide) (by decide)) qa83 qc83 (g := (mkF m 23 #[sR g] [(.ref y), (.ref sb)])) rfl (by rw [hml]; rfl) (Steps.refl _) (argsL := [(.ref y)]) (rest := []) (lenOf own_pd28 rfl) rfl (Nat.le_of_eq rfl) (dB d43_23) (fun _ _ => ⟨rfl, e76, Nat.le_of_ble_eq_true rfl, Nat.le_of_ble_eq_true rfl⟩)
      dsimp only [Pt.U, Pt.locs, Pt.cells, Pt.slots] at X83 l83 y83 z83 st83 hQ83
      subst l83 y83 z83
      obtain ⟨rfl, Nq83, Kq83, f183, f283, f383, f483, f583⟩ := hQ83
      have N83 := Fr.app N69 Nq83
      have sf84 := D70.safe lt60 sf59
      have lt85 := Nat.lt_of_lt_of_le lt60 Kq69.1
      have sf86 := D70.safe lt56 sf55
      have lt87 := Nat.lt_of_lt_of_le lt56 Kq69.1
      have D88 := CHr.keep Kq83 (sfS sf86 (sfS sf84 sf0)) C71.1
      have C89 := C71.trans D88
      have KK6 : Keep h0 T83.heap ([] : List Addr) := KK5.trans Kq83 (allS (Or.inr s0_sb) (allS (Or.inr s0_t) all0))
      have Zs6 : n0 ≤ T83.heap.size := Nat.le_trans Zs5 Kq83.1
      have e83 : T83.heap = T83.heap := rfl
      have cc91 : oS p e below S0' T83 (mkF m 26 #[sR g] [(.ref sb)]) := (Steps.trans cc78 st83)
      have fa90 : Exa Z T83.heap sb "java/lang/StringBuilder" := (fa72.keep Kq83)
      have hpe : ∀ c' ∈ (((([] : List Int32) ++ cs) ++ ([32, 45, 62, 32] : List Int32)) ++ ds), ¬ c' < 0 ∧ ¬ (255 : Int32) < c' := by
        intro c' hc'
        simp only [List.mem_append, List.mem_cons, List.not_mem_nil, or_false, false_or] at hc'
        rcases hc' with (q | rfl | rfl | rfl | rfl) | q
        · exact px _ q
        · decide
        · decide
        · decide
        · decide
        · exact py _ q
      have fa92 : Old Z n0 T83.heap := (fa82.keep Kq83 (allS gn_sb (allS gn_t all0)))
      obtain ⟨cq93, kq93, qa93, qb93, qc93⟩ := isOf hZ52 e83 fa90
      obtain ⟨_, _, ⟨T93, L93, k93, n93⟩, -, X93, ⟨Lc93, hQ93, l93, y93, z93⟩, st93⟩ := X83.virtualBack hx (y := yM32) (z := yM32) hown52 (mvT hZ52 w_125) (mvT hZ52 w_126) (notFace_of_selects (args := #[]) (mvT hZ52 w_128)) (mvT hZ52 w_128) (mvT hZ52 w_127) (by decide) (backOf (W := 0) (own_tos0 l Z a0 hw sb t kt (((([] : List Int32) ++ cs) ++ ([32, 45, 62, 32] : List Int32)) ++ ds) z T83.heap n0 Zs6 fa92 O2 P5 fa90 f183 f283 f383 f483 f583 hpe (by first | omega | (simp; done) | (simp; omega))) hZ52 w_129 w_61 (by decide) (by decide)) qa93 qc93 (g := (mkF m 26 #[sR g] [(.ref sb)])) rfl (by rw [hml]; rfl) (Steps.refl _) (argsL := []) (rest := []) (lenOf own_pd29 rfl) rfl (Nat.le_of_eq rfl) (dB d43_26) (fun _ _ => ⟨rfl, e83, Nat.le_of_ble_eq_true rfl, Nat.le_of_ble_eq_true rfl⟩)
      dsimp only [Pt.U, Pt.locs, Pt.cells, Pt.slots] at X93 l93 y93 z93 st93 hQ93
      subst l93 y93 z93
      obtain ⟨s1, rfl, Nq93, Kq93, sq93, Hq93⟩ := hQ93
      have N93 := Fr.app N83 Nq93
      have D94 := CHr.keep Kq93 sf0 C89.1
      have C95 := C89.trans D94
      have KK7 : Keep h0 T93.heap ([] : List Addr) := KK6.trans Kq93 all0
      have Zs7 : n0 ≤ T93.heap.size := Nat.le_trans Zs6 Kq93.1
      have e93 : T93.heap = T93.heap := rfl
      have eR : (((([] : List Int32) ++ cs) ++ ([32, 45, 62, 32] : List Int32)) ++ ds) = (cs ++ (32 :: 45 :: 62 :: 32 :: ds)) := by simp
      have cc96 : oS p e below S0' T93 (mkF m 29 #[sR g] [(.ref s1)]) := (Steps.trans cc91 st93)
      have cE := cc96
      rw [hS0'] at cE
      obtain ⟨fs, hr_, hrun, hended, hE⟩ := X93.leaveW hS52 (by rw [e93]; exact (Nat.le_trans (Nat.le_trans (Nat.le_trans hk52 Kq69.1) Kq83.1) Kq93.1)) (v := some (.ref s1)) (fun h => by rw [Bd.returns] at h; cases h)
      have CE := C95.trans (CHv.at X93 hZ52 hEL C95.1)
      refine ⟨_, _, cE.trans (X93.areturnOut hx (rfl) Bd.returns rfl (dB d43_29) hr_), hrun, hended, _, _, rfl, ?_, ?_, hE.1, hE.2.1, hE.2.2.1, hE.2.2.2.mono (by first | decide | omega) (by first | decide | omega)⟩
      · show Q_own_pts Z g x y cs ds z f h0 n0 _ T93.heap _
        rw [e93]
        exact ⟨s1, rfl, N93, KK7, own_ofLat (eR ▸ Hq93)⟩
      · rw [hh]
        show CHr Z EL s.vm h0 T93.vm T93.heap
        rw [e93]
        exact CE
    · skip
      obtain ⟨Ey, Cy, py, ly, wy, ty, ky, Vy, Ay⟩ := Hy
      obtain ⟨T21, h21, X21, e21, E21, A21, D21, -, st21⟩ := newO X0 hx hZ hown w_59 w_60 w_61 e0 (g := (mkF m 0 #[sR g] [])) rfl (dB d43_0) (by decide) (by decide)
      obtain ⟨sb, g_sb⟩ : ∃ z, z = h0.size := ⟨_, rfl⟩
      rw [← g_sb] at A21 D21 st21
      have K21 := (Keep.refl h0 ([] : List Addr)).ext E21
      have b_sb : h0.size ≤ sb := (Nat.le_of_eq g_sb.symm)
      have gn_sb : n0 ≤ sb := Nat.le_trans Z0 b_sb
      have s0_sb : h0.size ≤ sb := Nat.le_trans KK0.1 b_sb
      have ne_g_sb : g ≠ sb := Nat.ne_of_lt (Nat.lt_of_lt_of_le F1.lt b_sb)
      have ne_x_sb : x ≠ sb := Nat.ne_of_lt (Nat.lt_of_lt_of_le Ex.lt b_sb)
      have ne_tx_sb : tx ≠ sb := Nat.ne_of_lt (Nat.lt_of_lt_of_le Ax.lt b_sb)
      have ne_y_sb : y ≠ sb := Nat.ne_of_lt (Nat.lt_of_lt_of_le Ey.lt b_sb)
      have ne_ty_sb : ty ≠ sb := Nat.ne_of_lt (Nat.lt_of_lt_of_le Ay.lt b_sb)
      have D22 := CHr.ext E21 C0.1
      have C23 := C0.trans D22
      have sf_sb : Safe Z EL s.vm h21 sb := Safe.ext E21 C0.1 (Safe.new b_sb)
      have KK1 : Keep h0 h21 ([] : List Addr) := KK0.trans K21 all0
      have Zs1 : n0 ≤ h21.size := Nat.le_trans Z0 K21.1
      have F_value_sb : Fld Z h21 sb "java/lang/AbstractStringBuilder" "value" "[B" .null := D21 (Or.inl w_74) (ty := (.array .byte)) (by decide)
      have F_coder_sb : Fld Z h21 sb "java/lang/AbstractStringBuilder" "coder" "B" (.int (0 : Int32)) := D21 (Or.inl w_76) (ty := .byte) (by decide)
      have F_count_sb : Fld Z h21 sb "java/lang/AbstractStringBuilder" "count" "I" (.int (0 : Int32)) := D21 (Or.inl w_98) (ty := .int) (by decide)
      have F_maybeLatin1_sb : Fld Z h21 sb "java/lang/AbstractStringBuilder" "maybeLatin1" "Z" (.int (0 : Int32)) := D21 (Or.inl w_239) (ty := .boolean) (by decide)
      have cc25 : oS p e below S0' T21 (mkF m 4 #[sR g] [(.ref sb), (.ref sb)]) := Steps.trans (cc0.trans (st21 _ (Steps.refl _))) (by
        refine XS.dup X21.here hx rfl (dB d43_3) rfl rfl ?_
        exact Steps.refl _)
      have fa24 : Old Z n0 h21 := (X00.keep K21 all0)
      obtain ⟨_, _, ⟨T26, L26, k26, n26⟩, -, X26, ⟨Lc26, hQ26, l26, y26, z26⟩, st26⟩ := X21.specialBack hx (y := yM5) rfl hown (mvT hZ w_62) (mvT hZ w_63) (mvT hZ w_64) (by decide) (backOf (W := 1) (own_sb0 l Z a0 hw sb z h21 n0 Zs1 fa24 O2 P5 A21 F_coder_sb F_count_sb F_value_sb F_maybeLatin1_sb gn_sb) hZ w_64 w_61 (by decide) (by decide)) (g := (mkF m 4 #[sR g] [(.ref sb), (.ref sb)])) rfl (by rw [hml]; rfl) (Steps.refl _) (a := sb) (argsL := []) (rest := [(.ref sb)]) (lenOf own_pd12 rfl) rfl (Nat.le_of_eq rfl) (dB d43_4) (fun _ _ => ⟨rfl, e21, Nat.le_of_ble_eq_true rfl, Nat.le_of_ble_eq_true rfl⟩)
      dsimp only [Pt.U, Pt.locs, Pt.cells, Pt.slots] at X26 l26 y26 z26 st26 hQ26
      subst l26 y26 z26
      obtain ⟨t, kt, rfl, Nq26, Kq26, s0q26, f126, f226, f326, f426, f526⟩ := hQ26
      have N26 := Fr.app N0 Nq26
      have b_t : h21.size ≤ t := s0q26
      have gn_t : n0 ≤ t := Nat.le_trans Zs1 b_t
      have s0_t : h0.size ≤ t := Nat.le_trans KK1.1 b_t
      have fa27 : Fld Z h21 g "com/example/chronoforge/chronoforge/design/Precedence" "from" "Ljava/lang/String;" (.ref x) := (F1.keep K21 nin0)
      have ne_g_t : g ≠ t := Nat.ne_of_lt (Nat.lt_of_lt_of_le fa27.lt b_t)
      have fa28 : Exa Z h21 x "java/lang/String" := (Ex.keep K21)
      have ne_x_t : x ≠ t := Nat.ne_of_lt (Nat.lt_of_lt_of_le fa28.lt b_t)
      have fa29 : Arv Z h21 tx kx .byte (Int32.ofNat cs.length) (own_by cs) (.int (0 : Int32)) := (Ax.keep K21 nin0)
      have ne_tx_t : tx ≠ t := Nat.ne_of_lt (Nat.lt_of_lt_of_le fa29.lt b_t)
      have fa30 : Exa Z h21 y "java/lang/String" := (Ey.keep K21)
      have ne_y_t : y ≠ t := Nat.ne_of_lt (Nat.lt_of_lt_of_le fa30.lt b_t)
      have fa31 : Arv Z h21 ty ky .byte (Int32.ofNat (2 * ds.length)) (StrChars.Road.wideBytes ds) (.int (0 : Int32)) := (Ay.keep K21 nin0)
      have ne_ty_t : ty ≠ t := Nat.ne_of_lt (Nat.lt_of_lt_of_le fa31.lt b_t)
      have ne_sb_t : sb ≠ t := Nat.ne_of_lt (Nat.lt_of_lt_of_le A21.lt b_t)
      have D32 := CHr.keep Kq26 (sfS sf_sb sf0) C23.1
      have C33 := C23.trans D32
      have sf_t := Safe.keep Kq26 (sfS sf_sb sf0) C23.1 (Safe.new b_t)
      have KK2 : Keep h0 T26.heap ([] : List Addr) := KK1.trans Kq26 (allS (Or.inr s0_sb) all0)
      have Zs2 : n0 ≤ T26.heap.size := Nat.le_trans Zs1 Kq26.1
      have e26 : T26.heap = T26.heap := rfl
      have cc35 : oS p e below S0' T26 (mkF m 7 #[sR g] [(.ref sb)]) := (Steps.trans cc25 st26)
      have fa34 : Exa Z T26.heap sb "java/lang/StringBuilder" := (A21.keep Kq26)
      have cc37 : oS p e below S0' T26 (mkF m 8 #[sR g] [(.ref g), (.ref sb)]) := Steps.trans cc35 (by
        refine XS.aloadN X26.here hx rfl (dB d43_7) rfl rfl ?_
        exact Steps.refl _)
      have fa36 : Fld Z T26.heap g "com/example/chronoforge/chronoforge/design/Precedence" "from" "Ljava/lang/String;" (.ref x) := (fa27.keep Kq26 (ninS ne_g_sb nin0))
      obtain ⟨T38, X38, e38, st38⟩ := getF X26 hx hZ hown (host := "") (Or.inl w_50) Via.refl e26 fa36 (g := (mkF m 8 #[sR g] [(.ref g), (.ref sb)])) rfl rfl (dB d43_8)
      have cc40 : oS p e below S0' T38 (mkF m 11 #[sR g] [(.ref x), (.ref sb)]) := (cc37.trans (st38 _ (Steps.refl _)))
      have fa39 : Exa Z T26.heap x "java/lang/String" := (fa28.keep Kq26)
      have fa41 : Fld Z T26.heap x "java/lang/String" "coder" "B" (.int (0 : Int32)) := ((Cx.keep K21 nin0).keep Kq26 (ninS ne_x_sb nin0))
      have fa42 : Fld Z T26.heap x "java/lang/String" "value" "[B" (.ref tx) := ((Vx.keep K21 nin0).keep Kq26 (ninS ne_x_sb nin0))
      have fa43 : Arv Z T26.heap tx kx .byte (Int32.ofNat cs.length) (own_by cs) (.int (0 : Int32)) := (fa29.keep Kq26 (ninS ne_tx_sb nin0))
      have fa44 : Old Z n0 T26.heap := (fa24.keep Kq26 (allS gn_sb all0))
      obtain ⟨cq45, kq45, qa45, qb45, qc45⟩ := isOf hZ e38 fa34
      obtain ⟨_, _, ⟨T45, L45, k45, n45⟩, -, X45, ⟨Lc45, hQ45, l45, y45, z45⟩, st45⟩ := X38.virtualBack hx (y := yM22) (z := yM22) hown (mvT hZ w_77) (mvT hZ w_78) (notFace_of_selects (args := #[]) (mvT hZ w_80)) (mvT hZ w_80) (mvT hZ w_79) (by decide) (backOf (W := 0) (own_app00 l Z a0 hw sb t kt ([] : List Int32) x cs z f T26.heap n0 Zs2 fa44 O2 P5 O3 O4 hf fa34 f126 f226 f326 f426 f526 (⟨fa39, fa41, px, lx, tx, kx, fa42, fa43⟩ : own_Lat Z T26.heap x cs) gn_sb gn_t (by first | omega | (simp; done) | (simp; omega))) hZ w_81 w_61 (by decide) (by decide)) qa45 qc45 (g := (mkF m 11 #[sR g] [(.ref x), (.ref sb)])) rfl (by rw [hml]; rfl) (Steps.refl _) (argsL := [(.ref x)]) (rest := []) (lenOf own_pd28 rfl) rfl (Nat.le_of_eq rfl) (dB d43_11) (fun _ _ => ⟨rfl, e38, Nat.le_of_ble_eq_true rfl, Nat.le_of_ble_eq_true rfl⟩)
      dsimp only [Pt.U, Pt.locs, Pt.cells, Pt.slots] at X45 l45 y45 z45 st45 hQ45
      subst l45 y45 z45
      obtain ⟨rfl, Nq45, Kq45, f145, f245, f345, f445, f545⟩ := hQ45
      have N45 := Fr.app N26 Nq45
      have sf46 := D32.safe A21.lt sf_sb
      have lt47 := Nat.lt_of_lt_of_le A21.lt Kq26.1
      have D48 := CHr.keep Kq45 (sfS sf46 (sfS sf_t sf0)) C33.1
      have C49 := C33.trans D48
      have KK3 : Keep h0 T45.heap ([] : List Addr) := KK2.trans Kq45 (allS (Or.inr s0_sb) (allS (Or.inr s0_t) all0))
      have Zs3 : n0 ≤ T45.heap.size := Nat.le_trans Zs2 Kq45.1
      have e45 : T45.heap = T45.heap := rfl
      have cc51 : oS p e below S0' T45 (mkF m 14 #[sR g] [(.ref sb)]) := (Steps.trans cc40 st45)
      have fa50 : Exa Z T45.heap sb "java/lang/StringBuilder" := (fa34.keep Kq45)
      obtain ⟨q1, T52, h52, k52, tq1, kb52, X52, e52, E52, hS52, hk52, hZ52, hown52, Ex52, Fc52, Fv52, Ar52, lta52, ltb52, CH52, -, sfn52, st52⟩ := ldcCH X45 hx hZ hown w_124 (fun a ha => hw a ((by decide +kernel : ∀ a ∈ Bundle.stringAtoms, a ∈ tables_1) a ha)) e45 hS0 (Nat.le_trans (Nat.le_trans (Nat.le_trans hk0 K21.1) Kq26.1) Kq45.1) hEL (by decide +kernel) C49.1 (vs := [(.int (32 : Int32)), (.int (45 : Int32)), (.int (62 : Int32)), (.int (32 : Int32))]) (z := 4) (by decide +kernel) (by decide) (by decide) (g := (mkF m 14 #[sR g] [(.ref sb)])) rfl (dB d43_14) (n := 16) (by decide) (by decide) (by decide) (by decide)
      have K52 := (Keep.refl T45.heap ([] : List Addr)).ext E52
      have C52 := C49.trans CH52
      have KK4 : Keep h0 h52 ([] : List Addr) := KK3.trans K52 all0
      have Zs4 : n0 ≤ h52.size := Nat.le_trans Zs3 K52.1
      have sf53 := D48.safe lt47 sf46
      have lt54 := Nat.lt_of_lt_of_le lt47 Kq45.1
      have sf55 := CH52.safe lt54 sf53
      have lt56 := Nat.lt_of_lt_of_le lt54 K52.1
      have nl52_sb := sfn52 _ sf55
      have sf57 := D48.safe f526.lt sf_t
      have lt58 := Nat.lt_of_lt_of_le f526.lt Kq45.1
      have sf59 := CH52.safe lt58 sf57
      have lt60 := Nat.lt_of_lt_of_le lt58 K52.1
      have nl52_t := sfn52 _ sf59
      have cc62 : oS p e below S0' T52 (mkF m 16 #[sR g] [(.ref q1), (.ref sb)]) := (cc51.trans (st52 _ (Steps.refl _)))
      have fa61 : Exa Z h52 sb "java/lang/StringBuilder" := (fa50.keep K52)
      have fa63 : Fld Z h52 sb "java/lang/AbstractStringBuilder" "coder" "B" (.int (0 : Int32)) := (f145.keep K52 nin0)
      have fa64 : Fld Z h52 sb "java/lang/AbstractStringBuilder" "count" "I" (.int (Int32.ofNat (([] : List Int32) ++ cs).length)) := (f245.keep K52 nin0)
      have fa65 : Fld Z h52 sb "java/lang/AbstractStringBuilder" "value" "[B" (.ref t) := (f345.keep K52 nin0)
      have fa66 : Fld Z h52 sb "java/lang/AbstractStringBuilder" "maybeLatin1" "Z" (.int (0 : Int32)) := (f445.keep K52 nin0)
      have fa67 : Arv Z h52 t kt .byte (16 : Int32) (own_by (([] : List Int32) ++ cs)) (.int (0 : Int32)) := (f545.keep K52 nin0)
      have fa68 : Old Z n0 h52 := ((fa44.keep Kq45 (allS gn_sb (allS gn_t all0))).keep K52 all0)
      obtain ⟨cq69, kq69, qa69, qb69, qc69⟩ := isOf hZ52 e52 fa61
      obtain ⟨_, _, ⟨T69, L69, k69, n69⟩, -, X69, ⟨Lc69, hQ69, l69, y69, z69⟩, st69⟩ := X52.virtualBack hx (y := yM22) (z := yM22) hown52 (mvT hZ52 w_77) (mvT hZ52 w_78) (notFace_of_selects (args := #[]) (mvT hZ52 w_80)) (mvT hZ52 w_80) (mvT hZ52 w_79) (by decide) (backOf (W := 0) (own_app00 l Z a0 hw sb t kt (([] : List Int32) ++ cs) q1 ([32, 45, 62, 32] : List Int32) z f h52 n0 Zs4 fa68 O2 P5 O3 O4 hf fa61 fa63 fa64 fa65 fa66 fa67 (⟨Ex52, Fc52, by decide, by decide, tq1, _, Fv52, Ar52⟩ : own_Lat Z h52 q1 ([32, 45, 62, 32] : List Int32)) gn_sb gn_t (by first | omega | (simp; done) | (simp; omega))) hZ52 w_81 w_61 (by decide) (by decide)) qa69 qc69 (g := (mkF m 16 #[sR g] [(.ref q1), (.ref sb)])) rfl (by rw [hml]; rfl) (Steps.refl _) (argsL := [(.ref q1)]) (rest := []) (lenOf own_pd28 rfl) rfl (Nat.le_of_eq rfl) (dB d43_16) (fun _ _ => ⟨rfl, e52, Nat.le_of_ble_eq_true rfl, Nat.le_of_ble_eq_true rfl⟩)
      dsimp only [Pt.U, Pt.locs, Pt.cells, Pt.slots] at X69 l69 y69 z69 st69 hQ69
      subst l69 y69 z69
      obtain ⟨rfl, Nq69, Kq69, f169, f269, f369, f469, f569⟩ := hQ69
      have N69 := Fr.app N45 Nq69
      have D70 := CHr.keep Kq69 (sfS sf55 (sfS sf59 sf0)) C52.1
      have C71 := C52.trans D70
      have KK5 : Keep h0 T69.heap ([] : List Addr) := KK4.trans Kq69 (allS (Or.inr s0_sb) (allS (Or.inr s0_t) all0))
      have Zs5 : n0 ≤ T69.heap.size := Nat.le_trans Zs4 Kq69.1
      have e69 : T69.heap = T69.heap := rfl
      have cc73 : oS p e below S0' T69 (mkF m 19 #[sR g] [(.ref sb)]) := (Steps.trans cc62 st69)
      have fa72 : Exa Z T69.heap sb "java/lang/StringBuilder" := (fa61.keep Kq69)
      have cc75 : oS p e below S0' T69 (mkF m 20 #[sR g] [(.ref g), (.ref sb)]) := Steps.trans cc73 (by
        refine XS.aloadN X69.here hx rfl (dB d43_19) rfl rfl ?_
        exact Steps.refl _)
      have fa74 : Fld Z T69.heap g "com/example/chronoforge/chronoforge/design/Precedence" "to" "Ljava/lang/String;" (.ref y) := (((((F2.keep K21 nin0).keep Kq26 (ninS ne_g_sb nin0)).keep Kq45 (ninS ne_g_sb (ninS ne_g_t nin0))).keep K52 nin0).keep Kq69 (ninS ne_g_sb (ninS ne_g_t nin0)))
      obtain ⟨T76, X76, e76, st76⟩ := getF X69 hx hZ52 hown52 (host := "") (Or.inl w_52) Via.refl e69 fa74 (g := (mkF m 20 #[sR g] [(.ref g), (.ref sb)])) rfl rfl (dB d43_20)
      have hpb : ∀ c' ∈ ((([] : List Int32) ++ cs) ++ ([32, 45, 62, 32] : List Int32)), ¬ c' < 0 ∧ ¬ (255 : Int32) < c' := by
        intro c' hc'
        simp only [List.mem_append, List.mem_cons, List.not_mem_nil, or_false, false_or] at hc'
        rcases hc' with q | rfl | rfl | rfl | rfl <;> first | exact px _ q | decide
      have cc78 : oS p e below S0' T76 (mkF m 23 #[sR g] [(.ref y), (.ref sb)]) := (cc75.trans (st76 _ (Steps.refl _)))
      have fa77 : Exa Z T69.heap y "java/lang/String" := ((((fa30.keep Kq26).keep Kq45).keep K52).keep Kq69)
      have fa79 : Fld Z T69.heap y "java/lang/String" "coder" "B" (.int (1 : Int32)) := (((((Cy.keep K21 nin0).keep Kq26 (ninS ne_y_sb nin0)).keep Kq45 (ninS ne_y_sb (ninS ne_y_t nin0))).keep K52 nin0).keep Kq69 (ninS ne_y_sb (ninS ne_y_t nin0)))
      have fa80 : Fld Z T69.heap y "java/lang/String" "value" "[B" (.ref ty) := (((((Vy.keep K21 nin0).keep Kq26 (ninS ne_y_sb nin0)).keep Kq45 (ninS ne_y_sb (ninS ne_y_t nin0))).keep K52 nin0).keep Kq69 (ninS ne_y_sb (ninS ne_y_t nin0)))
      have fa81 : Arv Z T69.heap ty ky .byte (Int32.ofNat (2 * ds.length)) (StrChars.Road.wideBytes ds) (.int (0 : Int32)) := ((((fa31.keep Kq26 (ninS ne_ty_sb nin0)).keep Kq45 (ninS ne_ty_sb (ninS ne_ty_t nin0))).keep K52 nin0).keep Kq69 (ninS ne_ty_sb (ninS ne_ty_t nin0)))
      have fa82 : Old Z n0 T69.heap := (fa68.keep Kq69 (allS gn_sb (allS gn_t all0)))
      obtain ⟨cq83, kq83, qa83, qb83, qc83⟩ := isOf hZ52 e76 fa72
      obtain ⟨_, _, ⟨T83, L83, k83, n83⟩, -, X83, ⟨Lc83, hQ83, l83, y83, z83⟩, st83⟩ := X76.virtualBack hx (y := yM22) (z := yM22) hown52 (mvT hZ52 w_77) (mvT hZ52 w_78) (notFace_of_selects (args := #[]) (mvT hZ52 w_80)) (mvT hZ52 w_80) (mvT hZ52 w_79) (by decide) (backOf (W := 0) (own_app01 l Z a0 hw sb t kt ((([] : List Int32) ++ cs) ++ ([32, 45, 62, 32] : List Int32)) y ds z f T69.heap n0 Zs5 fa82 O2 P5 O3 O4 hf fa72 f169 f269 f369 f469 f569 (⟨fa77, fa79, py, ly, wy, ty, ky, fa80, fa81⟩ : own_Wid Z T69.heap y ds) gn_sb gn_t (by first | omega | (simp; done) | (simp; omega)) hpb (by first | omega | (simp; done) | (simp; omega))) hZ52 w_81 w_61 (by decide) (by decide)) qa83 qc83 (g := (mkF m 23 #[sR g] [(.ref y), (.ref sb)])) rfl (by rw [hml]; rfl) (Steps.refl _) (argsL := [(.ref y)]) (rest := []) (lenOf own_pd28 rfl) rfl (Nat.le_of_eq rfl) (dB d43_23) (fun _ _ => ⟨rfl, e76, Nat.le_of_ble_eq_true rfl, Nat.le_of_ble_eq_true rfl⟩)
      dsimp only [Pt.U, Pt.locs, Pt.cells, Pt.slots] at X83 l83 y83 z83 st83 hQ83
      subst l83 y83 z83
      obtain ⟨t2, kt2, rfl, Nq83, Kq83, sq83, f183, f283, f383, f483, f583⟩ := hQ83
      have N83 := Fr.app N69 Nq83
      have b_t2 : T69.heap.size ≤ t2 := sq83
      have gn_t2 : n0 ≤ t2 := Nat.le_trans Zs5 b_t2
      have s0_t2 : h0.size ≤ t2 := Nat.le_trans KK5.1 b_t2
      have fa84 : Fld Z T69.heap g "com/example/chronoforge/chronoforge/design/Precedence" "from" "Ljava/lang/String;" (.ref x) := (((fa36.keep Kq45 (ninS ne_g_sb (ninS ne_g_t nin0))).keep K52 nin0).keep Kq69 (ninS ne_g_sb (ninS ne_g_t nin0)))
      have ne_g_t2 : g ≠ t2 := Nat.ne_of_lt (Nat.lt_of_lt_of_le fa84.lt b_t2)
      have fa85 : Exa Z T69.heap x "java/lang/String" := (((fa39.keep Kq45).keep K52).keep Kq69)
      have ne_x_t2 : x ≠ t2 := Nat.ne_of_lt (Nat.lt_of_lt_of_le fa85.lt b_t2)
      have fa86 : Arv Z T69.heap tx kx .byte (Int32.ofNat cs.length) (own_by cs) (.int (0 : Int32)) := (((fa43.keep Kq45 (ninS ne_tx_sb (ninS ne_tx_t nin0))).keep K52 nin0).keep Kq69 (ninS ne_tx_sb (ninS ne_tx_t nin0)))
      have ne_tx_t2 : tx ≠ t2 := Nat.ne_of_lt (Nat.lt_of_lt_of_le fa86.lt b_t2)
      have ne_y_t2 : y ≠ t2 := Nat.ne_of_lt (Nat.lt_of_lt_of_le fa77.lt b_t2)
      have ne_ty_t2 : ty ≠ t2 := Nat.ne_of_lt (Nat.lt_of_lt_of_le fa81.lt b_t2)
      have ne_sb_t2 : sb ≠ t2 := Nat.ne_of_lt (Nat.lt_of_lt_of_le fa72.lt b_t2)
      have ne_t_t2 : t ≠ t2 := Nat.ne_of_lt (Nat.lt_of_lt_of_le f569.lt b_t2)
      have fa87 : Exa Z T69.heap q1 "java/lang/String" := (Ex52.keep Kq69)
      have ne_q1_t2 : q1 ≠ t2 := Nat.ne_of_lt (Nat.lt_of_lt_of_le fa87.lt b_t2)
      have fa88 : Arv Z T69.heap tq1 kb52 .byte (4 : Int32) ([(.int (32 : Int32)), (.int (45 : Int32)), (.int (62 : Int32)), (.int (32 : Int32))]) (.int (0 : Int32)) := (Ar52.keep Kq69 (ninS (Ne.symm nl52_sb.2) (ninS (Ne.symm nl52_t.2) nin0)))
      have ne_tq1_t2 : tq1 ≠ t2 := Nat.ne_of_lt (Nat.lt_of_lt_of_le fa88.lt b_t2)
      have sf89 := D70.safe lt56 sf55
      have lt90 := Nat.lt_of_lt_of_le lt56 Kq69.1
      have D91 := CHr.keep Kq83 (sfS sf89 sf0) C71.1
      have C92 := C71.trans D91
      have sf_t2 := Safe.keep Kq83 (sfS sf89 sf0) C71.1 (Safe.new b_t2)
      have KK6 : Keep h0 T83.heap ([] : List Addr) := KK5.trans Kq83 (allS (Or.inr s0_sb) all0)
      have Zs6 : n0 ≤ T83.heap.size := Nat.le_trans Zs5 Kq83.1
      have e83 : T83.heap = T83.heap := rfl
      have cc94 : oS p e below S0' T83 (mkF m 26 #[sR g] [(.ref sb)]) := (Steps.trans cc78 st83)
      have fa93 : Exa Z T83.heap sb "java/lang/StringBuilder" := (fa72.keep Kq83)
      have hpe : ∀ c' ∈ (((([] : List Int32) ++ cs) ++ ([32, 45, 62, 32] : List Int32)) ++ ds), ¬ c' < 0 ∧ ¬ (65535 : Int32) < c' := by
        intro c' hc'
        simp only [List.mem_append, List.mem_cons, List.not_mem_nil, or_false, false_or] at hc'
        rcases hc' with (q | rfl | rfl | rfl | rfl) | q
        · exact own_up _ px _ q
        · decide
        · decide
        · decide
        · decide
        · exact py _ q
      have hw1 : ∃ c ∈ (((([] : List Int32) ++ cs) ++ ([32, 45, 62, 32] : List Int32)) ++ ds), (255 : Int32) < c := by
        obtain ⟨c', q1', q2'⟩ := wy
        exact ⟨c', by simp [q1'], q2'⟩
      have fa95 : Old Z n0 T83.heap := (fa82.keep Kq83 (allS gn_sb all0))
      obtain ⟨cq96, kq96, qa96, qb96, qc96⟩ := isOf hZ52 e83 fa93
      obtain ⟨_, _, ⟨T96, L96, k96, n96⟩, -, X96, ⟨Lc96, hQ96, l96, y96, z96⟩, st96⟩ := X83.virtualBack hx (y := yM32) (z := yM32) hown52 (mvT hZ52 w_125) (mvT hZ52 w_126) (notFace_of_selects (args := #[]) (mvT hZ52 w_128)) (mvT hZ52 w_128) (mvT hZ52 w_127) (by decide) (backOf (W := 0) (own_tos1 l Z a0 hw sb t2 kt2 (((([] : List Int32) ++ cs) ++ ([32, 45, 62, 32] : List Int32)) ++ ds) z T83.heap n0 Zs6 fa95 O2 P5 fa93 f183 f283 f383 f483 f583 hpe (by first | omega | (simp; done) | (simp; omega)) hw1) hZ52 w_129 w_61 (by decide) (by decide)) qa96 qc96 (g := (mkF m 26 #[sR g] [(.ref sb)])) rfl (by rw [hml]; rfl) (Steps.refl _) (argsL := []) (rest := []) (lenOf own_pd29 rfl) rfl (Nat.le_of_eq rfl) (dB d43_26) (fun _ _ => ⟨rfl, e83, Nat.le_of_ble_eq_true rfl, Nat.le_of_ble_eq_true rfl⟩)
      dsimp only [Pt.U, Pt.locs, Pt.cells, Pt.slots] at X96 l96 y96 z96 st96 hQ96
      subst l96 y96 z96
      obtain ⟨s1, rfl, Nq96, Kq96, sq96, Hq96⟩ := hQ96
      have N96 := Fr.app N83 Nq96
      have D97 := CHr.keep Kq96 sf0 C92.1
      have C98 := C92.trans D97
      have KK7 : Keep h0 T96.heap ([] : List Addr) := KK6.trans Kq96 all0
      have Zs7 : n0 ≤ T96.heap.size := Nat.le_trans Zs6 Kq96.1
      have e96 : T96.heap = T96.heap := rfl
      have eR : (((([] : List Int32) ++ cs) ++ ([32, 45, 62, 32] : List Int32)) ++ ds) = (cs ++ (32 :: 45 :: 62 :: 32 :: ds)) := by simp
      have cc99 : oS p e below S0' T96 (mkF m 29 #[sR g] [(.ref s1)]) := (Steps.trans cc94 st96)
      have cE := cc99
      rw [hS0'] at cE
      obtain ⟨fs, hr_, hrun, hended, hE⟩ := X96.leaveW hS52 (by rw [e96]; exact (Nat.le_trans (Nat.le_trans (Nat.le_trans hk52 Kq69.1) Kq83.1) Kq96.1)) (v := some (.ref s1)) (fun h => by rw [Bd.returns] at h; cases h)
      have CE := C98.trans (CHv.at X96 hZ52 hEL C98.1)
      refine ⟨_, _, cE.trans (X96.areturnOut hx (rfl) Bd.returns rfl (dB d43_29) hr_), hrun, hended, _, _, rfl, ?_, ?_, hE.1, hE.2.1, hE.2.2.1, hE.2.2.2.mono (by first | decide | omega) (by first | decide | omega)⟩
      · show Q_own_pts Z g x y cs ds z f h0 n0 _ T96.heap _
        rw [e96]
        exact ⟨s1, rfl, N96, KK7, own_ofWid (eR ▸ Hq96)⟩
      · rw [hh]
        show CHr Z EL s.vm h0 T96.vm T96.heap
        rw [e96]
        exact CE
  · skip
    obtain ⟨Ex, Cx, px, lx, wx, tx, kx, Vx, Ax⟩ := Hx
    rcases own_split Hy with Hy | Hy
    · skip
      obtain ⟨Ey, Cy, py, ly, ty, ky, Vy, Ay⟩ := Hy
      obtain ⟨T21, h21, X21, e21, E21, A21, D21, -, st21⟩ := newO X0 hx hZ hown w_59 w_60 w_61 e0 (g := (mkF m 0 #[sR g] [])) rfl (dB d43_0) (by decide) (by decide)
      obtain ⟨sb, g_sb⟩ : ∃ z, z = h0.size := ⟨_, rfl⟩
      rw [← g_sb] at A21 D21 st21
      have K21 := (Keep.refl h0 ([] : List Addr)).ext E21
      have b_sb : h0.size ≤ sb := (Nat.le_of_eq g_sb.symm)
      have gn_sb : n0 ≤ sb := Nat.le_trans Z0 b_sb
      have s0_sb : h0.size ≤ sb := Nat.le_trans KK0.1 b_sb
      have ne_g_sb : g ≠ sb := Nat.ne_of_lt (Nat.lt_of_lt_of_le F1.lt b_sb)
      have ne_x_sb : x ≠ sb := Nat.ne_of_lt (Nat.lt_of_lt_of_le Ex.lt b_sb)
      have ne_tx_sb : tx ≠ sb := Nat.ne_of_lt (Nat.lt_of_lt_of_le Ax.lt b_sb)
      have ne_y_sb : y ≠ sb := Nat.ne_of_lt (Nat.lt_of_lt_of_le Ey.lt b_sb)
      have ne_ty_sb : ty ≠ sb := Nat.ne_of_lt (Nat.lt_of_lt_of_le Ay.lt b_sb)
      have D22 := CHr.ext E21 C0.1
      have C23 := C0.trans D22
      have sf_sb : Safe Z EL s.vm h21 sb := Safe.ext E21 C0.1 (Safe.new b_sb)
      have KK1 : Keep h0 h21 ([] : List Addr) := KK0.trans K21 all0
      have Zs1 : n0 ≤ h21.size := Nat.le_trans Z0 K21.1
      have F_value_sb : Fld Z h21 sb "java/lang/AbstractStringBuilder" "value" "[B" .null := D21 (Or.inl w_74) (ty := (.array .byte)) (by decide)
      have F_coder_sb : Fld Z h21 sb "java/lang/AbstractStringBuilder" "coder" "B" (.int (0 : Int32)) := D21 (Or.inl w_76) (ty := .byte) (by decide)
      have F_count_sb : Fld Z h21 sb "java/lang/AbstractStringBuilder" "count" "I" (.int (0 : Int32)) := D21 (Or.inl w_98) (ty := .int) (by decide)
      have F_maybeLatin1_sb : Fld Z h21 sb "java/lang/AbstractStringBuilder" "maybeLatin1" "Z" (.int (0 : Int32)) := D21 (Or.inl w_239) (ty := .boolean) (by decide)
      have cc25 : oS p e below S0' T21 (mkF m 4 #[sR g] [(.ref sb), (.ref sb)]) := Steps.trans (cc0.trans (st21 _ (Steps.refl _))) (by
        refine XS.dup X21.here hx rfl (dB d43_3) rfl rfl ?_
        exact Steps.refl _)
      have fa24 : Old Z n0 h21 := (X00.keep K21 all0)
      obtain ⟨_, _, ⟨T26, L26, k26, n26⟩, -, X26, ⟨Lc26, hQ26, l26, y26, z26⟩, st26⟩ := X21.specialBack hx (y := yM5) rfl hown (mvT hZ w_62) (mvT hZ w_63) (mvT hZ w_64) (by decide) (backOf (W := 1) (own_sb0 l Z a0 hw sb z h21 n0 Zs1 fa24 O2 P5 A21 F_coder_sb F_count_sb F_value_sb F_maybeLatin1_sb gn_sb) hZ w_64 w_61 (by decide) (by decide)) (g := (mkF m 4 #[sR g] [(.ref sb), (.ref sb)])) rfl (by rw [hml]; rfl) (Steps.refl _) (a := sb) (argsL := []) (rest := [(.ref sb)]) (lenOf own_pd12 rfl) rfl (Nat.le_of_eq rfl) (dB d43_4) (fun _ _ => ⟨rfl, e21, Nat.le_of_ble_eq_true rfl, Nat.le_of_ble_eq_true rfl⟩)
      dsimp only [Pt.U, Pt.locs, Pt.cells, Pt.slots] at X26 l26 y26 z26 st26 hQ26
      subst l26 y26 z26
      obtain ⟨t, kt, rfl, Nq26, Kq26, s0q26, f126, f226, f326, f426, f526⟩ := hQ26
      have N26 := Fr.app N0 Nq26
      have b_t : h21.size ≤ t := s0q26
      have gn_t : n0 ≤ t := Nat.le_trans Zs1 b_t
      have s0_t : h0.size ≤ t := Nat.le_trans KK1.1 b_t
      have fa27 : Fld Z h21 g "com/example/chronoforge/chronoforge/design/Precedence" "from" "Ljava/lang/String;" (.ref x) := (F1.keep K21 nin0)
      have ne_g_t : g ≠ t := Nat.ne_of_lt (Nat.lt_of_lt_of_le fa27.lt b_t)
      have fa28 : Exa Z h21 x "java/lang/String" := (Ex.keep K21)
      have ne_x_t : x ≠ t := Nat.ne_of_lt (Nat.lt_of_lt_of_le fa28.lt b_t)
      have fa29 : Arv Z h21 tx kx .byte (Int32.ofNat (2 * cs.length)) (StrChars.Road.wideBytes cs) (.int (0 : Int32)) := (Ax.keep K21 nin0)
      have ne_tx_t : tx ≠ t := Nat.ne_of_lt (Nat.lt_of_lt_of_le fa29.lt b_t)
      have fa30 : Exa Z h21 y "java/lang/String" := (Ey.keep K21)
      have ne_y_t : y ≠ t := Nat.ne_of_lt (Nat.lt_of_lt_of_le fa30.lt b_t)
      have fa31 : Arv Z h21 ty ky .byte (Int32.ofNat ds.length) (own_by ds) (.int (0 : Int32)) := (Ay.keep K21 nin0)
      have ne_ty_t : ty ≠ t := Nat.ne_of_lt (Nat.lt_of_lt_of_le fa31.lt b_t)
      have ne_sb_t : sb ≠ t := Nat.ne_of_lt (Nat.lt_of_lt_of_le A21.lt b_t)
      have D32 := CHr.keep Kq26 (sfS sf_sb sf0) C23.1
      have C33 := C23.trans D32
      have sf_t := Safe.keep Kq26 (sfS sf_sb sf0) C23.1 (Safe.new b_t)
      have KK2 : Keep h0 T26.heap ([] : List Addr) := KK1.trans Kq26 (allS (Or.inr s0_sb) all0)
      have Zs2 : n0 ≤ T26.heap.size := Nat.le_trans Zs1 Kq26.1
      have e26 : T26.heap = T26.heap := rfl
      have cc35 : oS p e below S0' T26 (mkF m 7 #[sR g] [(.ref sb)]) := (Steps.trans cc25 st26)
      have fa34 : Exa Z T26.heap sb "java/lang/StringBuilder" := (A21.keep Kq26)
      have cc37 : oS p e below S0' T26 (mkF m 8 #[sR g] [(.ref g), (.ref sb)]) := Steps.trans cc35 (by
        refine XS.aloadN X26.here hx rfl (dB d43_7) rfl rfl ?_
        exact Steps.refl _)
      have fa36 : Fld Z T26.heap g "com/example/chronoforge/chronoforge/design/Precedence" "from" "Ljava/lang/String;" (.ref x) := (fa27.keep Kq26 (ninS ne_g_sb nin0))
      obtain ⟨T38, X38, e38, st38⟩ := getF X26 hx hZ hown (host := "") (Or.inl w_50) Via.refl e26 fa36 (g := (mkF m 8 #[sR g] [(.ref g), (.ref sb)])) rfl rfl (dB d43_8)
      have cc40 : oS p e below S0' T38 (mkF m 11 #[sR g] [(.ref x), (.ref sb)]) := (cc37.trans (st38 _ (Steps.refl _)))
      have fa39 : Exa Z T26.heap x "java/lang/String" := (fa28.keep Kq26)
      have fa41 : Fld Z T26.heap x "java/lang/String" "coder" "B" (.int (1 : Int32)) := ((Cx.keep K21 nin0).keep Kq26 (ninS ne_x_sb nin0))
      have fa42 : Fld Z T26.heap x "java/lang/String" "value" "[B" (.ref tx) := ((Vx.keep K21 nin0).keep Kq26 (ninS ne_x_sb nin0))
      have fa43 : Arv Z T26.heap tx kx .byte (Int32.ofNat (2 * cs.length)) (StrChars.Road.wideBytes cs) (.int (0 : Int32)) := (fa29.keep Kq26 (ninS ne_tx_sb nin0))
      have fa44 : Old Z n0 T26.heap := (fa24.keep Kq26 (allS gn_sb all0))
      obtain ⟨cq45, kq45, qa45, qb45, qc45⟩ := isOf hZ e38 fa34
      obtain ⟨_, _, ⟨T45, L45, k45, n45⟩, -, X45, ⟨Lc45, hQ45, l45, y45, z45⟩, st45⟩ := X38.virtualBack hx (y := yM22) (z := yM22) hown (mvT hZ w_77) (mvT hZ w_78) (notFace_of_selects (args := #[]) (mvT hZ w_80)) (mvT hZ w_80) (mvT hZ w_79) (by decide) (backOf (W := 0) (own_app01 l Z a0 hw sb t kt ([] : List Int32) x cs z f T26.heap n0 Zs2 fa44 O2 P5 O3 O4 hf fa34 f126 f226 f326 f426 f526 (⟨fa39, fa41, px, lx, wx, tx, kx, fa42, fa43⟩ : own_Wid Z T26.heap x cs) gn_sb gn_t (by first | omega | (simp; done) | (simp; omega)) (fun c hc => by cases hc) (by first | omega | (simp; done) | (simp; omega))) hZ w_81 w_61 (by decide) (by decide)) qa45 qc45 (g := (mkF m 11 #[sR g] [(.ref x), (.ref sb)])) rfl (by rw [hml]; rfl) (Steps.refl _) (argsL := [(.ref x)]) (rest := []) (lenOf own_pd28 rfl) rfl (Nat.le_of_eq rfl) (dB d43_11) (fun _ _ => ⟨rfl, e38, Nat.le_of_ble_eq_true rfl, Nat.le_of_ble_eq_true rfl⟩)
      dsimp only [Pt.U, Pt.locs, Pt.cells, Pt.slots] at X45 l45 y45 z45 st45 hQ45
      subst l45 y45 z45
      obtain ⟨t2, kt2, rfl, Nq45, Kq45, sq45, f145, f245, f345, f445, f545⟩ := hQ45
      have N45 := Fr.app N26 Nq45
      have b_t2 : T26.heap.size ≤ t2 := sq45
      have gn_t2 : n0 ≤ t2 := Nat.le_trans Zs2 b_t2
      have s0_t2 : h0.size ≤ t2 := Nat.le_trans KK2.1 b_t2
      have ne_g_t2 : g ≠ t2 := Nat.ne_of_lt (Nat.lt_of_lt_of_le fa36.lt b_t2)
      have ne_x_t2 : x ≠ t2 := Nat.ne_of_lt (Nat.lt_of_lt_of_le fa39.lt b_t2)
      have ne_tx_t2 : tx ≠ t2 := Nat.ne_of_lt (Nat.lt_of_lt_of_le fa43.lt b_t2)
      have fa46 : Exa Z T26.heap y "java/lang/String" := (fa30.keep Kq26)
      have ne_y_t2 : y ≠ t2 := Nat.ne_of_lt (Nat.lt_of_lt_of_le fa46.lt b_t2)
      have fa47 : Arv Z T26.heap ty ky .byte (Int32.ofNat ds.length) (own_by ds) (.int (0 : Int32)) := (fa31.keep Kq26 (ninS ne_ty_sb nin0))
      have ne_ty_t2 : ty ≠ t2 := Nat.ne_of_lt (Nat.lt_of_lt_of_le fa47.lt b_t2)
      have ne_sb_t2 : sb ≠ t2 := Nat.ne_of_lt (Nat.lt_of_lt_of_le fa34.lt b_t2)
      have ne_t_t2 : t ≠ t2 := Nat.ne_of_lt (Nat.lt_of_lt_of_le f526.lt b_t2)
      have sf48 := D32.safe A21.lt sf_sb
      have lt49 := Nat.lt_of_lt_of_le A21.lt Kq26.1
      have D50 := CHr.keep Kq45 (sfS sf48 sf0) C33.1
      have C51 := C33.trans D50
      have sf_t2 := Safe.keep Kq45 (sfS sf48 sf0) C33.1 (Safe.new b_t2)
      have KK3 : Keep h0 T45.heap ([] : List Addr) := KK2.trans Kq45 (allS (Or.inr s0_sb) all0)
      have Zs3 : n0 ≤ T45.heap.size := Nat.le_trans Zs2 Kq45.1
      have e45 : T45.heap = T45.heap := rfl
      have cc53 : oS p e below S0' T45 (mkF m 14 #[sR g] [(.ref sb)]) := (Steps.trans cc40 st45)
      have fa52 : Exa Z T45.heap sb "java/lang/StringBuilder" := (fa34.keep Kq45)
      obtain ⟨q1, T54, h54, k54, tq1, kb54, X54, e54, E54, hS54, hk54, hZ54, hown54, Ex54, Fc54, Fv54, Ar54, lta54, ltb54, CH54, -, sfn54, st54⟩ := ldcCH X45 hx hZ hown w_124 (fun a ha => hw a ((by decide +kernel : ∀ a ∈ Bundle.stringAtoms, a ∈ tables_1) a ha)) e45 hS0 (Nat.le_trans (Nat.le_trans (Nat.le_trans hk0 K21.1) Kq26.1) Kq45.1) hEL (by decide +kernel) C51.1 (vs := [(.int (32 : Int32)), (.int (45 : Int32)), (.int (62 : Int32)), (.int (32 : Int32))]) (z := 4) (by decide +kernel) (by decide) (by decide) (g := (mkF m 14 #[sR g] [(.ref sb)])) rfl (dB d43_14) (n := 16) (by decide) (by decide) (by decide) (by decide)
      have K54 := (Keep.refl T45.heap ([] : List Addr)).ext E54
      have C54 := C51.trans CH54
      have KK4 : Keep h0 h54 ([] : List Addr) := KK3.trans K54 all0
      have Zs4 : n0 ≤ h54.size := Nat.le_trans Zs3 K54.1
      have sf55 := D50.safe lt49 sf48
      have lt56 := Nat.lt_of_lt_of_le lt49 Kq45.1
      have sf57 := CH54.safe lt56 sf55
      have lt58 := Nat.lt_of_lt_of_le lt56 K54.1
      have nl54_sb := sfn54 _ sf57
      have sf59 := D50.safe f526.lt sf_t
      have lt60 := Nat.lt_of_lt_of_le f526.lt Kq45.1
      have sf61 := CH54.safe lt60 sf59
      have lt62 := Nat.lt_of_lt_of_le lt60 K54.1
      have nl54_t := sfn54 _ sf61
      have sf63 := CH54.safe f545.lt sf_t2
      have lt64 := Nat.lt_of_lt_of_le f545.lt K54.1
      have nl54_t2 := sfn54 _ sf63
      have cc66 : oS p e below S0' T54 (mkF m 16 #[sR g] [(.ref q1), (.ref sb)]) := (cc53.trans (st54 _ (Steps.refl _)))
      have fa65 : Exa Z h54 sb "java/lang/StringBuilder" := (fa52.keep K54)
      have fa67 : Fld Z h54 sb "java/lang/AbstractStringBuilder" "coder" "B" (.int (1 : Int32)) := (f145.keep K54 nin0)
      have fa68 : Fld Z h54 sb "java/lang/AbstractStringBuilder" "count" "I" (.int (Int32.ofNat (([] : List Int32) ++ cs).length)) := (f245.keep K54 nin0)
      have fa69 : Fld Z h54 sb "java/lang/AbstractStringBuilder" "value" "[B" (.ref t2) := (f345.keep K54 nin0)
      have fa70 : Fld Z h54 sb "java/lang/AbstractStringBuilder" "maybeLatin1" "Z" (.int (0 : Int32)) := (f445.keep K54 nin0)
      have fa71 : Arv Z h54 t2 kt2 .byte (32 : Int32) (StrChars.Road.wideBytes (([] : List Int32) ++ cs)) (.int (0 : Int32)) := (f545.keep K54 nin0)
      have fa72 : Old Z n0 h54 := ((fa44.keep Kq45 (allS gn_sb all0)).keep K54 all0)
      obtain ⟨cq73, kq73, qa73, qb73, qc73⟩ := isOf hZ54 e54 fa65
      obtain ⟨_, _, ⟨T73, L73, k73, n73⟩, -, X73, ⟨Lc73, hQ73, l73, y73, z73⟩, st73⟩ := X54.virtualBack hx (y := yM22) (z := yM22) hown54 (mvT hZ54 w_77) (mvT hZ54 w_78) (notFace_of_selects (args := #[]) (mvT hZ54 w_80)) (mvT hZ54 w_80) (mvT hZ54 w_79) (by decide) (backOf (W := 0) (own_app10 l Z a0 hw sb t2 kt2 (([] : List Int32) ++ cs) q1 ([32, 45, 62, 32] : List Int32) z f h54 n0 Zs4 fa72 O2 P5 O3 O4 hf fa65 fa67 fa68 fa69 fa70 fa71 (⟨Ex54, Fc54, by decide, by decide, tq1, _, Fv54, Ar54⟩ : own_Lat Z h54 q1 ([32, 45, 62, 32] : List Int32)) gn_sb gn_t2 (by first | omega | (simp; done) | (simp; omega)) (by first | omega | (simp; done) | (simp; omega)) (fun t1 q => by rw [Value.ref.inj (own_fld_inj q Fv54)]; exact (Ne.symm nl54_t2.2))) hZ54 w_81 w_61 (by decide) (by decide)) qa73 qc73 (g := (mkF m 16 #[sR g] [(.ref q1), (.ref sb)])) rfl (by rw [hml]; rfl) (Steps.refl _) (argsL := [(.ref q1)]) (rest := []) (lenOf own_pd28 rfl) rfl (Nat.le_of_eq rfl) (dB d43_16) (fun _ _ => ⟨rfl, e54, Nat.le_of_ble_eq_true rfl, Nat.le_of_ble_eq_true rfl⟩)
      dsimp only [Pt.U, Pt.locs, Pt.cells, Pt.slots] at X73 l73 y73 z73 st73 hQ73
      subst l73 y73 z73
      obtain ⟨rfl, Nq73, Kq73, f173, f273, f373, f473, f573⟩ := hQ73
      have N73 := Fr.app N45 Nq73
      have D74 := CHr.keep Kq73 (sfS sf57 (sfS sf63 sf0)) C54.1
      have C75 := C54.trans D74
      have KK5 : Keep h0 T73.heap ([] : List Addr) := KK4.trans Kq73 (allS (Or.inr s0_sb) (allS (Or.inr s0_t2) all0))
      have Zs5 : n0 ≤ T73.heap.size := Nat.le_trans Zs4 Kq73.1
      have e73 : T73.heap = T73.heap := rfl
      have cc77 : oS p e below S0' T73 (mkF m 19 #[sR g] [(.ref sb)]) := (Steps.trans cc66 st73)
      have fa76 : Exa Z T73.heap sb "java/lang/StringBuilder" := (fa65.keep Kq73)
      have cc79 : oS p e below S0' T73 (mkF m 20 #[sR g] [(.ref g), (.ref sb)]) := Steps.trans cc77 (by
        refine XS.aloadN X73.here hx rfl (dB d43_19) rfl rfl ?_
        exact Steps.refl _)
      have fa78 : Fld Z T73.heap g "com/example/chronoforge/chronoforge/design/Precedence" "to" "Ljava/lang/String;" (.ref y) := (((((F2.keep K21 nin0).keep Kq26 (ninS ne_g_sb nin0)).keep Kq45 (ninS ne_g_sb nin0)).keep K54 nin0).keep Kq73 (ninS ne_g_sb (ninS ne_g_t2 nin0)))
      obtain ⟨T80, X80, e80, st80⟩ := getF X73 hx hZ54 hown54 (host := "") (Or.inl w_52) Via.refl e73 fa78 (g := (mkF m 20 #[sR g] [(.ref g), (.ref sb)])) rfl rfl (dB d43_20)
      have cc82 : oS p e below S0' T80 (mkF m 23 #[sR g] [(.ref y), (.ref sb)]) := (cc79.trans (st80 _ (Steps.refl _)))
      have fa81 : Exa Z T73.heap y "java/lang/String" := (((fa46.keep Kq45).keep K54).keep Kq73)
      have fa83 : Fld Z T73.heap y "java/lang/String" "coder" "B" (.int (0 : Int32)) := (((((Cy.keep K21 nin0).keep Kq26 (ninS ne_y_sb nin0)).keep Kq45 (ninS ne_y_sb nin0)).keep K54 nin0).keep Kq73 (ninS ne_y_sb (ninS ne_y_t2 nin0)))
      have fa84 : Fld Z T73.heap y "java/lang/String" "value" "[B" (.ref ty) := (((((Vy.keep K21 nin0).keep Kq26 (ninS ne_y_sb nin0)).keep Kq45 (ninS ne_y_sb nin0)).keep K54 nin0).keep Kq73 (ninS ne_y_sb (ninS ne_y_t2 nin0)))
      have fa85 : Arv Z T73.heap ty ky .byte (Int32.ofNat ds.length) (own_by ds) (.int (0 : Int32)) := (((fa47.keep Kq45 (ninS ne_ty_sb nin0)).keep K54 nin0).keep Kq73 (ninS ne_ty_sb (ninS ne_ty_t2 nin0)))
      have fa86 : Old Z n0 T73.heap := (fa72.keep Kq73 (allS gn_sb (allS gn_t2 all0)))
      obtain ⟨cq87, kq87, qa87, qb87, qc87⟩ := isOf hZ54 e80 fa76
      obtain ⟨_, _, ⟨T87, L87, k87, n87⟩, -, X87, ⟨Lc87, hQ87, l87, y87, z87⟩, st87⟩ := X80.virtualBack hx (y := yM22) (z := yM22) hown54 (mvT hZ54 w_77) (mvT hZ54 w_78) (notFace_of_selects (args := #[]) (mvT hZ54 w_80)) (mvT hZ54 w_80) (mvT hZ54 w_79) (by decide) (backOf (W := 0) (own_app10 l Z a0 hw sb t2 kt2 ((([] : List Int32) ++ cs) ++ ([32, 45, 62, 32] : List Int32)) y ds z f T73.heap n0 Zs5 fa86 O2 P5 O3 O4 hf fa76 f173 f273 f373 f473 f573 (⟨fa81, fa83, py, ly, ty, ky, fa84, fa85⟩ : own_Lat Z T73.heap y ds) gn_sb gn_t2 (by first | omega | (simp; done) | (simp; omega)) (by first | omega | (simp; done) | (simp; omega)) (fun t1 q => by rw [Value.ref.inj (own_fld_inj q fa84)]; exact ne_ty_t2)) hZ54 w_81 w_61 (by decide) (by decide)) qa87 qc87 (g := (mkF m 23 #[sR g] [(.ref y), (.ref sb)])) rfl (by rw [hml]; rfl) (Steps.refl _) (argsL := [(.ref y)]) (rest := []) (lenOf own_pd28 rfl) rfl (Nat.le_of_eq rfl) (dB d43_23) (fun _ _ => ⟨rfl, e80, Nat.le_of_ble_eq_true rfl, Nat.le_of_ble_eq_true rfl⟩)
      dsimp only [Pt.U, Pt.locs, Pt.cells, Pt.slots] at X87 l87 y87 z87 st87 hQ87
      subst l87 y87 z87
      obtain ⟨rfl, Nq87, Kq87, f187, f287, f387, f487, f587⟩ := hQ87
      have N87 := Fr.app N73 Nq87
      have sf88 := D74.safe lt64 sf63
      have lt89 := Nat.lt_of_lt_of_le lt64 Kq73.1
      have sf90 := D74.safe lt58 sf57
      have lt91 := Nat.lt_of_lt_of_le lt58 Kq73.1
      have D92 := CHr.keep Kq87 (sfS sf90 (sfS sf88 sf0)) C75.1
      have C93 := C75.trans D92
      have KK6 : Keep h0 T87.heap ([] : List Addr) := KK5.trans Kq87 (allS (Or.inr s0_sb) (allS (Or.inr s0_t2) all0))
      have Zs6 : n0 ≤ T87.heap.size := Nat.le_trans Zs5 Kq87.1
      have e87 : T87.heap = T87.heap := rfl
      have cc95 : oS p e below S0' T87 (mkF m 26 #[sR g] [(.ref sb)]) := (Steps.trans cc82 st87)
      have fa94 : Exa Z T87.heap sb "java/lang/StringBuilder" := (fa76.keep Kq87)
      have hpe : ∀ c' ∈ (((([] : List Int32) ++ cs) ++ ([32, 45, 62, 32] : List Int32)) ++ ds), ¬ c' < 0 ∧ ¬ (65535 : Int32) < c' := by
        intro c' hc'
        simp only [List.mem_append, List.mem_cons, List.not_mem_nil, or_false, false_or] at hc'
        rcases hc' with (q | rfl | rfl | rfl | rfl) | q
        · exact px _ q
        · decide
        · decide
        · decide
        · decide
        · exact own_up _ py _ q
      have hw1 : ∃ c ∈ (((([] : List Int32) ++ cs) ++ ([32, 45, 62, 32] : List Int32)) ++ ds), (255 : Int32) < c := by
        obtain ⟨c', q1', q2'⟩ := wx
        exact ⟨c', by simp [q1'], q2'⟩
      have fa96 : Old Z n0 T87.heap := (fa86.keep Kq87 (allS gn_sb (allS gn_t2 all0)))
      obtain ⟨cq97, kq97, qa97, qb97, qc97⟩ := isOf hZ54 e87 fa94
      obtain ⟨_, _, ⟨T97, L97, k97, n97⟩, -, X97, ⟨Lc97, hQ97, l97, y97, z97⟩, st97⟩ := X87.virtualBack hx (y := yM32) (z := yM32) hown54 (mvT hZ54 w_125) (mvT hZ54 w_126) (notFace_of_selects (args := #[]) (mvT hZ54 w_128)) (mvT hZ54 w_128) (mvT hZ54 w_127) (by decide) (backOf (W := 0) (own_tos1 l Z a0 hw sb t2 kt2 (((([] : List Int32) ++ cs) ++ ([32, 45, 62, 32] : List Int32)) ++ ds) z T87.heap n0 Zs6 fa96 O2 P5 fa94 f187 f287 f387 f487 f587 hpe (by first | omega | (simp; done) | (simp; omega)) hw1) hZ54 w_129 w_61 (by decide) (by decide)) qa97 qc97 (g := (mkF m 26 #[sR g] [(.ref sb)])) rfl (by rw [hml]; rfl) (Steps.refl _) (argsL := []) (rest := []) (lenOf own_pd29 rfl) rfl (Nat.le_of_eq rfl) (dB d43_26) (fun _ _ => ⟨rfl, e87, Nat.le_of_ble_eq_true rfl, Nat.le_of_ble_eq_true rfl⟩)
      dsimp only [Pt.U, Pt.locs, Pt.cells, Pt.slots] at X97 l97 y97 z97 st97 hQ97
      subst l97 y97 z97
      obtain ⟨s1, rfl, Nq97, Kq97, sq97, Hq97⟩ := hQ97
      have N97 := Fr.app N87 Nq97
      have D98 := CHr.keep Kq97 sf0 C93.1
      have C99 := C93.trans D98
      have KK7 : Keep h0 T97.heap ([] : List Addr) := KK6.trans Kq97 all0
      have Zs7 : n0 ≤ T97.heap.size := Nat.le_trans Zs6 Kq97.1
      have e97 : T97.heap = T97.heap := rfl
      have eR : (((([] : List Int32) ++ cs) ++ ([32, 45, 62, 32] : List Int32)) ++ ds) = (cs ++ (32 :: 45 :: 62 :: 32 :: ds)) := by simp
      have cc100 : oS p e below S0' T97 (mkF m 29 #[sR g] [(.ref s1)]) := (Steps.trans cc95 st97)
      have cE := cc100
      rw [hS0'] at cE
      obtain ⟨fs, hr_, hrun, hended, hE⟩ := X97.leaveW hS54 (by rw [e97]; exact (Nat.le_trans (Nat.le_trans (Nat.le_trans hk54 Kq73.1) Kq87.1) Kq97.1)) (v := some (.ref s1)) (fun h => by rw [Bd.returns] at h; cases h)
      have CE := C99.trans (CHv.at X97 hZ54 hEL C99.1)
      refine ⟨_, _, cE.trans (X97.areturnOut hx (rfl) Bd.returns rfl (dB d43_29) hr_), hrun, hended, _, _, rfl, ?_, ?_, hE.1, hE.2.1, hE.2.2.1, hE.2.2.2.mono (by first | decide | omega) (by first | decide | omega)⟩
      · show Q_own_pts Z g x y cs ds z f h0 n0 _ T97.heap _
        rw [e97]
        exact ⟨s1, rfl, N97, KK7, own_ofWid (eR ▸ Hq97)⟩
      · rw [hh]
        show CHr Z EL s.vm h0 T97.vm T97.heap
        rw [e97]
        exact CE
    · skip
      obtain ⟨Ey, Cy, py, ly, wy, ty, ky, Vy, Ay⟩ := Hy
      obtain ⟨T21, h21, X21, e21, E21, A21, D21, -, st21⟩ := newO X0 hx hZ hown w_59 w_60 w_61 e0 (g := (mkF m 0 #[sR g] [])) rfl (dB d43_0) (by decide) (by decide)
      obtain ⟨sb, g_sb⟩ : ∃ z, z = h0.size := ⟨_, rfl⟩
      rw [← g_sb] at A21 D21 st21
      have K21 := (Keep.refl h0 ([] : List Addr)).ext E21
      have b_sb : h0.size ≤ sb := (Nat.le_of_eq g_sb.symm)
      have gn_sb : n0 ≤ sb := Nat.le_trans Z0 b_sb
      have s0_sb : h0.size ≤ sb := Nat.le_trans KK0.1 b_sb
      have ne_g_sb : g ≠ sb := Nat.ne_of_lt (Nat.lt_of_lt_of_le F1.lt b_sb)
      have ne_x_sb : x ≠ sb := Nat.ne_of_lt (Nat.lt_of_lt_of_le Ex.lt b_sb)
      have ne_tx_sb : tx ≠ sb := Nat.ne_of_lt (Nat.lt_of_lt_of_le Ax.lt b_sb)
      have ne_y_sb : y ≠ sb := Nat.ne_of_lt (Nat.lt_of_lt_of_le Ey.lt b_sb)
      have ne_ty_sb : ty ≠ sb := Nat.ne_of_lt (Nat.lt_of_lt_of_le Ay.lt b_sb)
      have D22 := CHr.ext E21 C0.1
      have C23 := C0.trans D22
      have sf_sb : Safe Z EL s.vm h21 sb := Safe.ext E21 C0.1 (Safe.new b_sb)
      have KK1 : Keep h0 h21 ([] : List Addr) := KK0.trans K21 all0
      have Zs1 : n0 ≤ h21.size := Nat.le_trans Z0 K21.1
      have F_value_sb : Fld Z h21 sb "java/lang/AbstractStringBuilder" "value" "[B" .null := D21 (Or.inl w_74) (ty := (.array .byte)) (by decide)
      have F_coder_sb : Fld Z h21 sb "java/lang/AbstractStringBuilder" "coder" "B" (.int (0 : Int32)) := D21 (Or.inl w_76) (ty := .byte) (by decide)
      have F_count_sb : Fld Z h21 sb "java/lang/AbstractStringBuilder" "count" "I" (.int (0 : Int32)) := D21 (Or.inl w_98) (ty := .int) (by decide)
      have F_maybeLatin1_sb : Fld Z h21 sb "java/lang/AbstractStringBuilder" "maybeLatin1" "Z" (.int (0 : Int32)) := D21 (Or.inl w_239) (ty := .boolean) (by decide)
      have cc25 : oS p e below S0' T21 (mkF m 4 #[sR g] [(.ref sb), (.ref sb)]) := Steps.trans (cc0.trans (st21 _ (Steps.refl _))) (by
        refine XS.dup X21.here hx rfl (dB d43_3) rfl rfl ?_
        exact Steps.refl _)
      have fa24 : Old Z n0 h21 := (X00.keep K21 all0)
      obtain ⟨_, _, ⟨T26, L26, k26, n26⟩, -, X26, ⟨Lc26, hQ26, l26, y26, z26⟩, st26⟩ := X21.specialBack hx (y := yM5) rfl hown (mvT hZ w_62) (mvT hZ w_63) (mvT hZ w_64) (by decide) (backOf (W := 1) (own_sb0 l Z a0 hw sb z h21 n0 Zs1 fa24 O2 P5 A21 F_coder_sb F_count_sb F_value_sb F_maybeLatin1_sb gn_sb) hZ w_64 w_61 (by decide) (by decide)) (g := (mkF m 4 #[sR g] [(.ref sb), (.ref sb)])) rfl (by rw [hml]; rfl) (Steps.refl _) (a := sb) (argsL := []) (rest := [(.ref sb)]) (lenOf own_pd12 rfl) rfl (Nat.le_of_eq rfl) (dB d43_4) (fun _ _ => ⟨rfl, e21, Nat.le_of_ble_eq_true rfl, Nat.le_of_ble_eq_true rfl⟩)
      dsimp only [Pt.U, Pt.locs, Pt.cells, Pt.slots] at X26 l26 y26 z26 st26 hQ26
      subst l26 y26 z26
      obtain ⟨t, kt, rfl, Nq26, Kq26, s0q26, f126, f226, f326, f426, f526⟩ := hQ26
      have N26 := Fr.app N0 Nq26
      have b_t : h21.size ≤ t := s0q26
      have gn_t : n0 ≤ t := Nat.le_trans Zs1 b_t
      have s0_t : h0.size ≤ t := Nat.le_trans KK1.1 b_t
      have fa27 : Fld Z h21 g "com/example/chronoforge/chronoforge/design/Precedence" "from" "Ljava/lang/String;" (.ref x) := (F1.keep K21 nin0)
      have ne_g_t : g ≠ t := Nat.ne_of_lt (Nat.lt_of_lt_of_le fa27.lt b_t)
      have fa28 : Exa Z h21 x "java/lang/String" := (Ex.keep K21)
      have ne_x_t : x ≠ t := Nat.ne_of_lt (Nat.lt_of_lt_of_le fa28.lt b_t)
      have fa29 : Arv Z h21 tx kx .byte (Int32.ofNat (2 * cs.length)) (StrChars.Road.wideBytes cs) (.int (0 : Int32)) := (Ax.keep K21 nin0)
      have ne_tx_t : tx ≠ t := Nat.ne_of_lt (Nat.lt_of_lt_of_le fa29.lt b_t)
      have fa30 : Exa Z h21 y "java/lang/String" := (Ey.keep K21)
      have ne_y_t : y ≠ t := Nat.ne_of_lt (Nat.lt_of_lt_of_le fa30.lt b_t)
      have fa31 : Arv Z h21 ty ky .byte (Int32.ofNat (2 * ds.length)) (StrChars.Road.wideBytes ds) (.int (0 : Int32)) := (Ay.keep K21 nin0)
      have ne_ty_t : ty ≠ t := Nat.ne_of_lt (Nat.lt_of_lt_of_le fa31.lt b_t)
      have ne_sb_t : sb ≠ t := Nat.ne_of_lt (Nat.lt_of_lt_of_le A21.lt b_t)
      have D32 := CHr.keep Kq26 (sfS sf_sb sf0) C23.1
      have C33 := C23.trans D32
      have sf_t := Safe.keep Kq26 (sfS sf_sb sf0) C23.1 (Safe.new b_t)
      have KK2 : Keep h0 T26.heap ([] : List Addr) := KK1.trans Kq26 (allS (Or.inr s0_sb) all0)
      have Zs2 : n0 ≤ T26.heap.size := Nat.le_trans Zs1 Kq26.1
      have e26 : T26.heap = T26.heap := rfl
      have cc35 : oS p e below S0' T26 (mkF m 7 #[sR g] [(.ref sb)]) := (Steps.trans cc25 st26)
      have fa34 : Exa Z T26.heap sb "java/lang/StringBuilder" := (A21.keep Kq26)
      have cc37 : oS p e below S0' T26 (mkF m 8 #[sR g] [(.ref g), (.ref sb)]) := Steps.trans cc35 (by
        refine XS.aloadN X26.here hx rfl (dB d43_7) rfl rfl ?_
        exact Steps.refl _)
      have fa36 : Fld Z T26.heap g "com/example/chronoforge/chronoforge/design/Precedence" "from" "Ljava/lang/String;" (.ref x) := (fa27.keep Kq26 (ninS ne_g_sb nin0))
      obtain ⟨T38, X38, e38, st38⟩ := getF X26 hx hZ hown (host := "") (Or.inl w_50) Via.refl e26 fa36 (g := (mkF m 8 #[sR g] [(.ref g), (.ref sb)])) rfl rfl (dB d43_8)
      have cc40 : oS p e below S0' T38 (mkF m 11 #[sR g] [(.ref x), (.ref sb)]) := (cc37.trans (st38 _ (Steps.refl _)))
      have fa39 : Exa Z T26.heap x "java/lang/String" := (fa28.keep Kq26)
      have fa41 : Fld Z T26.heap x "java/lang/String" "coder" "B" (.int (1 : Int32)) := ((Cx.keep K21 nin0).keep Kq26 (ninS ne_x_sb nin0))
      have fa42 : Fld Z T26.heap x "java/lang/String" "value" "[B" (.ref tx) := ((Vx.keep K21 nin0).keep Kq26 (ninS ne_x_sb nin0))
      have fa43 : Arv Z T26.heap tx kx .byte (Int32.ofNat (2 * cs.length)) (StrChars.Road.wideBytes cs) (.int (0 : Int32)) := (fa29.keep Kq26 (ninS ne_tx_sb nin0))
      have fa44 : Old Z n0 T26.heap := (fa24.keep Kq26 (allS gn_sb all0))
      obtain ⟨cq45, kq45, qa45, qb45, qc45⟩ := isOf hZ e38 fa34
      obtain ⟨_, _, ⟨T45, L45, k45, n45⟩, -, X45, ⟨Lc45, hQ45, l45, y45, z45⟩, st45⟩ := X38.virtualBack hx (y := yM22) (z := yM22) hown (mvT hZ w_77) (mvT hZ w_78) (notFace_of_selects (args := #[]) (mvT hZ w_80)) (mvT hZ w_80) (mvT hZ w_79) (by decide) (backOf (W := 0) (own_app01 l Z a0 hw sb t kt ([] : List Int32) x cs z f T26.heap n0 Zs2 fa44 O2 P5 O3 O4 hf fa34 f126 f226 f326 f426 f526 (⟨fa39, fa41, px, lx, wx, tx, kx, fa42, fa43⟩ : own_Wid Z T26.heap x cs) gn_sb gn_t (by first | omega | (simp; done) | (simp; omega)) (fun c hc => by cases hc) (by first | omega | (simp; done) | (simp; omega))) hZ w_81 w_61 (by decide) (by decide)) qa45 qc45 (g := (mkF m 11 #[sR g] [(.ref x), (.ref sb)])) rfl (by rw [hml]; rfl) (Steps.refl _) (argsL := [(.ref x)]) (rest := []) (lenOf own_pd28 rfl) rfl (Nat.le_of_eq rfl) (dB d43_11) (fun _ _ => ⟨rfl, e38, Nat.le_of_ble_eq_true rfl, Nat.le_of_ble_eq_true rfl⟩)
      dsimp only [Pt.U, Pt.locs, Pt.cells, Pt.slots] at X45 l45 y45 z45 st45 hQ45
      subst l45 y45 z45
      obtain ⟨t2, kt2, rfl, Nq45, Kq45, sq45, f145, f245, f345, f445, f545⟩ := hQ45
      have N45 := Fr.app N26 Nq45
      have b_t2 : T26.heap.size ≤ t2 := sq45
      have gn_t2 : n0 ≤ t2 := Nat.le_trans Zs2 b_t2
      have s0_t2 : h0.size ≤ t2 := Nat.le_trans KK2.1 b_t2
      have ne_g_t2 : g ≠ t2 := Nat.ne_of_lt (Nat.lt_of_lt_of_le fa36.lt b_t2)
      have ne_x_t2 : x ≠ t2 := Nat.ne_of_lt (Nat.lt_of_lt_of_le fa39.lt b_t2)
      have ne_tx_t2 : tx ≠ t2 := Nat.ne_of_lt (Nat.lt_of_lt_of_le fa43.lt b_t2)
      have fa46 : Exa Z T26.heap y "java/lang/String" := (fa30.keep Kq26)
      have ne_y_t2 : y ≠ t2 := Nat.ne_of_lt (Nat.lt_of_lt_of_le fa46.lt b_t2)
      have fa47 : Arv Z T26.heap ty ky .byte (Int32.ofNat (2 * ds.length)) (StrChars.Road.wideBytes ds) (.int (0 : Int32)) := (fa31.keep Kq26 (ninS ne_ty_sb nin0))
      have ne_ty_t2 : ty ≠ t2 := Nat.ne_of_lt (Nat.lt_of_lt_of_le fa47.lt b_t2)
      have ne_sb_t2 : sb ≠ t2 := Nat.ne_of_lt (Nat.lt_of_lt_of_le fa34.lt b_t2)
      have ne_t_t2 : t ≠ t2 := Nat.ne_of_lt (Nat.lt_of_lt_of_le f526.lt b_t2)
      have sf48 := D32.safe A21.lt sf_sb
      have lt49 := Nat.lt_of_lt_of_le A21.lt Kq26.1
      have D50 := CHr.keep Kq45 (sfS sf48 sf0) C33.1
      have C51 := C33.trans D50
      have sf_t2 := Safe.keep Kq45 (sfS sf48 sf0) C33.1 (Safe.new b_t2)
      have KK3 : Keep h0 T45.heap ([] : List Addr) := KK2.trans Kq45 (allS (Or.inr s0_sb) all0)
      have Zs3 : n0 ≤ T45.heap.size := Nat.le_trans Zs2 Kq45.1
      have e45 : T45.heap = T45.heap := rfl
      have cc53 : oS p e below S0' T45 (mkF m 14 #[sR g] [(.ref sb)]) := (Steps.trans cc40 st45)
      have fa52 : Exa Z T45.heap sb "java/lang/StringBuilder" := (fa34.keep Kq45)
      obtain ⟨q1, T54, h54, k54, tq1, kb54, X54, e54, E54, hS54, hk54, hZ54, hown54, Ex54, Fc54, Fv54, Ar54, lta54, ltb54, CH54, -, sfn54, st54⟩ := ldcCH X45 hx hZ hown w_124 (fun a ha => hw a ((by decide +kernel : ∀ a ∈ Bundle.stringAtoms, a ∈ tables_1) a ha)) e45 hS0 (Nat.le_trans (Nat.le_trans (Nat.le_trans hk0 K21.1) Kq26.1) Kq45.1) hEL (by decide +kernel) C51.1 (vs := [(.int (32 : Int32)), (.int (45 : Int32)), (.int (62 : Int32)), (.int (32 : Int32))]) (z := 4) (by decide +kernel) (by decide) (by decide) (g := (mkF m 14 #[sR g] [(.ref sb)])) rfl (dB d43_14) (n := 16) (by decide) (by decide) (by decide) (by decide)
      have K54 := (Keep.refl T45.heap ([] : List Addr)).ext E54
      have C54 := C51.trans CH54
      have KK4 : Keep h0 h54 ([] : List Addr) := KK3.trans K54 all0
      have Zs4 : n0 ≤ h54.size := Nat.le_trans Zs3 K54.1
      have sf55 := D50.safe lt49 sf48
      have lt56 := Nat.lt_of_lt_of_le lt49 Kq45.1
      have sf57 := CH54.safe lt56 sf55
      have lt58 := Nat.lt_of_lt_of_le lt56 K54.1
      have nl54_sb := sfn54 _ sf57
      have sf59 := D50.safe f526.lt sf_t
      have lt60 := Nat.lt_of_lt_of_le f526.lt Kq45.1
      have sf61 := CH54.safe lt60 sf59
      have lt62 := Nat.lt_of_lt_of_le lt60 K54.1
      have nl54_t := sfn54 _ sf61
      have sf63 := CH54.safe f545.lt sf_t2
      have lt64 := Nat.lt_of_lt_of_le f545.lt K54.1
      have nl54_t2 := sfn54 _ sf63
      have cc66 : oS p e below S0' T54 (mkF m 16 #[sR g] [(.ref q1), (.ref sb)]) := (cc53.trans (st54 _ (Steps.refl _)))
      have fa65 : Exa Z h54 sb "java/lang/StringBuilder" := (fa52.keep K54)
      have fa67 : Fld Z h54 sb "java/lang/AbstractStringBuilder" "coder" "B" (.int (1 : Int32)) := (f145.keep K54 nin0)
      have fa68 : Fld Z h54 sb "java/lang/AbstractStringBuilder" "count" "I" (.int (Int32.ofNat (([] : List Int32) ++ cs).length)) := (f245.keep K54 nin0)
      have fa69 : Fld Z h54 sb "java/lang/AbstractStringBuilder" "value" "[B" (.ref t2) := (f345.keep K54 nin0)
      have fa70 : Fld Z h54 sb "java/lang/AbstractStringBuilder" "maybeLatin1" "Z" (.int (0 : Int32)) := (f445.keep K54 nin0)
      have fa71 : Arv Z h54 t2 kt2 .byte (32 : Int32) (StrChars.Road.wideBytes (([] : List Int32) ++ cs)) (.int (0 : Int32)) := (f545.keep K54 nin0)
      have fa72 : Old Z n0 h54 := ((fa44.keep Kq45 (allS gn_sb all0)).keep K54 all0)
      obtain ⟨cq73, kq73, qa73, qb73, qc73⟩ := isOf hZ54 e54 fa65
      obtain ⟨_, _, ⟨T73, L73, k73, n73⟩, -, X73, ⟨Lc73, hQ73, l73, y73, z73⟩, st73⟩ := X54.virtualBack hx (y := yM22) (z := yM22) hown54 (mvT hZ54 w_77) (mvT hZ54 w_78) (notFace_of_selects (args := #[]) (mvT hZ54 w_80)) (mvT hZ54 w_80) (mvT hZ54 w_79) (by decide) (backOf (W := 0) (own_app10 l Z a0 hw sb t2 kt2 (([] : List Int32) ++ cs) q1 ([32, 45, 62, 32] : List Int32) z f h54 n0 Zs4 fa72 O2 P5 O3 O4 hf fa65 fa67 fa68 fa69 fa70 fa71 (⟨Ex54, Fc54, by decide, by decide, tq1, _, Fv54, Ar54⟩ : own_Lat Z h54 q1 ([32, 45, 62, 32] : List Int32)) gn_sb gn_t2 (by first | omega | (simp; done) | (simp; omega)) (by first | omega | (simp; done) | (simp; omega)) (fun t1 q => by rw [Value.ref.inj (own_fld_inj q Fv54)]; exact (Ne.symm nl54_t2.2))) hZ54 w_81 w_61 (by decide) (by decide)) qa73 qc73 (g := (mkF m 16 #[sR g] [(.ref q1), (.ref sb)])) rfl (by rw [hml]; rfl) (Steps.refl _) (argsL := [(.ref q1)]) (rest := []) (lenOf own_pd28 rfl) rfl (Nat.le_of_eq rfl) (dB d43_16) (fun _ _ => ⟨rfl, e54, Nat.le_of_ble_eq_true rfl, Nat.le_of_ble_eq_true rfl⟩)
      dsimp only [Pt.U, Pt.locs, Pt.cells, Pt.slots] at X73 l73 y73 z73 st73 hQ73
      subst l73 y73 z73
      obtain ⟨rfl, Nq73, Kq73, f173, f273, f373, f473, f573⟩ := hQ73
      have N73 := Fr.app N45 Nq73
      have D74 := CHr.keep Kq73 (sfS sf57 (sfS sf63 sf0)) C54.1
      have C75 := C54.trans D74
      have KK5 : Keep h0 T73.heap ([] : List Addr) := KK4.trans Kq73 (allS (Or.inr s0_sb) (allS (Or.inr s0_t2) all0))
      have Zs5 : n0 ≤ T73.heap.size := Nat.le_trans Zs4 Kq73.1
      have e73 : T73.heap = T73.heap := rfl
      have cc77 : oS p e below S0' T73 (mkF m 19 #[sR g] [(.ref sb)]) := (Steps.trans cc66 st73)
      have fa76 : Exa Z T73.heap sb "java/lang/StringBuilder" := (fa65.keep Kq73)
      have cc79 : oS p e below S0' T73 (mkF m 20 #[sR g] [(.ref g), (.ref sb)]) := Steps.trans cc77 (by
        refine XS.aloadN X73.here hx rfl (dB d43_19) rfl rfl ?_
        exact Steps.refl _)
      have fa78 : Fld Z T73.heap g "com/example/chronoforge/chronoforge/design/Precedence" "to" "Ljava/lang/String;" (.ref y) := (((((F2.keep K21 nin0).keep Kq26 (ninS ne_g_sb nin0)).keep Kq45 (ninS ne_g_sb nin0)).keep K54 nin0).keep Kq73 (ninS ne_g_sb (ninS ne_g_t2 nin0)))
      obtain ⟨T80, X80, e80, st80⟩ := getF X73 hx hZ54 hown54 (host := "") (Or.inl w_52) Via.refl e73 fa78 (g := (mkF m 20 #[sR g] [(.ref g), (.ref sb)])) rfl rfl (dB d43_20)
      have cc82 : oS p e below S0' T80 (mkF m 23 #[sR g] [(.ref y), (.ref sb)]) := (cc79.trans (st80 _ (Steps.refl _)))
      have fa81 : Exa Z T73.heap y "java/lang/String" := (((fa46.keep Kq45).keep K54).keep Kq73)
      have fa83 : Fld Z T73.heap y "java/lang/String" "coder" "B" (.int (1 : Int32)) := (((((Cy.keep K21 nin0).keep Kq26 (ninS ne_y_sb nin0)).keep Kq45 (ninS ne_y_sb nin0)).keep K54 nin0).keep Kq73 (ninS ne_y_sb (ninS ne_y_t2 nin0)))
      have fa84 : Fld Z T73.heap y "java/lang/String" "value" "[B" (.ref ty) := (((((Vy.keep K21 nin0).keep Kq26 (ninS ne_y_sb nin0)).keep Kq45 (ninS ne_y_sb nin0)).keep K54 nin0).keep Kq73 (ninS ne_y_sb (ninS ne_y_t2 nin0)))
      have fa85 : Arv Z T73.heap ty ky .byte (Int32.ofNat (2 * ds.length)) (StrChars.Road.wideBytes ds) (.int (0 : Int32)) := (((fa47.keep Kq45 (ninS ne_ty_sb nin0)).keep K54 nin0).keep Kq73 (ninS ne_ty_sb (ninS ne_ty_t2 nin0)))
      have fa86 : Old Z n0 T73.heap := (fa72.keep Kq73 (allS gn_sb (allS gn_t2 all0)))
      obtain ⟨cq87, kq87, qa87, qb87, qc87⟩ := isOf hZ54 e80 fa76
      obtain ⟨_, _, ⟨T87, L87, k87, n87⟩, -, X87, ⟨Lc87, hQ87, l87, y87, z87⟩, st87⟩ := X80.virtualBack hx (y := yM22) (z := yM22) hown54 (mvT hZ54 w_77) (mvT hZ54 w_78) (notFace_of_selects (args := #[]) (mvT hZ54 w_80)) (mvT hZ54 w_80) (mvT hZ54 w_79) (by decide) (backOf (W := 0) (own_app11 l Z a0 hw sb t2 kt2 ((([] : List Int32) ++ cs) ++ ([32, 45, 62, 32] : List Int32)) y ds z f T73.heap n0 Zs5 fa86 O2 P5 O3 O4 hf fa76 f173 f273 f373 f473 f573 (⟨fa81, fa83, py, ly, wy, ty, ky, fa84, fa85⟩ : own_Wid Z T73.heap y ds) gn_sb gn_t2 (by first | omega | (simp; done) | (simp; omega))) hZ54 w_81 w_61 (by decide) (by decide)) qa87 qc87 (g := (mkF m 23 #[sR g] [(.ref y), (.ref sb)])) rfl (by rw [hml]; rfl) (Steps.refl _) (argsL := [(.ref y)]) (rest := []) (lenOf own_pd28 rfl) rfl (Nat.le_of_eq rfl) (dB d43_23) (fun _ _ => ⟨rfl, e80, Nat.le_of_ble_eq_true rfl, Nat.le_of_ble_eq_true rfl⟩)
      dsimp only [Pt.U, Pt.locs, Pt.cells, Pt.slots] at X87 l87 y87 z87 st87 hQ87
      subst l87 y87 z87
      obtain ⟨rfl, Nq87, Kq87, f187, f287, f387, f487, f587⟩ := hQ87
      have N87 := Fr.app N73 Nq87
      have sf88 := D74.safe lt64 sf63
      have lt89 := Nat.lt_of_lt_of_le lt64 Kq73.1
      have sf90 := D74.safe lt58 sf57
      have lt91 := Nat.lt_of_lt_of_le lt58 Kq73.1
      have D92 := CHr.keep Kq87 (sfS sf90 (sfS sf88 sf0)) C75.1
      have C93 := C75.trans D92
      have KK6 : Keep h0 T87.heap ([] : List Addr) := KK5.trans Kq87 (allS (Or.inr s0_sb) (allS (Or.inr s0_t2) all0))
      have Zs6 : n0 ≤ T87.heap.size := Nat.le_trans Zs5 Kq87.1
      have e87 : T87.heap = T87.heap := rfl
      have cc95 : oS p e below S0' T87 (mkF m 26 #[sR g] [(.ref sb)]) := (Steps.trans cc82 st87)
      have fa94 : Exa Z T87.heap sb "java/lang/StringBuilder" := (fa76.keep Kq87)
      have hpe : ∀ c' ∈ (((([] : List Int32) ++ cs) ++ ([32, 45, 62, 32] : List Int32)) ++ ds), ¬ c' < 0 ∧ ¬ (65535 : Int32) < c' := by
        intro c' hc'
        simp only [List.mem_append, List.mem_cons, List.not_mem_nil, or_false, false_or] at hc'
        rcases hc' with (q | rfl | rfl | rfl | rfl) | q
        · exact px _ q
        · decide
        · decide
        · decide
        · decide
        · exact py _ q
      have hw1 : ∃ c ∈ (((([] : List Int32) ++ cs) ++ ([32, 45, 62, 32] : List Int32)) ++ ds), (255 : Int32) < c := by
        obtain ⟨c', q1', q2'⟩ := wx
        exact ⟨c', by simp [q1'], q2'⟩
      have fa96 : Old Z n0 T87.heap := (fa86.keep Kq87 (allS gn_sb (allS gn_t2 all0)))
      obtain ⟨cq97, kq97, qa97, qb97, qc97⟩ := isOf hZ54 e87 fa94
      obtain ⟨_, _, ⟨T97, L97, k97, n97⟩, -, X97, ⟨Lc97, hQ97, l97, y97, z97⟩, st97⟩ := X87.virtualBack hx (y := yM32) (z := yM32) hown54 (mvT hZ54 w_125) (mvT hZ54 w_126) (notFace_of_selects (args := #[]) (mvT hZ54 w_128)) (mvT hZ54 w_128) (mvT hZ54 w_127) (by decide) (backOf (W := 0) (own_tos1 l Z a0 hw sb t2 kt2 (((([] : List Int32) ++ cs) ++ ([32, 45, 62, 32] : List Int32)) ++ ds) z T87.heap n0 Zs6 fa96 O2 P5 fa94 f187 f287 f387 f487 f587 hpe (by first | omega | (simp; done) | (simp; omega)) hw1) hZ54 w_129 w_61 (by decide) (by decide)) qa97 qc97 (g := (mkF m 26 #[sR g] [(.ref sb)])) rfl (by rw [hml]; rfl) (Steps.refl _) (argsL := []) (rest := []) (lenOf own_pd29 rfl) rfl (Nat.le_of_eq rfl) (dB d43_26) (fun _ _ => ⟨rfl, e87, Nat.le_of_ble_eq_true rfl, Nat.le_of_ble_eq_true rfl⟩)
      dsimp only [Pt.U, Pt.locs, Pt.cells, Pt.slots] at X97 l97 y97 z97 st97 hQ97
      subst l97 y97 z97
      obtain ⟨s1, rfl, Nq97, Kq97, sq97, Hq97⟩ := hQ97
      have N97 := Fr.app N87 Nq97
      have D98 := CHr.keep Kq97 sf0 C93.1
      have C99 := C93.trans D98
      have KK7 : Keep h0 T97.heap ([] : List Addr) := KK6.trans Kq97 all0
      have Zs7 : n0 ≤ T97.heap.size := Nat.le_trans Zs6 Kq97.1
      have e97 : T97.heap = T97.heap := rfl
      have eR : (((([] : List Int32) ++ cs) ++ ([32, 45, 62, 32] : List Int32)) ++ ds) = (cs ++ (32 :: 45 :: 62 :: 32 :: ds)) := by simp
      have cc100 : oS p e below S0' T97 (mkF m 29 #[sR g] [(.ref s1)]) := (Steps.trans cc95 st97)
      have cE := cc100
      rw [hS0'] at cE
      obtain ⟨fs, hr_, hrun, hended, hE⟩ := X97.leaveW hS54 (by rw [e97]; exact (Nat.le_trans (Nat.le_trans (Nat.le_trans hk54 Kq73.1) Kq87.1) Kq97.1)) (v := some (.ref s1)) (fun h => by rw [Bd.returns] at h; cases h)
      have CE := C99.trans (CHv.at X97 hZ54 hEL C99.1)
      refine ⟨_, _, cE.trans (X97.areturnOut hx (rfl) Bd.returns rfl (dB d43_29) hr_), hrun, hended, _, _, rfl, ?_, ?_, hE.1, hE.2.1, hE.2.2.1, hE.2.2.2.mono (by first | decide | omega) (by first | decide | omega)⟩
      · show Q_own_pts Z g x y cs ds z f h0 n0 _ T97.heap _
        rw [e97]
        exact ⟨s1, rfl, N97, KK7, own_ofWid (eR ▸ Hq97)⟩
      · rw [hh]
        show CHr Z EL s.vm h0 T97.vm T97.heap
        rw [e97]
        exact CE
def Q_own_law (Z : State) (p1 p2 p3 z : Int32) (f : Value) (h0 : Heap) (n0 : Nat) (v : Option Value) (h : Heap) (L : List Loc) : Prop := v = some (.int 1) ∧ Fr n0 L
set_option maxRecDepth 65536 in
set_option maxHeartbeats 40000000 in
theorem own_law (l : Launch) (Z : State) (a0 : Array Value) (hw : ∀ d ∈ tables_1, d.before a0 Z = true) (ws : List Jvm.Cond) (p1 p2 p3 z : Int32) (f : Value) (h0 : Heap) (n0 : Nat) (Z0 : n0 ≤ h0.size) (X00 : Old Z n0 h0) (O2 : Sta Z Z.heap "java/lang/String" "COMPACT_STRINGS" "Z" (.int z)) (P5 : ¬ z = 0) (O3 : StrChars.Road.U3Z Z Z.heap) (O4 : Sta Z Z.heap "jdk/internal/util/Preconditions" "SIOOBE_FORMATTER" "Ljava/util/function/BiFunction;" f) (hf : f.isRef = true) :
    MetFree l x (head1 (Jvm.Cond.code x code maxLocals ret :: ws) room_1) (fun a_ U_ => a_ = #[(.int p1), (.int p2), (.int p3)] ∧ Z.Warmed39 U_.vm ∧ U_.heap = h0 ∧ CHv Z EL U_.vm h0) (fun _ _ _ _ _ => True) (fun _ U_ o_ V_ => ∃ v_ L_, o_ = .returned v_ ∧ Q_own_law Z p1 p2 p3 z f h0 n0 v_ V_.heap L_ ∧ CHr Z EL U_.vm U_.heap V_.vm V_.heap ∧ ReturnedEndW U_ o_ V_ L_ room_1.cells room_1.slots) := by
  refine MetFree.of_bodySF (plainFor_of_name own_pn7) hisR ?_
  intro p e s m args below meth c s₁ Bd hml0 hP hK
  obtain ⟨rfl, hZ, hh, hCH⟩ := hP
  have hx := Bd.exec
  have hby := Bd.bytes
  have dB := @own_d c _ hby
  have hml : c.maxLocals = 12 := hml0
  have hown : s.vm.findClass "com/example/chronoforge/chronoforge/design/PrecedenceToStringPinLaw" = some m.cls := findClass_of_methodNamed Bd.named
  have hnm := (name_of_methodNamed Bd.named Bd.method).1
  have X0 : Stand p l e room_1 (s.setVm s.vm) m #[(.int p1), (.int p2), (.int p3)] below meth c s₁ [] 0 0 := Stand.of_body Bd
  have e0 : s₁.heap = h0 := by rw [← hh, Bd.state]; rfl
  have N0 := Fr.nil n0
  have KK0 := Keep.refl h0 ([] : List Addr)
  have C0 := CHr.refl hCH
  have hS0 : s.Since s.vm 0 := (State.WarmedH.refl s).since 0
  have hk0 : 0 ≤ h0.size := Nat.zero_le _
  have hEL : EW Z a0 EL := own_EW hw
  have cc0 : Steps p.tables e below (s₁.setTop (entryFrame m #[(.int p1), (.int p2), (.int p3)] maxLocals)) (s₁.setTop (mkF m 0 #[sI p1, sI p2, sI p3, .unset, .unset, .unset, .unset, .unset, .unset, .unset, .unset, .unset] [])) := XT.entry rfl
  obtain ⟨S0', hS0'⟩ : ∃ S, S = (s₁.setTop (entryFrame m #[(.int p1), (.int p2), (.int p3)] maxLocals)) := ⟨_, rfl⟩
  rw [← hS0'] at cc0
  have w_0 := own_w hw 0 rfl
  have w_1 := own_w hw 1 rfl
  have w_2 := own_w hw 2 rfl
  have w_3 := own_w hw 3 rfl
  have w_4 := own_w hw 4 rfl
  have w_6 := own_w hw 6 rfl
  have w_7 := own_w hw 7 rfl
  have w_39 := own_w hw 39 rfl
  have w_40 := own_w hw 40 rfl
  have w_43 := own_w hw 43 rfl
  have w_57 := own_w hw 57 rfl
  have w_88 := own_w hw 88 rfl
  have w_89 := own_w hw 89 rfl
  have w_90 := own_w hw 90 rfl
  have w_170 := own_w hw 170 rfl
  have w_171 := own_w hw 171 rfl
  have w_172 := own_w hw 172 rfl
  have w_173 := own_w hw 173 rfl
  have w_174 := own_w hw 174 rfl
  have w_175 := own_w hw 175 rfl
  have hw_wordsLen : ∀ d ∈ StrChars.Road.wordsLen, d.before a0 Z = true := fun d hd => hw d ((by decide +kernel : ∀ d ∈ StrChars.Road.wordsLen, d ∈ tables_1) d hd)
  have cc21 : oS p e below S0' s₁ (mkF m 13 #[sI p1, sI p2, sI p3, sI ((p3 &&& (3 : Int32)) - (p3 &&& (3 : Int32)) / (3 : Int32) * (3 : Int32)), .unset, .unset, .unset, .unset, .unset, .unset, .unset, .unset] [(.int (((XT.ushr p3 (2 : Int32)) &&& (3 : Int32)) - ((XT.ushr p3 (2 : Int32)) &&& (3 : Int32)) / (3 : Int32) * (3 : Int32)))]) := Steps.trans cc0 (by
    refine XS.iloadN X0.here hx rfl (dB at_0) rfl ?_
    refine iconstV X0.here hx rfl 3 (dB at_1) (by decide) ?_
    refine XS.iand X0.here hx rfl (dB at_2) rfl ?_
    refine iconstV X0.here hx rfl 3 (dB at_3) (by decide) ?_
    refine XS.irem X0.here hx rfl (dB at_4) rfl (by decide) ?_
    refine XS.istoreN X0.here hx rfl (dB at_5) rfl rfl ?_
    refine XS.iloadN X0.here hx rfl (dB at_6) rfl ?_
    refine iconstV X0.here hx rfl 2 (dB at_7) (by decide) ?_
    refine XT.iushr X0.here hx rfl (dB at_8) rfl ?_
    refine iconstV X0.here hx rfl 3 (dB at_9) (by decide) ?_
    refine XS.iand X0.here hx rfl (dB at_10) rfl ?_
    refine iconstV X0.here hx rfl 3 (dB at_11) (by decide) ?_
    refine XS.irem X0.here hx rfl (dB at_12) rfl (by decide) ?_
    exact Steps.refl _)
  have r1 := own_r3 _ (own_and3 p3)
  have r2 := own_r3 _ (own_and3 (XT.ushr p3 2))
  generalize ea : (p3 &&& (3 : Int32)) - (p3 &&& (3 : Int32)) / (3 : Int32) * (3 : Int32) = na at r1 cc21
  generalize eb : ((XT.ushr p3 (2 : Int32)) &&& (3 : Int32)) - ((XT.ushr p3 (2 : Int32)) &&& (3 : Int32)) / (3 : Int32) * (3 : Int32) = nb at r2 cc21
  have cc22 : oS p e below S0' s₁ (mkF m 48 #[sI p1, sI p2, sI p3, sI na, sI nb, sI ((p1 &&& (65535 : Int32)).toUInt32.toUInt16.toUInt32.toInt32), sI ((XT.ushr p1 (16 : Int32)).toUInt32.toUInt16.toUInt32.toInt32), sI ((p2 &&& (65535 : Int32)).toUInt32.toUInt16.toUInt32.toInt32), sI ((XT.ushr p2 (16 : Int32)).toUInt32.toUInt16.toUInt32.toInt32), .unset, .unset, .unset] [(.int ((XT.ushr p1 (16 : Int32)).toUInt32.toUInt16.toUInt32.toInt32)), (.int ((p1 &&& (65535 : Int32)).toUInt32.toUInt16.toUInt32.toInt32)), (.int na)]) := Steps.trans cc21 (by
    refine XS.istore X0.here hx rfl (dB at_13) rfl rfl ?_
    refine XS.iloadN X0.here hx rfl (dB at_15) rfl ?_
    refine X0.ldcI hx hown (mvT hZ w_0) rfl (dB at_16) ?_
    refine XS.iand X0.here hx rfl (dB at_18) rfl ?_
    refine XT.i2c X0.here hx rfl (dB at_19) rfl ?_
    refine XS.istore X0.here hx rfl (dB at_20) rfl rfl ?_
    refine XS.iloadN X0.here hx rfl (dB at_22) rfl ?_
    refine bipushV X0.here hx rfl 16 (dB at_23) (by decide) ?_
    refine XT.iushr X0.here hx rfl (dB at_25) rfl ?_
    refine XT.i2c X0.here hx rfl (dB at_26) rfl ?_
    refine XS.istore X0.here hx rfl (dB at_27) rfl rfl ?_
    refine XS.iloadN X0.here hx rfl (dB at_29) rfl ?_
    refine X0.ldcI hx hown (mvT hZ w_0) rfl (dB at_30) ?_
    refine XS.iand X0.here hx rfl (dB at_32) rfl ?_
    refine XT.i2c X0.here hx rfl (dB at_33) rfl ?_
    refine XS.istore X0.here hx rfl (dB at_34) rfl rfl ?_
    refine XS.iloadN X0.here hx rfl (dB at_36) rfl ?_
    refine bipushV X0.here hx rfl 16 (dB at_37) (by decide) ?_
    refine XT.iushr X0.here hx rfl (dB at_39) rfl ?_
    refine XT.i2c X0.here hx rfl (dB at_40) rfl ?_
    refine XS.istore X0.here hx rfl (dB at_41) rfl rfl ?_
    refine XS.iloadN X0.here hx rfl (dB at_43) rfl ?_
    refine XS.iload X0.here hx rfl (dB at_44) rfl ?_
    refine XS.iload X0.here hx rfl (dB at_46) rfl ?_
    exact Steps.refl _)
  have kf0 := own_i2c (p1 &&& (65535 : Int32))
  generalize ef0 : (p1 &&& (65535 : Int32)).toUInt32.toUInt16.toUInt32.toInt32 = f0 at kf0 cc22
  have kf1 := own_i2c (XT.ushr p1 (16 : Int32))
  generalize ef1 : (XT.ushr p1 (16 : Int32)).toUInt32.toUInt16.toUInt32.toInt32 = f1 at kf1 cc22
  have ku0 := own_i2c (p2 &&& (65535 : Int32))
  generalize eu0 : (p2 &&& (65535 : Int32)).toUInt32.toUInt16.toUInt32.toInt32 = u0 at ku0 cc22
  have ku1 := own_i2c (XT.ushr p2 (16 : Int32))
  generalize eu1 : (XT.ushr p2 (16 : Int32)).toUInt32.toUInt16.toUInt32.toInt32 = u1 at ku1 cc22
  obtain ⟨_, _, ⟨T23, L23, k23, n23⟩, -, X23, hs23, gr23, ⟨Lc23, hQ23, l23, y23, z23, CH23⟩, st23⟩ := callSS X0 hx (y := yM41) hown (mvT hZ w_1) (mvT hZ w_2) (mvT hZ w_3) (mvT hZ w_4) (by decide) (backOfSH (W := 0) (own_mk l Z a0 hw na f0 f1 z h0 n0 Z0 X00 O2 P5 O3 r1 kf0 kf1) hZ w_4 w_3 (by decide) (by decide) hEL C0.1) (g := (mkF m 48 #[sI p1, sI p2, sI p3, sI na, sI nb, sI f0, sI f1, sI u0, sI u1, .unset, .unset, .unset] [(.int f1), (.int f0), (.int na)])) rfl (by rw [hml]; rfl) (argsL := [(.int na), (.int f0), (.int f1)]) (rest := []) (lenOf own_pd30 rfl) rfl (Nat.le_of_eq rfl) (dB at_48) (fun _ _ => ⟨rfl, e0, Nat.le_of_ble_eq_true rfl, Nat.le_of_ble_eq_true rfl⟩)
  dsimp only [Pt.U, Pt.locs, Pt.cells, Pt.slots] at X23 l23 y23 z23 st23 hQ23 hs23 gr23 CH23
  subst l23 y23 z23
  obtain ⟨x, cs, rfl, Nq23, Kq23, sq23, Hx, hcs⟩ := hQ23
  obtain ⟨Xr23, hS23, hZ23, hown23⟩ := rebS hS0 (by rw [e0]; exact hk0) X23 hs23 gr23 hZ hown
  have hk23 : T23.heap.size ≤ T23.heap.size := Nat.le_refl _
  have C23 := C0.trans CH23
  have N23 := Fr.app N0 Nq23
  have b_x : h0.size ≤ x := sq23
  have gn_x : n0 ≤ x := Nat.le_trans Z0 b_x
  have s0_x : h0.size ≤ x := Nat.le_trans KK0.1 b_x
  have KK1 : Keep h0 T23.heap ([] : List Addr) := KK0.trans Kq23 all0
  have Zs1 : n0 ≤ T23.heap.size := Nat.le_trans Z0 Kq23.1
  have e23 : T23.heap = T23.heap := rfl
  have cc25 : oS p e below S0' T23 (mkF m 59 #[sI p1, sI p2, sI p3, sI na, sI nb, sI f0, sI f1, sI u0, sI u1, sR x, .unset, .unset] [(.int u1), (.int u0), (.int nb)]) := Steps.trans (Steps.trans cc22 st23) (by
    refine XS.astore Xr23.here hx rfl (dB at_51) rfl rfl rfl ?_
    refine XS.iload Xr23.here hx rfl (dB at_53) rfl ?_
    refine XS.iload Xr23.here hx rfl (dB at_55) rfl ?_
    refine XS.iload Xr23.here hx rfl (dB at_57) rfl ?_
    exact Steps.refl _)
  have fa24 : Old Z n0 T23.heap := (X00.keep Kq23 all0)
  obtain ⟨_, _, ⟨T26, L26, k26, n26⟩, -, X26, hs26, gr26, ⟨Lc26, hQ26, l26, y26, z26, CH26⟩, st26⟩ := callSS Xr23 hx (y := yM41) hown23 (mvT hZ23 w_1) (mvT hZ23 w_2) (mvT hZ23 w_3) (mvT hZ23 w_4) (by decide) (backOfSH (W := 0) (own_mk l Z a0 hw nb u0 u1 z T23.heap n0 Zs1 fa24 O2 P5 O3 r2 ku0 ku1) hZ23 w_4 w_3 (by decide) (by decide) hEL C23.1) (g := (mkF m 59 #[sI p1, sI p2, sI p3, sI na, sI nb, sI f0, sI f1, sI u0, sI u1, sR x, .unset, .unset] [(.int u1), (.int u0), (.int nb)])) rfl (by rw [hml]; rfl) (argsL := [(.int nb), (.int u0), (.int u1)]) (rest := []) (lenOf own_pd30 rfl) rfl (Nat.le_of_eq rfl) (dB at_59) (fun _ _ => ⟨rfl, e23, Nat.le_of_ble_eq_true rfl, Nat.le_of_ble_eq_true rfl⟩)
  dsimp only [Pt.U, Pt.locs, Pt.cells, Pt.slots] at X26 l26 y26 z26 st26 hQ26 hs26 gr26 CH26
  subst l26 y26 z26
  obtain ⟨y, ds, rfl, Nq26, Kq26, sq26, Hy, hds⟩ := hQ26
  obtain ⟨Xr26, hS26, hZ26, hown26⟩ := rebS hS23 (by rw [e23]; exact hk23) X26 hs26 gr26 hZ23 hown23
  have hk26 : T26.heap.size ≤ T26.heap.size := Nat.le_refl _
  have C26 := C23.trans CH26
  have N26 := Fr.app N23 Nq26
  have b_y : T23.heap.size ≤ y := sq26
  have gn_y : n0 ≤ y := Nat.le_trans Zs1 b_y
  have s0_y : h0.size ≤ y := Nat.le_trans KK1.1 b_y
  have ne_x_y : x ≠ y := Nat.ne_of_lt (Nat.lt_of_lt_of_le Hx.1.lt b_y)
  have KK2 : Keep h0 T26.heap ([] : List Addr) := KK1.trans Kq26 all0
  have Zs2 : n0 ≤ T26.heap.size := Nat.le_trans Zs1 Kq26.1
  have e26 : T26.heap = T26.heap := rfl
  have Hx2 := Hx.keep0 Kq26
  have cc27 : oS p e below S0' T26 (mkF m 64 #[sI p1, sI p2, sI p3, sI na, sI nb, sI f0, sI f1, sI u0, sI u1, sR x, sR y, .unset] []) := Steps.trans (Steps.trans cc25 st26) (by
    refine XS.astore Xr26.here hx rfl (dB at_62) rfl rfl rfl ?_
    exact Steps.refl _)
  obtain ⟨T28, h28, X28, e28, E28, A28, D28, -, st28⟩ := newO Xr26 hx hZ26 hown26 (own_w hw 38 rfl) w_39 w_40 e26 (g := (mkF m 64 #[sI p1, sI p2, sI p3, sI na, sI nb, sI f0, sI f1, sI u0, sI u1, sR x, sR y, .unset] [])) rfl (dB at_64) (by decide) (by decide)
  obtain ⟨g, g_g⟩ : ∃ z, z = T26.heap.size := ⟨_, rfl⟩
  rw [← g_g] at A28 D28 st28
  have K28 := (Keep.refl T26.heap ([] : List Addr)).ext E28
  have b_g : T26.heap.size ≤ g := (Nat.le_of_eq g_g.symm)
  have gn_g : n0 ≤ g := Nat.le_trans Zs2 b_g
  have s0_g : h0.size ≤ g := Nat.le_trans KK2.1 b_g
  have fa29 : Exa Z T26.heap x "java/lang/String" := (Hx.1.keep Kq26)
  have ne_x_g : x ≠ g := Nat.ne_of_lt (Nat.lt_of_lt_of_le fa29.lt b_g)
  have ne_y_g : y ≠ g := Nat.ne_of_lt (Nat.lt_of_lt_of_le Hy.1.lt b_g)
  have D30 := CHr.ext E28 C26.1
  have C31 := C26.trans D30
  have sf_g : Safe Z EL T26.vm h28 g := Safe.ext E28 C26.1 (Safe.new b_g)
  have KK3 : Keep h0 h28 ([] : List Addr) := KK2.trans K28 all0
  have Zs3 : n0 ≤ h28.size := Nat.le_trans Zs2 K28.1
  have F_from_g : Fld Z h28 g "com/example/chronoforge/chronoforge/design/Precedence" "from" "Ljava/lang/String;" .null := D28 (Or.inr (own_w hw 51 rfl)) (ty := (.object "java/lang/String")) (by decide)
  have F_to_g : Fld Z h28 g "com/example/chronoforge/chronoforge/design/Precedence" "to" "Ljava/lang/String;" .null := D28 (Or.inr (own_w hw 53 rfl)) (ty := (.object "java/lang/String")) (by decide)
  have Hx3 := Hx2.keep0 K28
  have Hy3 := Hy.keep0 K28
  obtain ⟨Ex3, px3, lx3, cdx, Nx, vsx, tx3, kx3, codx, Cx3, Vx3, Ax3⟩ := Hx3
  obtain ⟨Ey3, py3, ly3, cdy, Ny, vsy, ty3, ky3, cody, Cy3, Vy3, Ay3⟩ := Hy3
  have ne_x_g : x ≠ g := ne_exa Ex3 A28 (by decide)
  have ne_tx3_g : tx3 ≠ g := Ne.symm (own_ne_arv A28 w_39 Ax3)
  have ne_y_g : y ≠ g := ne_exa Ey3 A28 (by decide)
  have ne_ty3_g : ty3 ≠ g := Ne.symm (own_ne_arv A28 w_39 Ay3)
  have cc32 : oS p e below S0' T28 (mkF m 72 #[sI p1, sI p2, sI p3, sI na, sI nb, sI f0, sI f1, sI u0, sI u1, sR x, sR y, .unset] [(.ref y), (.ref x), (.ref g), (.ref g)]) := Steps.trans (cc27.trans (st28 _ (Steps.refl _))) (by
    refine XS.dup X28.here hx rfl (dB at_67) rfl rfl ?_
    refine XS.aload X28.here hx rfl (dB at_68) rfl rfl ?_
    refine XS.aload X28.here hx rfl (dB at_70) rfl rfl ?_
    exact Steps.refl _)
  obtain ⟨_, _, ⟨T33, L33, k33, n33⟩, -, X33, ⟨Lc33, hQ33, l33, y33, z33⟩, st33⟩ := X28.specialBack hx (y := yM43) rfl hown26 (mvT hZ26 (own_w hw 41 rfl)) (mvT hZ26 (own_w hw 42 rfl)) (mvT hZ26 w_43) (by decide) (backOf (W := 1) (own_pin l Z a0 hw g x y h28 n0 Zs3 A28 F_from_g F_to_g gn_g) hZ26 w_43 w_40 (by decide) (by decide)) (g := (mkF m 72 #[sI p1, sI p2, sI p3, sI na, sI nb, sI f0, sI f1, sI u0, sI u1, sR x, sR y, .unset] [(.ref y), (.ref x), (.ref g), (.ref g)])) rfl (by rw [hml]; rfl) (Steps.refl _) (a := g) (argsL := [(.ref x), (.ref y)]) (rest := [(.ref g)]) (lenOf own_pd31 rfl) rfl (Nat.le_of_eq rfl) (dB at_72) (fun _ _ => ⟨rfl, e28, Nat.le_of_ble_eq_true rfl, Nat.le_of_ble_eq_true rfl⟩)
  dsimp only [Pt.U, Pt.locs, Pt.cells, Pt.slots] at X33 l33 y33 z33 st33 hQ33
  subst l33 y33 z33
  obtain ⟨rfl, Nq33, Kq33, F1q33, F2q33⟩ := hQ33
  have N33 := Fr.app N26 Nq33
  have D34 := CHr.keep Kq33 (sfS sf_g sf0) C31.1
  have C35 := C31.trans D34
  have KK4 : Keep h0 T33.heap ([] : List Addr) := KK3.trans Kq33 (allS (Or.inr s0_g) all0)
  have Zs4 : n0 ≤ T33.heap.size := Nat.le_trans Zs3 Kq33.1
  have e33 : T33.heap = T33.heap := rfl
  have nx : cs.length ≤ 2 := by rcases hcs with ⟨-, rfl⟩ | ⟨-, rfl⟩ | ⟨-, rfl⟩ <;> simp
  have ny : ds.length ≤ 2 := by rcases hds with ⟨-, rfl⟩ | ⟨-, rfl⟩ | ⟨-, rfl⟩ <;> simp
  have cc37 : oS p e below S0' T33 (mkF m 75 #[sI p1, sI p2, sI p3, sI na, sI nb, sI f0, sI f1, sI u0, sI u1, sR x, sR y, .unset] [(.ref g)]) := (Steps.trans cc32 st33)
  have fa36 : Old Z n0 T33.heap := (((fa24.keep Kq26 all0).keep K28 all0).keep Kq33 (allS gn_g all0))
  have fa38 : Exa Z T33.heap x "java/lang/String" := (Ex3.keep Kq33)
  have fa39 : Fld Z T33.heap x "java/lang/String" "coder" "B" (.int cdx) := (Cx3.keep Kq33 (ninS ne_x_g nin0))
  have fa40 : Fld Z T33.heap x "java/lang/String" "value" "[B" (.ref tx3) := (Vx3.keep Kq33 (ninS ne_x_g nin0))
  have fa41 : Arv Z T33.heap tx3 kx3 .byte Nx vsx (.int (0 : Int32)) := (Ax3.keep Kq33 (ninS ne_tx3_g nin0))
  have fa42 : Exa Z T33.heap y "java/lang/String" := (Ey3.keep Kq33)
  have fa43 : Fld Z T33.heap y "java/lang/String" "coder" "B" (.int cdy) := (Cy3.keep Kq33 (ninS ne_y_g nin0))
  have fa44 : Fld Z T33.heap y "java/lang/String" "value" "[B" (.ref ty3) := (Vy3.keep Kq33 (ninS ne_y_g nin0))
  have fa45 : Arv Z T33.heap ty3 ky3 .byte Ny vsy (.int (0 : Int32)) := (Ay3.keep Kq33 (ninS ne_ty3_g nin0))
  have fa46 : Exa Z T33.heap g "com/example/chronoforge/chronoforge/design/Precedence" := (A28.keep Kq33)
  obtain ⟨cq47, kq47, qa47, qb47, qc47⟩ := isOf hZ26 e33 fa46
  obtain ⟨_, _, ⟨T47, L47, k47, n47⟩, -, X47, hs47, gr47, ⟨Lc47, hQ47, l47, y47, z47, CH47⟩, st47⟩ := X33.virtualBackS hx (y := yM44) (z := yM44) hown26 (mvT hZ26 (own_w hw 54 rfl)) (mvT hZ26 (own_w hw 55 rfl)) (notFace_of_selects (args := #[]) (mvT hZ26 w_57)) (mvT hZ26 w_57) (mvT hZ26 (own_w hw 56 rfl)) (by decide) (backOfSH (W := 0) (own_pts l Z a0 hw g x y cs ds z f T33.heap n0 Zs4 fa36 O2 P5 O3 O4 hf F1q33 F2q33 (⟨fa38, px3, lx3, cdx, Nx, vsx, tx3, kx3, codx, fa39, fa40, fa41⟩ : own_Str Z T33.heap x cs) (⟨fa42, py3, ly3, cdy, Ny, vsy, ty3, ky3, cody, fa43, fa44, fa45⟩ : own_Str Z T33.heap y ds) nx ny) hZ26 (own_w hw 58 rfl) w_40 (by decide) (by decide) hEL C35.1) qa47 qc47 (g := (mkF m 75 #[sI p1, sI p2, sI p3, sI na, sI nb, sI f0, sI f1, sI u0, sI u1, sR x, sR y, .unset] [(.ref g)])) rfl (by rw [hml]; rfl) (Steps.refl _) (argsL := []) (rest := []) (lenOf own_pd29 rfl) rfl (Nat.le_of_eq rfl) (dB at_75) (fun _ _ => ⟨rfl, e33, Nat.le_of_ble_eq_true rfl, Nat.le_of_ble_eq_true rfl⟩)
  dsimp only [Pt.U, Pt.locs, Pt.cells, Pt.slots] at X47 l47 y47 z47 st47 hQ47 hs47 gr47 CH47
  subst l47 y47 z47
  obtain ⟨s1, rfl, Nq47, Kq47, Hs⟩ := hQ47
  obtain ⟨Xr47, hS47, hZ47, hown47⟩ := rebS hS26 (by rw [e33]; exact (Nat.le_trans (Nat.le_trans hk26 K28.1) Kq33.1)) X47 hs47 gr47 hZ26 hown26
  have hk47 : T47.heap.size ≤ T47.heap.size := Nat.le_refl _
  have C47 := C35.trans CH47
  have N47 := Fr.app N33 Nq47
  have KK5 : Keep h0 T47.heap ([] : List Addr) := KK4.trans Kq47 all0
  have Zs5 : n0 ≤ T47.heap.size := Nat.le_trans Zs4 Kq47.1
  have e47 : T47.heap = T47.heap := rfl
  have cc48 : oS p e below S0' T47 (mkF m 89 #[sI p1, sI p2, sI p3, sI na, sI nb, sI f0, sI f1, sI u0, sI u1, sR x, sR y, sR s1] [(.ref s1)]) := Steps.trans (Steps.trans cc37 st47) (by
    refine XS.astore Xr47.here hx rfl (dB at_78) rfl rfl rfl ?_
    refine XS.aload Xr47.here hx rfl (dB at_80) rfl rfl ?_
    refine XT.ifnonnullYes Xr47.here hx rfl (pc0 := 82) rfl (dB at_82) rfl (by decide) rfl ?_
    refine XS.aload Xr47.here hx rfl (dB at_87) rfl rfl ?_
    exact Steps.refl _)
  rcases hcs with ⟨rfl, rfl⟩ | ⟨rfl, rfl⟩ | ⟨rfl, rfl⟩
  · skip
    have Hg : own_Str Z T47.heap s1 (32 :: 45 :: 62 :: 32 :: ds) := Hs
    have Hf := Hg
    obtain ⟨Es1, ps1, ls1, cds1, Ns1, vss1, ts1, ks1, cods1, Cs1, Vs1, As1⟩ := Hf
    have cz49 : oS p e below S0' T47 (mkF m 89 #[sI p1, sI p2, sI p3, sI 0, sI nb, sI f0, sI f1, sI u0, sI u1, sR x, sR y, sR s1] [(.ref s1)]) := cc48
    have fa50 : Old Z n0 T47.heap := (fa36.keep Kq47 all0)
    obtain ⟨cq51, kq51, qa51, qb51, qc51⟩ := isOf hZ47 e47 Es1
    obtain ⟨_, _, ⟨T51, L51, k51, n51⟩, -, X51, ⟨Lc51, hQ51, l51, y51, z51⟩, st51⟩ := Xr47.virtualBack hx (y := yM20) (z := yM20) hown47 (mvT hZ47 w_170) (mvT hZ47 w_88) (notFace_of_selects (args := #[]) (mvT hZ47 w_90)) (mvT hZ47 w_90) (mvT hZ47 w_89) (by decide) (StrChars.Road.lenW (W := 0) hZ47 hw_wordsLen (kI := 4) w_6 Es1 Vs1 Cs1 As1 cods1 ps1 (O2.ext fa50.2) P5 ls1 (by decide) (by decide)) qa51 qc51 (g := (mkF m 89 #[sI p1, sI p2, sI p3, sI 0, sI nb, sI f0, sI f1, sI u0, sI u1, sR x, sR y, sR s1] [(.ref s1)])) rfl (by rw [hml]; rfl) (Steps.refl _) (argsL := []) (rest := []) (lenOf own_pd15 rfl) rfl (Nat.le_of_eq rfl) (dB at_89) (fun _ _ => ⟨rfl, e47, Nat.le_of_ble_eq_true rfl, Nat.le_of_ble_eq_true rfl⟩)
    dsimp only [Pt.U, Pt.locs, Pt.cells, Pt.slots] at X51 l51 y51 z51 st51 hQ51
    subst l51 y51 z51
    obtain ⟨rfl, rfl, eq51⟩ := hQ51
    have N51 := Fr.app N47 (Fr.nil n0)
    have e51 : T51.heap = T47.heap := eq51
    have cc52 : oS p e below S0' T51 (mkF m 141 #[sI p1, sI p2, sI p3, sI 0, sI nb, sI f0, sI f1, sI u0, sI u1, sR x, sR y, sR s1] [(.int 0), (.ref s1)]) := Steps.trans (Steps.trans cz49 st51) (by
      refine XS.iloadN X51.here hx rfl (dB at_92) rfl ?_
      refine iconstV X51.here hx rfl 4 (dB at_93) (by decide) ?_
      refine XS.iadd X51.here hx rfl (dB at_94) rfl ?_
      refine XS.iload X51.here hx rfl (dB at_95) rfl ?_
      refine XS.iadd X51.here hx rfl (dB at_97) rfl ?_
      refine XS.icmpYes X51.here hx rfl (pc0 := 98) rfl (dB at_98) rfl (ii_eq_t (by rcases hds with ⟨rfl, rfl⟩ | ⟨rfl, rfl⟩ | ⟨rfl, rfl⟩ <;> rfl)) (by decide) rfl ?_
      refine XS.iloadN X51.here hx rfl (dB at_103) rfl ?_
      refine XS.ifYes X51.here hx rfl (pc0 := 104) rfl (dB at_104) rfl (i0_le_t (by decide)) (by decide) rfl ?_
      refine XS.iloadN X51.here hx rfl (dB at_120) rfl ?_
      refine iconstV X51.here hx rfl 1 (dB at_121) (by decide) ?_
      refine XS.icmpYes X51.here hx rfl (pc0 := 122) rfl (dB at_122) rfl (ii_le_t (by decide)) (by decide) rfl ?_
      refine XS.aload X51.here hx rfl (dB at_138) rfl rfl ?_
      refine XS.iloadN X51.here hx rfl (dB at_140) rfl ?_
      exact Steps.refl _)
    have cz53 : oS p e below S0' T51 (mkF m 141 #[sI p1, sI p2, sI p3, sI 0, sI nb, sI f0, sI f1, sI u0, sI u1, sR x, sR y, sR s1] [(.int (Int32.ofNat 0)), (.ref s1)]) := cc52
    obtain ⟨cq54, kq54, qa54, qb54, qc54⟩ := isOf hZ47 e51 Es1
    obtain ⟨_, _, ⟨T54, L54, k54, n54⟩, -, X54, ⟨Lc54, hQ54, l54, y54, z54⟩, st54⟩ := X51.virtualBack hx (y := yM40) (z := yM40) hown47 (mvT hZ47 w_171) (mvT hZ47 w_172) (notFace_of_selects (args := #[]) (mvT hZ47 w_174)) (mvT hZ47 w_174) (mvT hZ47 w_173) (by decide) (backOf (W := 0) (own_che l Z a0 hw s1 (32 :: 45 :: 62 :: 32 :: ds) 0 z f T47.heap n0 Zs5 fa50 O2 P5 O3 O4 hf Hg (by simp)) hZ47 w_175 w_7 (by decide) (by decide)) qa54 qc54 (g := (mkF m 141 #[sI p1, sI p2, sI p3, sI 0, sI nb, sI f0, sI f1, sI u0, sI u1, sR x, sR y, sR s1] [(.int (Int32.ofNat 0)), (.ref s1)])) rfl (by rw [hml]; rfl) (Steps.refl _) (argsL := [(.int (Int32.ofNat 0))]) (rest := []) (lenOf own_pd32 rfl) rfl (Nat.le_of_eq rfl) (dB at_141) (fun _ _ => ⟨rfl, e51, Nat.le_of_ble_eq_true rfl, Nat.le_of_ble_eq_true rfl⟩)
    dsimp only [Pt.U, Pt.locs, Pt.cells, Pt.slots] at X54 l54 y54 z54 st54 hQ54
    subst l54 y54 z54
    obtain ⟨rfl, Nq54, eq54⟩ := hQ54
    have N54 := Fr.app N51 Nq54
    have e54 : T54.heap = T47.heap := eq54
    have cc55 : oS p e below S0' T54 (mkF m 156 #[sI p1, sI p2, sI p3, sI 0, sI nb, sI f0, sI f1, sI u0, sI u1, sR x, sR y, sR s1] [(.int ((0 : Int32) + (1 : Int32))), (.ref s1)]) := Steps.trans (Steps.trans cz53 st54) (by
      refine bipushV X54.here hx rfl 32 (dB at_144) (by decide) ?_
      refine XS.icmpYes X54.here hx rfl (pc0 := 146) rfl (dB at_146) rfl (ii_eq_t rfl) (by decide) rfl ?_
      refine XS.aload X54.here hx rfl (dB at_151) rfl rfl ?_
      refine XS.iloadN X54.here hx rfl (dB at_153) rfl ?_
      refine iconstV X54.here hx rfl 1 (dB at_154) (by decide) ?_
      refine XS.iadd X54.here hx rfl (dB at_155) rfl ?_
      exact Steps.refl _)
    have cz56 : oS p e below S0' T54 (mkF m 156 #[sI p1, sI p2, sI p3, sI 0, sI nb, sI f0, sI f1, sI u0, sI u1, sR x, sR y, sR s1] [(.int (Int32.ofNat 1)), (.ref s1)]) := cc55
    obtain ⟨cq57, kq57, qa57, qb57, qc57⟩ := isOf hZ47 e54 Es1
    obtain ⟨_, _, ⟨T57, L57, k57, n57⟩, -, X57, ⟨Lc57, hQ57, l57, y57, z57⟩, st57⟩ := X54.virtualBack hx (y := yM40) (z := yM40) hown47 (mvT hZ47 w_171) (mvT hZ47 w_172) (notFace_of_selects (args := #[]) (mvT hZ47 w_174)) (mvT hZ47 w_174) (mvT hZ47 w_173) (by decide) (backOf (W := 0) (own_che l Z a0 hw s1 (32 :: 45 :: 62 :: 32 :: ds) 1 z f T47.heap n0 Zs5 fa50 O2 P5 O3 O4 hf Hg (by simp)) hZ47 w_175 w_7 (by decide) (by decide)) qa57 qc57 (g := (mkF m 156 #[sI p1, sI p2, sI p3, sI 0, sI nb, sI f0, sI f1, sI u0, sI u1, sR x, sR y, sR s1] [(.int (Int32.ofNat 1)), (.ref s1)])) rfl (by rw [hml]; rfl) (Steps.refl _) (argsL := [(.int (Int32.ofNat 1))]) (rest := []) (lenOf own_pd32 rfl) rfl (Nat.le_of_eq rfl) (dB at_156) (fun _ _ => ⟨rfl, e54, Nat.le_of_ble_eq_true rfl, Nat.le_of_ble_eq_true rfl⟩)
    dsimp only [Pt.U, Pt.locs, Pt.cells, Pt.slots] at X57 l57 y57 z57 st57 hQ57
    subst l57 y57 z57
    obtain ⟨rfl, Nq57, eq57⟩ := hQ57
    have N57 := Fr.app N54 Nq57
    have e57 : T57.heap = T47.heap := eq57
    have cc58 : oS p e below S0' T57 (mkF m 171 #[sI p1, sI p2, sI p3, sI 0, sI nb, sI f0, sI f1, sI u0, sI u1, sR x, sR y, sR s1] [(.int ((0 : Int32) + (2 : Int32))), (.ref s1)]) := Steps.trans (Steps.trans cz56 st57) (by
      refine bipushV X57.here hx rfl 45 (dB at_159) (by decide) ?_
      refine XS.icmpYes X57.here hx rfl (pc0 := 161) rfl (dB at_161) rfl (ii_eq_t rfl) (by decide) rfl ?_
      refine XS.aload X57.here hx rfl (dB at_166) rfl rfl ?_
      refine XS.iloadN X57.here hx rfl (dB at_168) rfl ?_
      refine iconstV X57.here hx rfl 2 (dB at_169) (by decide) ?_
      refine XS.iadd X57.here hx rfl (dB at_170) rfl ?_
      exact Steps.refl _)
    have cz59 : oS p e below S0' T57 (mkF m 171 #[sI p1, sI p2, sI p3, sI 0, sI nb, sI f0, sI f1, sI u0, sI u1, sR x, sR y, sR s1] [(.int (Int32.ofNat 2)), (.ref s1)]) := cc58
    obtain ⟨cq60, kq60, qa60, qb60, qc60⟩ := isOf hZ47 e57 Es1
    obtain ⟨_, _, ⟨T60, L60, k60, n60⟩, -, X60, ⟨Lc60, hQ60, l60, y60, z60⟩, st60⟩ := X57.virtualBack hx (y := yM40) (z := yM40) hown47 (mvT hZ47 w_171) (mvT hZ47 w_172) (notFace_of_selects (args := #[]) (mvT hZ47 w_174)) (mvT hZ47 w_174) (mvT hZ47 w_173) (by decide) (backOf (W := 0) (own_che l Z a0 hw s1 (32 :: 45 :: 62 :: 32 :: ds) 2 z f T47.heap n0 Zs5 fa50 O2 P5 O3 O4 hf Hg (by simp)) hZ47 w_175 w_7 (by decide) (by decide)) qa60 qc60 (g := (mkF m 171 #[sI p1, sI p2, sI p3, sI 0, sI nb, sI f0, sI f1, sI u0, sI u1, sR x, sR y, sR s1] [(.int (Int32.ofNat 2)), (.ref s1)])) rfl (by rw [hml]; rfl) (Steps.refl _) (argsL := [(.int (Int32.ofNat 2))]) (rest := []) (lenOf own_pd32 rfl) rfl (Nat.le_of_eq rfl) (dB at_171) (fun _ _ => ⟨rfl, e57, Nat.le_of_ble_eq_true rfl, Nat.le_of_ble_eq_true rfl⟩)
    dsimp only [Pt.U, Pt.locs, Pt.cells, Pt.slots] at X60 l60 y60 z60 st60 hQ60
    subst l60 y60 z60
    obtain ⟨rfl, Nq60, eq60⟩ := hQ60
    have N60 := Fr.app N57 Nq60
    have e60 : T60.heap = T47.heap := eq60
    have cc61 : oS p e below S0' T60 (mkF m 186 #[sI p1, sI p2, sI p3, sI 0, sI nb, sI f0, sI f1, sI u0, sI u1, sR x, sR y, sR s1] [(.int ((0 : Int32) + (3 : Int32))), (.ref s1)]) := Steps.trans (Steps.trans cz59 st60) (by
      refine bipushV X60.here hx rfl 62 (dB at_174) (by decide) ?_
      refine XS.icmpYes X60.here hx rfl (pc0 := 176) rfl (dB at_176) rfl (ii_eq_t rfl) (by decide) rfl ?_
      refine XS.aload X60.here hx rfl (dB at_181) rfl rfl ?_
      refine XS.iloadN X60.here hx rfl (dB at_183) rfl ?_
      refine iconstV X60.here hx rfl 3 (dB at_184) (by decide) ?_
      refine XS.iadd X60.here hx rfl (dB at_185) rfl ?_
      exact Steps.refl _)
    have cz62 : oS p e below S0' T60 (mkF m 186 #[sI p1, sI p2, sI p3, sI 0, sI nb, sI f0, sI f1, sI u0, sI u1, sR x, sR y, sR s1] [(.int (Int32.ofNat 3)), (.ref s1)]) := cc61
    obtain ⟨cq63, kq63, qa63, qb63, qc63⟩ := isOf hZ47 e60 Es1
    obtain ⟨_, _, ⟨T63, L63, k63, n63⟩, -, X63, ⟨Lc63, hQ63, l63, y63, z63⟩, st63⟩ := X60.virtualBack hx (y := yM40) (z := yM40) hown47 (mvT hZ47 w_171) (mvT hZ47 w_172) (notFace_of_selects (args := #[]) (mvT hZ47 w_174)) (mvT hZ47 w_174) (mvT hZ47 w_173) (by decide) (backOf (W := 0) (own_che l Z a0 hw s1 (32 :: 45 :: 62 :: 32 :: ds) 3 z f T47.heap n0 Zs5 fa50 O2 P5 O3 O4 hf Hg (by simp)) hZ47 w_175 w_7 (by decide) (by decide)) qa63 qc63 (g := (mkF m 186 #[sI p1, sI p2, sI p3, sI 0, sI nb, sI f0, sI f1, sI u0, sI u1, sR x, sR y, sR s1] [(.int (Int32.ofNat 3)), (.ref s1)])) rfl (by rw [hml]; rfl) (Steps.refl _) (argsL := [(.int (Int32.ofNat 3))]) (rest := []) (lenOf own_pd32 rfl) rfl (Nat.le_of_eq rfl) (dB at_186) (fun _ _ => ⟨rfl, e60, Nat.le_of_ble_eq_true rfl, Nat.le_of_ble_eq_true rfl⟩)
    dsimp only [Pt.U, Pt.locs, Pt.cells, Pt.slots] at X63 l63 y63 z63 st63 hQ63
    subst l63 y63 z63
    obtain ⟨rfl, Nq63, eq63⟩ := hQ63
    have N63 := Fr.app N60 Nq63
    have e63 : T63.heap = T47.heap := eq63
    have cc64 : oS p e below S0' T63 (mkF m 198 #[sI p1, sI p2, sI p3, sI 0, sI nb, sI f0, sI f1, sI u0, sI u1, sR x, sR y, sR s1] [(.int nb)]) := Steps.trans (Steps.trans cz62 st63) (by
      refine bipushV X63.here hx rfl 32 (dB at_189) (by decide) ?_
      refine XS.icmpYes X63.here hx rfl (pc0 := 191) rfl (dB at_191) rfl (ii_eq_t rfl) (by decide) rfl ?_
      refine XS.iload X63.here hx rfl (dB at_196) rfl ?_
      exact Steps.refl _)
    rcases hds with ⟨rfl, rfl⟩ | ⟨rfl, rfl⟩ | ⟨rfl, rfl⟩
    · skip
      have cz65 : oS p e below S0' T63 (mkF m 198 #[sI p1, sI p2, sI p3, sI 0, sI 0, sI f0, sI f1, sI u0, sI u1, sR x, sR y, sR s1] [(.int 0)]) := cc64
      have cc66 : oS p e below S0' T63 (mkF m 238 #[sI p1, sI p2, sI p3, sI 0, sI 0, sI f0, sI f1, sI u0, sI u1, sR x, sR y, sR s1] [(.int 1)]) := Steps.trans cz65 (by
        refine XS.ifYes X63.here hx rfl (pc0 := 198) rfl (dB at_198) rfl (i0_le_t (by decide)) (by decide) rfl ?_
        refine XS.iload X63.here hx rfl (dB at_216) rfl ?_
        refine iconstV X63.here hx rfl 1 (dB at_218) (by decide) ?_
        refine XS.icmpYes X63.here hx rfl (pc0 := 219) rfl (dB at_219) rfl (ii_le_t (by decide)) (by decide) rfl ?_
        refine iconstV X63.here hx rfl 1 (dB at_237) (by decide) ?_
        exact Steps.refl _)
      have cE := cc66
      rw [hS0'] at cE
      obtain ⟨fs, hr_, hrun, hended, hE⟩ := X63.leaveW hS47 (by rw [e63]; exact hk47) (v := some (.int 1)) (fun h => by rw [Bd.returns] at h; cases h)
      have CE := C47.trans (CHv.at X63 hZ47 hEL C47.1)
      refine ⟨_, _, cE.trans (X63.ireturnOut hx Bd.returns (rfl) (by simp) (dB at_238) hr_), hrun, hended, _, _, rfl, ?_, ?_, hE.1, hE.2.1, hE.2.2.1, hE.2.2.2.mono (by first | decide | omega) (by first | decide | omega)⟩
      · show Q_own_law Z p1 p2 p3 z f h0 n0 _ T63.heap _
        rw [e63]
        exact ⟨rfl, N63⟩
      · rw [hh]
        show CHr Z EL s.vm h0 T63.vm T63.heap
        rw [e63]
        exact CE
    · skip
      have cz65 : oS p e below S0' T63 (mkF m 198 #[sI p1, sI p2, sI p3, sI 0, sI 1, sI f0, sI f1, sI u0, sI u1, sR x, sR y, sR s1] [(.int 1)]) := cc64
      have cc66 : oS p e below S0' T63 (mkF m 206 #[sI p1, sI p2, sI p3, sI 0, sI 1, sI f0, sI f1, sI u0, sI u1, sR x, sR y, sR s1] [(.int ((0 : Int32) + (4 : Int32))), (.ref s1)]) := Steps.trans cz65 (by
        refine XS.ifNo X63.here hx rfl (dB at_198) rfl (i0_le_f (by decide)) ?_
        refine XS.aload X63.here hx rfl (dB at_201) rfl rfl ?_
        refine XS.iloadN X63.here hx rfl (dB at_203) rfl ?_
        refine iconstV X63.here hx rfl 4 (dB at_204) (by decide) ?_
        refine XS.iadd X63.here hx rfl (dB at_205) rfl ?_
        exact Steps.refl _)
      have cz67 : oS p e below S0' T63 (mkF m 206 #[sI p1, sI p2, sI p3, sI 0, sI 1, sI f0, sI f1, sI u0, sI u1, sR x, sR y, sR s1] [(.int (Int32.ofNat 4)), (.ref s1)]) := cc66
      obtain ⟨cq68, kq68, qa68, qb68, qc68⟩ := isOf hZ47 e63 Es1
      obtain ⟨_, _, ⟨T68, L68, k68, n68⟩, -, X68, ⟨Lc68, hQ68, l68, y68, z68⟩, st68⟩ := X63.virtualBack hx (y := yM40) (z := yM40) hown47 (mvT hZ47 w_171) (mvT hZ47 w_172) (notFace_of_selects (args := #[]) (mvT hZ47 w_174)) (mvT hZ47 w_174) (mvT hZ47 w_173) (by decide) (backOf (W := 0) (own_che l Z a0 hw s1 ([32, 45, 62, 32, u0] : List Int32) 4 z f T47.heap n0 Zs5 fa50 O2 P5 O3 O4 hf Hg (by simp)) hZ47 w_175 w_7 (by decide) (by decide)) qa68 qc68 (g := (mkF m 206 #[sI p1, sI p2, sI p3, sI 0, sI 1, sI f0, sI f1, sI u0, sI u1, sR x, sR y, sR s1] [(.int (Int32.ofNat 4)), (.ref s1)])) rfl (by rw [hml]; rfl) (Steps.refl _) (argsL := [(.int (Int32.ofNat 4))]) (rest := []) (lenOf own_pd32 rfl) rfl (Nat.le_of_eq rfl) (dB at_206) (fun _ _ => ⟨rfl, e63, Nat.le_of_ble_eq_true rfl, Nat.le_of_ble_eq_true rfl⟩)
      dsimp only [Pt.U, Pt.locs, Pt.cells, Pt.slots] at X68 l68 y68 z68 st68 hQ68
      subst l68 y68 z68
      obtain ⟨rfl, Nq68, eq68⟩ := hQ68
      have N68 := Fr.app N63 Nq68
      have e68 : T68.heap = T47.heap := eq68
      have cc69 : oS p e below S0' T68 (mkF m 238 #[sI p1, sI p2, sI p3, sI 0, sI 1, sI f0, sI f1, sI u0, sI u1, sR x, sR y, sR s1] [(.int 1)]) := Steps.trans (Steps.trans cz67 st68) (by
        refine XS.iload X68.here hx rfl (dB at_209) rfl ?_
        refine XS.icmpYes X68.here hx rfl (pc0 := 211) rfl (dB at_211) rfl (ii_eq_t rfl) (by decide) rfl ?_
        refine XS.iload X68.here hx rfl (dB at_216) rfl ?_
        refine iconstV X68.here hx rfl 1 (dB at_218) (by decide) ?_
        refine XS.icmpYes X68.here hx rfl (pc0 := 219) rfl (dB at_219) rfl (ii_le_t (by decide)) (by decide) rfl ?_
        refine iconstV X68.here hx rfl 1 (dB at_237) (by decide) ?_
        exact Steps.refl _)
      have cE := cc69
      rw [hS0'] at cE
      obtain ⟨fs, hr_, hrun, hended, hE⟩ := X68.leaveW hS47 (by rw [e68]; exact hk47) (v := some (.int 1)) (fun h => by rw [Bd.returns] at h; cases h)
      have CE := C47.trans (CHv.at X68 hZ47 hEL C47.1)
      refine ⟨_, _, cE.trans (X68.ireturnOut hx Bd.returns (rfl) (by simp) (dB at_238) hr_), hrun, hended, _, _, rfl, ?_, ?_, hE.1, hE.2.1, hE.2.2.1, hE.2.2.2.mono (by first | decide | omega) (by first | decide | omega)⟩
      · show Q_own_law Z p1 p2 p3 z f h0 n0 _ T68.heap _
        rw [e68]
        exact ⟨rfl, N68⟩
      · rw [hh]
        show CHr Z EL s.vm h0 T68.vm T68.heap
        rw [e68]
        exact CE
    · skip
      have cz65 : oS p e below S0' T63 (mkF m 198 #[sI p1, sI p2, sI p3, sI 0, sI 2, sI f0, sI f1, sI u0, sI u1, sR x, sR y, sR s1] [(.int 2)]) := cc64
      have cc66 : oS p e below S0' T63 (mkF m 206 #[sI p1, sI p2, sI p3, sI 0, sI 2, sI f0, sI f1, sI u0, sI u1, sR x, sR y, sR s1] [(.int ((0 : Int32) + (4 : Int32))), (.ref s1)]) := Steps.trans cz65 (by
        refine XS.ifNo X63.here hx rfl (dB at_198) rfl (i0_le_f (by decide)) ?_
        refine XS.aload X63.here hx rfl (dB at_201) rfl rfl ?_
        refine XS.iloadN X63.here hx rfl (dB at_203) rfl ?_
        refine iconstV X63.here hx rfl 4 (dB at_204) (by decide) ?_
        refine XS.iadd X63.here hx rfl (dB at_205) rfl ?_
        exact Steps.refl _)
      have cz67 : oS p e below S0' T63 (mkF m 206 #[sI p1, sI p2, sI p3, sI 0, sI 2, sI f0, sI f1, sI u0, sI u1, sR x, sR y, sR s1] [(.int (Int32.ofNat 4)), (.ref s1)]) := cc66
      obtain ⟨cq68, kq68, qa68, qb68, qc68⟩ := isOf hZ47 e63 Es1
      obtain ⟨_, _, ⟨T68, L68, k68, n68⟩, -, X68, ⟨Lc68, hQ68, l68, y68, z68⟩, st68⟩ := X63.virtualBack hx (y := yM40) (z := yM40) hown47 (mvT hZ47 w_171) (mvT hZ47 w_172) (notFace_of_selects (args := #[]) (mvT hZ47 w_174)) (mvT hZ47 w_174) (mvT hZ47 w_173) (by decide) (backOf (W := 0) (own_che l Z a0 hw s1 ([32, 45, 62, 32, u0, u1] : List Int32) 4 z f T47.heap n0 Zs5 fa50 O2 P5 O3 O4 hf Hg (by simp)) hZ47 w_175 w_7 (by decide) (by decide)) qa68 qc68 (g := (mkF m 206 #[sI p1, sI p2, sI p3, sI 0, sI 2, sI f0, sI f1, sI u0, sI u1, sR x, sR y, sR s1] [(.int (Int32.ofNat 4)), (.ref s1)])) rfl (by rw [hml]; rfl) (Steps.refl _) (argsL := [(.int (Int32.ofNat 4))]) (rest := []) (lenOf own_pd32 rfl) rfl (Nat.le_of_eq rfl) (dB at_206) (fun _ _ => ⟨rfl, e63, Nat.le_of_ble_eq_true rfl, Nat.le_of_ble_eq_true rfl⟩)
      dsimp only [Pt.U, Pt.locs, Pt.cells, Pt.slots] at X68 l68 y68 z68 st68 hQ68
      subst l68 y68 z68
      obtain ⟨rfl, Nq68, eq68⟩ := hQ68
      have N68 := Fr.app N63 Nq68
      have e68 : T68.heap = T47.heap := eq68
      have cc69 : oS p e below S0' T68 (mkF m 227 #[sI p1, sI p2, sI p3, sI 0, sI 2, sI f0, sI f1, sI u0, sI u1, sR x, sR y, sR s1] [(.int ((0 : Int32) + (5 : Int32))), (.ref s1)]) := Steps.trans (Steps.trans cz67 st68) (by
        refine XS.iload X68.here hx rfl (dB at_209) rfl ?_
        refine XS.icmpYes X68.here hx rfl (pc0 := 211) rfl (dB at_211) rfl (ii_eq_t rfl) (by decide) rfl ?_
        refine XS.iload X68.here hx rfl (dB at_216) rfl ?_
        refine iconstV X68.here hx rfl 1 (dB at_218) (by decide) ?_
        refine XS.icmpNo X68.here hx rfl (dB at_219) rfl (ii_le_f (by decide)) ?_
        refine XS.aload X68.here hx rfl (dB at_222) rfl rfl ?_
        refine XS.iloadN X68.here hx rfl (dB at_224) rfl ?_
        refine iconstV X68.here hx rfl 5 (dB at_225) (by decide) ?_
        refine XS.iadd X68.here hx rfl (dB at_226) rfl ?_
        exact Steps.refl _)
      have cz70 : oS p e below S0' T68 (mkF m 227 #[sI p1, sI p2, sI p3, sI 0, sI 2, sI f0, sI f1, sI u0, sI u1, sR x, sR y, sR s1] [(.int (Int32.ofNat 5)), (.ref s1)]) := cc69
      obtain ⟨cq71, kq71, qa71, qb71, qc71⟩ := isOf hZ47 e68 Es1
      obtain ⟨_, _, ⟨T71, L71, k71, n71⟩, -, X71, ⟨Lc71, hQ71, l71, y71, z71⟩, st71⟩ := X68.virtualBack hx (y := yM40) (z := yM40) hown47 (mvT hZ47 w_171) (mvT hZ47 w_172) (notFace_of_selects (args := #[]) (mvT hZ47 w_174)) (mvT hZ47 w_174) (mvT hZ47 w_173) (by decide) (backOf (W := 0) (own_che l Z a0 hw s1 ([32, 45, 62, 32, u0, u1] : List Int32) 5 z f T47.heap n0 Zs5 fa50 O2 P5 O3 O4 hf Hg (by simp)) hZ47 w_175 w_7 (by decide) (by decide)) qa71 qc71 (g := (mkF m 227 #[sI p1, sI p2, sI p3, sI 0, sI 2, sI f0, sI f1, sI u0, sI u1, sR x, sR y, sR s1] [(.int (Int32.ofNat 5)), (.ref s1)])) rfl (by rw [hml]; rfl) (Steps.refl _) (argsL := [(.int (Int32.ofNat 5))]) (rest := []) (lenOf own_pd32 rfl) rfl (Nat.le_of_eq rfl) (dB at_227) (fun _ _ => ⟨rfl, e68, Nat.le_of_ble_eq_true rfl, Nat.le_of_ble_eq_true rfl⟩)
      dsimp only [Pt.U, Pt.locs, Pt.cells, Pt.slots] at X71 l71 y71 z71 st71 hQ71
      subst l71 y71 z71
      obtain ⟨rfl, Nq71, eq71⟩ := hQ71
      have N71 := Fr.app N68 Nq71
      have e71 : T71.heap = T47.heap := eq71
      have cc72 : oS p e below S0' T71 (mkF m 238 #[sI p1, sI p2, sI p3, sI 0, sI 2, sI f0, sI f1, sI u0, sI u1, sR x, sR y, sR s1] [(.int 1)]) := Steps.trans (Steps.trans cz70 st71) (by
        refine XS.iload X71.here hx rfl (dB at_230) rfl ?_
        refine XS.icmpYes X71.here hx rfl (pc0 := 232) rfl (dB at_232) rfl (ii_eq_t rfl) (by decide) rfl ?_
        refine iconstV X71.here hx rfl 1 (dB at_237) (by decide) ?_
        exact Steps.refl _)
      have cE := cc72
      rw [hS0'] at cE
      obtain ⟨fs, hr_, hrun, hended, hE⟩ := X71.leaveW hS47 (by rw [e71]; exact hk47) (v := some (.int 1)) (fun h => by rw [Bd.returns] at h; cases h)
      have CE := C47.trans (CHv.at X71 hZ47 hEL C47.1)
      refine ⟨_, _, cE.trans (X71.ireturnOut hx Bd.returns (rfl) (by simp) (dB at_238) hr_), hrun, hended, _, _, rfl, ?_, ?_, hE.1, hE.2.1, hE.2.2.1, hE.2.2.2.mono (by first | decide | omega) (by first | decide | omega)⟩
      · show Q_own_law Z p1 p2 p3 z f h0 n0 _ T71.heap _
        rw [e71]
        exact ⟨rfl, N71⟩
      · rw [hh]
        show CHr Z EL s.vm h0 T71.vm T71.heap
        rw [e71]
        exact CE
  · skip
    have Hg : own_Str Z T47.heap s1 (f0 :: 32 :: 45 :: 62 :: 32 :: ds) := Hs
    have Hf := Hg
    obtain ⟨Es1, ps1, ls1, cds1, Ns1, vss1, ts1, ks1, cods1, Cs1, Vs1, As1⟩ := Hf
    have cz49 : oS p e below S0' T47 (mkF m 89 #[sI p1, sI p2, sI p3, sI 1, sI nb, sI f0, sI f1, sI u0, sI u1, sR x, sR y, sR s1] [(.ref s1)]) := cc48
    have fa50 : Old Z n0 T47.heap := (fa36.keep Kq47 all0)
    obtain ⟨cq51, kq51, qa51, qb51, qc51⟩ := isOf hZ47 e47 Es1
    obtain ⟨_, _, ⟨T51, L51, k51, n51⟩, -, X51, ⟨Lc51, hQ51, l51, y51, z51⟩, st51⟩ := Xr47.virtualBack hx (y := yM20) (z := yM20) hown47 (mvT hZ47 w_170) (mvT hZ47 w_88) (notFace_of_selects (args := #[]) (mvT hZ47 w_90)) (mvT hZ47 w_90) (mvT hZ47 w_89) (by decide) (StrChars.Road.lenW (W := 0) hZ47 hw_wordsLen (kI := 4) w_6 Es1 Vs1 Cs1 As1 cods1 ps1 (O2.ext fa50.2) P5 ls1 (by decide) (by decide)) qa51 qc51 (g := (mkF m 89 #[sI p1, sI p2, sI p3, sI 1, sI nb, sI f0, sI f1, sI u0, sI u1, sR x, sR y, sR s1] [(.ref s1)])) rfl (by rw [hml]; rfl) (Steps.refl _) (argsL := []) (rest := []) (lenOf own_pd15 rfl) rfl (Nat.le_of_eq rfl) (dB at_89) (fun _ _ => ⟨rfl, e47, Nat.le_of_ble_eq_true rfl, Nat.le_of_ble_eq_true rfl⟩)
    dsimp only [Pt.U, Pt.locs, Pt.cells, Pt.slots] at X51 l51 y51 z51 st51 hQ51
    subst l51 y51 z51
    obtain ⟨rfl, rfl, eq51⟩ := hQ51
    have N51 := Fr.app N47 (Fr.nil n0)
    have e51 : T51.heap = T47.heap := eq51
    have cc52 : oS p e below S0' T51 (mkF m 110 #[sI p1, sI p2, sI p3, sI 1, sI nb, sI f0, sI f1, sI u0, sI u1, sR x, sR y, sR s1] [(.int 0), (.ref s1)]) := Steps.trans (Steps.trans cz49 st51) (by
      refine XS.iloadN X51.here hx rfl (dB at_92) rfl ?_
      refine iconstV X51.here hx rfl 4 (dB at_93) (by decide) ?_
      refine XS.iadd X51.here hx rfl (dB at_94) rfl ?_
      refine XS.iload X51.here hx rfl (dB at_95) rfl ?_
      refine XS.iadd X51.here hx rfl (dB at_97) rfl ?_
      refine XS.icmpYes X51.here hx rfl (pc0 := 98) rfl (dB at_98) rfl (ii_eq_t (by rcases hds with ⟨rfl, rfl⟩ | ⟨rfl, rfl⟩ | ⟨rfl, rfl⟩ <;> rfl)) (by decide) rfl ?_
      refine XS.iloadN X51.here hx rfl (dB at_103) rfl ?_
      refine XS.ifNo X51.here hx rfl (dB at_104) rfl (i0_le_f (by decide)) ?_
      refine XS.aload X51.here hx rfl (dB at_107) rfl rfl ?_
      refine iconstV X51.here hx rfl 0 (dB at_109) (by decide) ?_
      exact Steps.refl _)
    have cz53 : oS p e below S0' T51 (mkF m 110 #[sI p1, sI p2, sI p3, sI 1, sI nb, sI f0, sI f1, sI u0, sI u1, sR x, sR y, sR s1] [(.int (Int32.ofNat 0)), (.ref s1)]) := cc52
    obtain ⟨cq54, kq54, qa54, qb54, qc54⟩ := isOf hZ47 e51 Es1
    obtain ⟨_, _, ⟨T54, L54, k54, n54⟩, -, X54, ⟨Lc54, hQ54, l54, y54, z54⟩, st54⟩ := X51.virtualBack hx (y := yM40) (z := yM40) hown47 (mvT hZ47 w_171) (mvT hZ47 w_172) (notFace_of_selects (args := #[]) (mvT hZ47 w_174)) (mvT hZ47 w_174) (mvT hZ47 w_173) (by decide) (backOf (W := 0) (own_che l Z a0 hw s1 (f0 :: 32 :: 45 :: 62 :: 32 :: ds) 0 z f T47.heap n0 Zs5 fa50 O2 P5 O3 O4 hf Hg (by simp)) hZ47 w_175 w_7 (by decide) (by decide)) qa54 qc54 (g := (mkF m 110 #[sI p1, sI p2, sI p3, sI 1, sI nb, sI f0, sI f1, sI u0, sI u1, sR x, sR y, sR s1] [(.int (Int32.ofNat 0)), (.ref s1)])) rfl (by rw [hml]; rfl) (Steps.refl _) (argsL := [(.int (Int32.ofNat 0))]) (rest := []) (lenOf own_pd32 rfl) rfl (Nat.le_of_eq rfl) (dB at_110) (fun _ _ => ⟨rfl, e51, Nat.le_of_ble_eq_true rfl, Nat.le_of_ble_eq_true rfl⟩)
    dsimp only [Pt.U, Pt.locs, Pt.cells, Pt.slots] at X54 l54 y54 z54 st54 hQ54
    subst l54 y54 z54
    obtain ⟨rfl, Nq54, eq54⟩ := hQ54
    have N54 := Fr.app N51 Nq54
    have e54 : T54.heap = T47.heap := eq54
    have cc55 : oS p e below S0' T54 (mkF m 141 #[sI p1, sI p2, sI p3, sI 1, sI nb, sI f0, sI f1, sI u0, sI u1, sR x, sR y, sR s1] [(.int 1), (.ref s1)]) := Steps.trans (Steps.trans cz53 st54) (by
      refine XS.iload X54.here hx rfl (dB at_113) rfl ?_
      refine XS.icmpYes X54.here hx rfl (pc0 := 115) rfl (dB at_115) rfl (ii_eq_t rfl) (by decide) rfl ?_
      refine XS.iloadN X54.here hx rfl (dB at_120) rfl ?_
      refine iconstV X54.here hx rfl 1 (dB at_121) (by decide) ?_
      refine XS.icmpYes X54.here hx rfl (pc0 := 122) rfl (dB at_122) rfl (ii_le_t (by decide)) (by decide) rfl ?_
      refine XS.aload X54.here hx rfl (dB at_138) rfl rfl ?_
      refine XS.iloadN X54.here hx rfl (dB at_140) rfl ?_
      exact Steps.refl _)
    have cz56 : oS p e below S0' T54 (mkF m 141 #[sI p1, sI p2, sI p3, sI 1, sI nb, sI f0, sI f1, sI u0, sI u1, sR x, sR y, sR s1] [(.int (Int32.ofNat 1)), (.ref s1)]) := cc55
    obtain ⟨cq57, kq57, qa57, qb57, qc57⟩ := isOf hZ47 e54 Es1
    obtain ⟨_, _, ⟨T57, L57, k57, n57⟩, -, X57, ⟨Lc57, hQ57, l57, y57, z57⟩, st57⟩ := X54.virtualBack hx (y := yM40) (z := yM40) hown47 (mvT hZ47 w_171) (mvT hZ47 w_172) (notFace_of_selects (args := #[]) (mvT hZ47 w_174)) (mvT hZ47 w_174) (mvT hZ47 w_173) (by decide) (backOf (W := 0) (own_che l Z a0 hw s1 (f0 :: 32 :: 45 :: 62 :: 32 :: ds) 1 z f T47.heap n0 Zs5 fa50 O2 P5 O3 O4 hf Hg (by simp)) hZ47 w_175 w_7 (by decide) (by decide)) qa57 qc57 (g := (mkF m 141 #[sI p1, sI p2, sI p3, sI 1, sI nb, sI f0, sI f1, sI u0, sI u1, sR x, sR y, sR s1] [(.int (Int32.ofNat 1)), (.ref s1)])) rfl (by rw [hml]; rfl) (Steps.refl _) (argsL := [(.int (Int32.ofNat 1))]) (rest := []) (lenOf own_pd32 rfl) rfl (Nat.le_of_eq rfl) (dB at_141) (fun _ _ => ⟨rfl, e54, Nat.le_of_ble_eq_true rfl, Nat.le_of_ble_eq_true rfl⟩)
    dsimp only [Pt.U, Pt.locs, Pt.cells, Pt.slots] at X57 l57 y57 z57 st57 hQ57
    subst l57 y57 z57
    obtain ⟨rfl, Nq57, eq57⟩ := hQ57
    have N57 := Fr.app N54 Nq57
    have e57 : T57.heap = T47.heap := eq57
    have cc58 : oS p e below S0' T57 (mkF m 156 #[sI p1, sI p2, sI p3, sI 1, sI nb, sI f0, sI f1, sI u0, sI u1, sR x, sR y, sR s1] [(.int ((1 : Int32) + (1 : Int32))), (.ref s1)]) := Steps.trans (Steps.trans cz56 st57) (by
      refine bipushV X57.here hx rfl 32 (dB at_144) (by decide) ?_
      refine XS.icmpYes X57.here hx rfl (pc0 := 146) rfl (dB at_146) rfl (ii_eq_t rfl) (by decide) rfl ?_
      refine XS.aload X57.here hx rfl (dB at_151) rfl rfl ?_
      refine XS.iloadN X57.here hx rfl (dB at_153) rfl ?_
      refine iconstV X57.here hx rfl 1 (dB at_154) (by decide) ?_
      refine XS.iadd X57.here hx rfl (dB at_155) rfl ?_
      exact Steps.refl _)
    have cz59 : oS p e below S0' T57 (mkF m 156 #[sI p1, sI p2, sI p3, sI 1, sI nb, sI f0, sI f1, sI u0, sI u1, sR x, sR y, sR s1] [(.int (Int32.ofNat 2)), (.ref s1)]) := cc58
    obtain ⟨cq60, kq60, qa60, qb60, qc60⟩ := isOf hZ47 e57 Es1
    obtain ⟨_, _, ⟨T60, L60, k60, n60⟩, -, X60, ⟨Lc60, hQ60, l60, y60, z60⟩, st60⟩ := X57.virtualBack hx (y := yM40) (z := yM40) hown47 (mvT hZ47 w_171) (mvT hZ47 w_172) (notFace_of_selects (args := #[]) (mvT hZ47 w_174)) (mvT hZ47 w_174) (mvT hZ47 w_173) (by decide) (backOf (W := 0) (own_che l Z a0 hw s1 (f0 :: 32 :: 45 :: 62 :: 32 :: ds) 2 z f T47.heap n0 Zs5 fa50 O2 P5 O3 O4 hf Hg (by simp)) hZ47 w_175 w_7 (by decide) (by decide)) qa60 qc60 (g := (mkF m 156 #[sI p1, sI p2, sI p3, sI 1, sI nb, sI f0, sI f1, sI u0, sI u1, sR x, sR y, sR s1] [(.int (Int32.ofNat 2)), (.ref s1)])) rfl (by rw [hml]; rfl) (Steps.refl _) (argsL := [(.int (Int32.ofNat 2))]) (rest := []) (lenOf own_pd32 rfl) rfl (Nat.le_of_eq rfl) (dB at_156) (fun _ _ => ⟨rfl, e57, Nat.le_of_ble_eq_true rfl, Nat.le_of_ble_eq_true rfl⟩)
    dsimp only [Pt.U, Pt.locs, Pt.cells, Pt.slots] at X60 l60 y60 z60 st60 hQ60
    subst l60 y60 z60
    obtain ⟨rfl, Nq60, eq60⟩ := hQ60
    have N60 := Fr.app N57 Nq60
    have e60 : T60.heap = T47.heap := eq60
    have cc61 : oS p e below S0' T60 (mkF m 171 #[sI p1, sI p2, sI p3, sI 1, sI nb, sI f0, sI f1, sI u0, sI u1, sR x, sR y, sR s1] [(.int ((1 : Int32) + (2 : Int32))), (.ref s1)]) := Steps.trans (Steps.trans cz59 st60) (by
      refine bipushV X60.here hx rfl 45 (dB at_159) (by decide) ?_
      refine XS.icmpYes X60.here hx rfl (pc0 := 161) rfl (dB at_161) rfl (ii_eq_t rfl) (by decide) rfl ?_
      refine XS.aload X60.here hx rfl (dB at_166) rfl rfl ?_
      refine XS.iloadN X60.here hx rfl (dB at_168) rfl ?_
      refine iconstV X60.here hx rfl 2 (dB at_169) (by decide) ?_
      refine XS.iadd X60.here hx rfl (dB at_170) rfl ?_
      exact Steps.refl _)
    have cz62 : oS p e below S0' T60 (mkF m 171 #[sI p1, sI p2, sI p3, sI 1, sI nb, sI f0, sI f1, sI u0, sI u1, sR x, sR y, sR s1] [(.int (Int32.ofNat 3)), (.ref s1)]) := cc61
    obtain ⟨cq63, kq63, qa63, qb63, qc63⟩ := isOf hZ47 e60 Es1
    obtain ⟨_, _, ⟨T63, L63, k63, n63⟩, -, X63, ⟨Lc63, hQ63, l63, y63, z63⟩, st63⟩ := X60.virtualBack hx (y := yM40) (z := yM40) hown47 (mvT hZ47 w_171) (mvT hZ47 w_172) (notFace_of_selects (args := #[]) (mvT hZ47 w_174)) (mvT hZ47 w_174) (mvT hZ47 w_173) (by decide) (backOf (W := 0) (own_che l Z a0 hw s1 (f0 :: 32 :: 45 :: 62 :: 32 :: ds) 3 z f T47.heap n0 Zs5 fa50 O2 P5 O3 O4 hf Hg (by simp)) hZ47 w_175 w_7 (by decide) (by decide)) qa63 qc63 (g := (mkF m 171 #[sI p1, sI p2, sI p3, sI 1, sI nb, sI f0, sI f1, sI u0, sI u1, sR x, sR y, sR s1] [(.int (Int32.ofNat 3)), (.ref s1)])) rfl (by rw [hml]; rfl) (Steps.refl _) (argsL := [(.int (Int32.ofNat 3))]) (rest := []) (lenOf own_pd32 rfl) rfl (Nat.le_of_eq rfl) (dB at_171) (fun _ _ => ⟨rfl, e60, Nat.le_of_ble_eq_true rfl, Nat.le_of_ble_eq_true rfl⟩)
    dsimp only [Pt.U, Pt.locs, Pt.cells, Pt.slots] at X63 l63 y63 z63 st63 hQ63
    subst l63 y63 z63
    obtain ⟨rfl, Nq63, eq63⟩ := hQ63
    have N63 := Fr.app N60 Nq63
    have e63 : T63.heap = T47.heap := eq63
    have cc64 : oS p e below S0' T63 (mkF m 186 #[sI p1, sI p2, sI p3, sI 1, sI nb, sI f0, sI f1, sI u0, sI u1, sR x, sR y, sR s1] [(.int ((1 : Int32) + (3 : Int32))), (.ref s1)]) := Steps.trans (Steps.trans cz62 st63) (by
      refine bipushV X63.here hx rfl 62 (dB at_174) (by decide) ?_
      refine XS.icmpYes X63.here hx rfl (pc0 := 176) rfl (dB at_176) rfl (ii_eq_t rfl) (by decide) rfl ?_
      refine XS.aload X63.here hx rfl (dB at_181) rfl rfl ?_
      refine XS.iloadN X63.here hx rfl (dB at_183) rfl ?_
      refine iconstV X63.here hx rfl 3 (dB at_184) (by decide) ?_
      refine XS.iadd X63.here hx rfl (dB at_185) rfl ?_
      exact Steps.refl _)
    have cz65 : oS p e below S0' T63 (mkF m 186 #[sI p1, sI p2, sI p3, sI 1, sI nb, sI f0, sI f1, sI u0, sI u1, sR x, sR y, sR s1] [(.int (Int32.ofNat 4)), (.ref s1)]) := cc64
    obtain ⟨cq66, kq66, qa66, qb66, qc66⟩ := isOf hZ47 e63 Es1
    obtain ⟨_, _, ⟨T66, L66, k66, n66⟩, -, X66, ⟨Lc66, hQ66, l66, y66, z66⟩, st66⟩ := X63.virtualBack hx (y := yM40) (z := yM40) hown47 (mvT hZ47 w_171) (mvT hZ47 w_172) (notFace_of_selects (args := #[]) (mvT hZ47 w_174)) (mvT hZ47 w_174) (mvT hZ47 w_173) (by decide) (backOf (W := 0) (own_che l Z a0 hw s1 (f0 :: 32 :: 45 :: 62 :: 32 :: ds) 4 z f T47.heap n0 Zs5 fa50 O2 P5 O3 O4 hf Hg (by simp)) hZ47 w_175 w_7 (by decide) (by decide)) qa66 qc66 (g := (mkF m 186 #[sI p1, sI p2, sI p3, sI 1, sI nb, sI f0, sI f1, sI u0, sI u1, sR x, sR y, sR s1] [(.int (Int32.ofNat 4)), (.ref s1)])) rfl (by rw [hml]; rfl) (Steps.refl _) (argsL := [(.int (Int32.ofNat 4))]) (rest := []) (lenOf own_pd32 rfl) rfl (Nat.le_of_eq rfl) (dB at_186) (fun _ _ => ⟨rfl, e63, Nat.le_of_ble_eq_true rfl, Nat.le_of_ble_eq_true rfl⟩)
    dsimp only [Pt.U, Pt.locs, Pt.cells, Pt.slots] at X66 l66 y66 z66 st66 hQ66
    subst l66 y66 z66
    obtain ⟨rfl, Nq66, eq66⟩ := hQ66
    have N66 := Fr.app N63 Nq66
    have e66 : T66.heap = T47.heap := eq66
    have cc67 : oS p e below S0' T66 (mkF m 198 #[sI p1, sI p2, sI p3, sI 1, sI nb, sI f0, sI f1, sI u0, sI u1, sR x, sR y, sR s1] [(.int nb)]) := Steps.trans (Steps.trans cz65 st66) (by
      refine bipushV X66.here hx rfl 32 (dB at_189) (by decide) ?_
      refine XS.icmpYes X66.here hx rfl (pc0 := 191) rfl (dB at_191) rfl (ii_eq_t rfl) (by decide) rfl ?_
      refine XS.iload X66.here hx rfl (dB at_196) rfl ?_
      exact Steps.refl _)
    rcases hds with ⟨rfl, rfl⟩ | ⟨rfl, rfl⟩ | ⟨rfl, rfl⟩
    · skip
      have cz68 : oS p e below S0' T66 (mkF m 198 #[sI p1, sI p2, sI p3, sI 1, sI 0, sI f0, sI f1, sI u0, sI u1, sR x, sR y, sR s1] [(.int 0)]) := cc67
      have cc69 : oS p e below S0' T66 (mkF m 238 #[sI p1, sI p2, sI p3, sI 1, sI 0, sI f0, sI f1, sI u0, sI u1, sR x, sR y, sR s1] [(.int 1)]) := Steps.trans cz68 (by
        refine XS.ifYes X66.here hx rfl (pc0 := 198) rfl (dB at_198) rfl (i0_le_t (by decide)) (by decide) rfl ?_
        refine XS.iload X66.here hx rfl (dB at_216) rfl ?_
        refine iconstV X66.here hx rfl 1 (dB at_218) (by decide) ?_
        refine XS.icmpYes X66.here hx rfl (pc0 := 219) rfl (dB at_219) rfl (ii_le_t (by decide)) (by decide) rfl ?_
        refine iconstV X66.here hx rfl 1 (dB at_237) (by decide) ?_
        exact Steps.refl _)
      have cE := cc69
      rw [hS0'] at cE
      obtain ⟨fs, hr_, hrun, hended, hE⟩ := X66.leaveW hS47 (by rw [e66]; exact hk47) (v := some (.int 1)) (fun h => by rw [Bd.returns] at h; cases h)
      have CE := C47.trans (CHv.at X66 hZ47 hEL C47.1)
      refine ⟨_, _, cE.trans (X66.ireturnOut hx Bd.returns (rfl) (by simp) (dB at_238) hr_), hrun, hended, _, _, rfl, ?_, ?_, hE.1, hE.2.1, hE.2.2.1, hE.2.2.2.mono (by first | decide | omega) (by first | decide | omega)⟩
      · show Q_own_law Z p1 p2 p3 z f h0 n0 _ T66.heap _
        rw [e66]
        exact ⟨rfl, N66⟩
      · rw [hh]
        show CHr Z EL s.vm h0 T66.vm T66.heap
        rw [e66]
        exact CE
    · skip
      have cz68 : oS p e below S0' T66 (mkF m 198 #[sI p1, sI p2, sI p3, sI 1, sI 1, sI f0, sI f1, sI u0, sI u1, sR x, sR y, sR s1] [(.int 1)]) := cc67
      have cc69 : oS p e below S0' T66 (mkF m 206 #[sI p1, sI p2, sI p3, sI 1, sI 1, sI f0, sI f1, sI u0, sI u1, sR x, sR y, sR s1] [(.int ((1 : Int32) + (4 : Int32))), (.ref s1)]) := Steps.trans cz68 (by
        refine XS.ifNo X66.here hx rfl (dB at_198) rfl (i0_le_f (by decide)) ?_
        refine XS.aload X66.here hx rfl (dB at_201) rfl rfl ?_
        refine XS.iloadN X66.here hx rfl (dB at_203) rfl ?_
        refine iconstV X66.here hx rfl 4 (dB at_204) (by decide) ?_
        refine XS.iadd X66.here hx rfl (dB at_205) rfl ?_
        exact Steps.refl _)
      have cz70 : oS p e below S0' T66 (mkF m 206 #[sI p1, sI p2, sI p3, sI 1, sI 1, sI f0, sI f1, sI u0, sI u1, sR x, sR y, sR s1] [(.int (Int32.ofNat 5)), (.ref s1)]) := cc69
      obtain ⟨cq71, kq71, qa71, qb71, qc71⟩ := isOf hZ47 e66 Es1
      obtain ⟨_, _, ⟨T71, L71, k71, n71⟩, -, X71, ⟨Lc71, hQ71, l71, y71, z71⟩, st71⟩ := X66.virtualBack hx (y := yM40) (z := yM40) hown47 (mvT hZ47 w_171) (mvT hZ47 w_172) (notFace_of_selects (args := #[]) (mvT hZ47 w_174)) (mvT hZ47 w_174) (mvT hZ47 w_173) (by decide) (backOf (W := 0) (own_che l Z a0 hw s1 ([f0, 32, 45, 62, 32, u0] : List Int32) 5 z f T47.heap n0 Zs5 fa50 O2 P5 O3 O4 hf Hg (by simp)) hZ47 w_175 w_7 (by decide) (by decide)) qa71 qc71 (g := (mkF m 206 #[sI p1, sI p2, sI p3, sI 1, sI 1, sI f0, sI f1, sI u0, sI u1, sR x, sR y, sR s1] [(.int (Int32.ofNat 5)), (.ref s1)])) rfl (by rw [hml]; rfl) (Steps.refl _) (argsL := [(.int (Int32.ofNat 5))]) (rest := []) (lenOf own_pd32 rfl) rfl (Nat.le_of_eq rfl) (dB at_206) (fun _ _ => ⟨rfl, e66, Nat.le_of_ble_eq_true rfl, Nat.le_of_ble_eq_true rfl⟩)
      dsimp only [Pt.U, Pt.locs, Pt.cells, Pt.slots] at X71 l71 y71 z71 st71 hQ71
      subst l71 y71 z71
      obtain ⟨rfl, Nq71, eq71⟩ := hQ71
      have N71 := Fr.app N66 Nq71
      have e71 : T71.heap = T47.heap := eq71
      have cc72 : oS p e below S0' T71 (mkF m 238 #[sI p1, sI p2, sI p3, sI 1, sI 1, sI f0, sI f1, sI u0, sI u1, sR x, sR y, sR s1] [(.int 1)]) := Steps.trans (Steps.trans cz70 st71) (by
        refine XS.iload X71.here hx rfl (dB at_209) rfl ?_
        refine XS.icmpYes X71.here hx rfl (pc0 := 211) rfl (dB at_211) rfl (ii_eq_t rfl) (by decide) rfl ?_
        refine XS.iload X71.here hx rfl (dB at_216) rfl ?_
        refine iconstV X71.here hx rfl 1 (dB at_218) (by decide) ?_
        refine XS.icmpYes X71.here hx rfl (pc0 := 219) rfl (dB at_219) rfl (ii_le_t (by decide)) (by decide) rfl ?_
        refine iconstV X71.here hx rfl 1 (dB at_237) (by decide) ?_
        exact Steps.refl _)
      have cE := cc72
      rw [hS0'] at cE
      obtain ⟨fs, hr_, hrun, hended, hE⟩ := X71.leaveW hS47 (by rw [e71]; exact hk47) (v := some (.int 1)) (fun h => by rw [Bd.returns] at h; cases h)
      have CE := C47.trans (CHv.at X71 hZ47 hEL C47.1)
      refine ⟨_, _, cE.trans (X71.ireturnOut hx Bd.returns (rfl) (by simp) (dB at_238) hr_), hrun, hended, _, _, rfl, ?_, ?_, hE.1, hE.2.1, hE.2.2.1, hE.2.2.2.mono (by first | decide | omega) (by first | decide | omega)⟩
      · show Q_own_law Z p1 p2 p3 z f h0 n0 _ T71.heap _
        rw [e71]
        exact ⟨rfl, N71⟩
      · rw [hh]
        show CHr Z EL s.vm h0 T71.vm T71.heap
        rw [e71]
        exact CE
    · skip
      have cz68 : oS p e below S0' T66 (mkF m 198 #[sI p1, sI p2, sI p3, sI 1, sI 2, sI f0, sI f1, sI u0, sI u1, sR x, sR y, sR s1] [(.int 2)]) := cc67
      have cc69 : oS p e below S0' T66 (mkF m 206 #[sI p1, sI p2, sI p3, sI 1, sI 2, sI f0, sI f1, sI u0, sI u1, sR x, sR y, sR s1] [(.int ((1 : Int32) + (4 : Int32))), (.ref s1)]) := Steps.trans cz68 (by
        refine XS.ifNo X66.here hx rfl (dB at_198) rfl (i0_le_f (by decide)) ?_
        refine XS.aload X66.here hx rfl (dB at_201) rfl rfl ?_
        refine XS.iloadN X66.here hx rfl (dB at_203) rfl ?_
        refine iconstV X66.here hx rfl 4 (dB at_204) (by decide) ?_
        refine XS.iadd X66.here hx rfl (dB at_205) rfl ?_
        exact Steps.refl _)
      have cz70 : oS p e below S0' T66 (mkF m 206 #[sI p1, sI p2, sI p3, sI 1, sI 2, sI f0, sI f1, sI u0, sI u1, sR x, sR y, sR s1] [(.int (Int32.ofNat 5)), (.ref s1)]) := cc69
      obtain ⟨cq71, kq71, qa71, qb71, qc71⟩ := isOf hZ47 e66 Es1
      obtain ⟨_, _, ⟨T71, L71, k71, n71⟩, -, X71, ⟨Lc71, hQ71, l71, y71, z71⟩, st71⟩ := X66.virtualBack hx (y := yM40) (z := yM40) hown47 (mvT hZ47 w_171) (mvT hZ47 w_172) (notFace_of_selects (args := #[]) (mvT hZ47 w_174)) (mvT hZ47 w_174) (mvT hZ47 w_173) (by decide) (backOf (W := 0) (own_che l Z a0 hw s1 ([f0, 32, 45, 62, 32, u0, u1] : List Int32) 5 z f T47.heap n0 Zs5 fa50 O2 P5 O3 O4 hf Hg (by simp)) hZ47 w_175 w_7 (by decide) (by decide)) qa71 qc71 (g := (mkF m 206 #[sI p1, sI p2, sI p3, sI 1, sI 2, sI f0, sI f1, sI u0, sI u1, sR x, sR y, sR s1] [(.int (Int32.ofNat 5)), (.ref s1)])) rfl (by rw [hml]; rfl) (Steps.refl _) (argsL := [(.int (Int32.ofNat 5))]) (rest := []) (lenOf own_pd32 rfl) rfl (Nat.le_of_eq rfl) (dB at_206) (fun _ _ => ⟨rfl, e66, Nat.le_of_ble_eq_true rfl, Nat.le_of_ble_eq_true rfl⟩)
      dsimp only [Pt.U, Pt.locs, Pt.cells, Pt.slots] at X71 l71 y71 z71 st71 hQ71
      subst l71 y71 z71
      obtain ⟨rfl, Nq71, eq71⟩ := hQ71
      have N71 := Fr.app N66 Nq71
      have e71 : T71.heap = T47.heap := eq71
      have cc72 : oS p e below S0' T71 (mkF m 227 #[sI p1, sI p2, sI p3, sI 1, sI 2, sI f0, sI f1, sI u0, sI u1, sR x, sR y, sR s1] [(.int ((1 : Int32) + (5 : Int32))), (.ref s1)]) := Steps.trans (Steps.trans cz70 st71) (by
        refine XS.iload X71.here hx rfl (dB at_209) rfl ?_
        refine XS.icmpYes X71.here hx rfl (pc0 := 211) rfl (dB at_211) rfl (ii_eq_t rfl) (by decide) rfl ?_
        refine XS.iload X71.here hx rfl (dB at_216) rfl ?_
        refine iconstV X71.here hx rfl 1 (dB at_218) (by decide) ?_
        refine XS.icmpNo X71.here hx rfl (dB at_219) rfl (ii_le_f (by decide)) ?_
        refine XS.aload X71.here hx rfl (dB at_222) rfl rfl ?_
        refine XS.iloadN X71.here hx rfl (dB at_224) rfl ?_
        refine iconstV X71.here hx rfl 5 (dB at_225) (by decide) ?_
        refine XS.iadd X71.here hx rfl (dB at_226) rfl ?_
        exact Steps.refl _)
      have cz73 : oS p e below S0' T71 (mkF m 227 #[sI p1, sI p2, sI p3, sI 1, sI 2, sI f0, sI f1, sI u0, sI u1, sR x, sR y, sR s1] [(.int (Int32.ofNat 6)), (.ref s1)]) := cc72
      obtain ⟨cq74, kq74, qa74, qb74, qc74⟩ := isOf hZ47 e71 Es1
      obtain ⟨_, _, ⟨T74, L74, k74, n74⟩, -, X74, ⟨Lc74, hQ74, l74, y74, z74⟩, st74⟩ := X71.virtualBack hx (y := yM40) (z := yM40) hown47 (mvT hZ47 w_171) (mvT hZ47 w_172) (notFace_of_selects (args := #[]) (mvT hZ47 w_174)) (mvT hZ47 w_174) (mvT hZ47 w_173) (by decide) (backOf (W := 0) (own_che l Z a0 hw s1 ([f0, 32, 45, 62, 32, u0, u1] : List Int32) 6 z f T47.heap n0 Zs5 fa50 O2 P5 O3 O4 hf Hg (by simp)) hZ47 w_175 w_7 (by decide) (by decide)) qa74 qc74 (g := (mkF m 227 #[sI p1, sI p2, sI p3, sI 1, sI 2, sI f0, sI f1, sI u0, sI u1, sR x, sR y, sR s1] [(.int (Int32.ofNat 6)), (.ref s1)])) rfl (by rw [hml]; rfl) (Steps.refl _) (argsL := [(.int (Int32.ofNat 6))]) (rest := []) (lenOf own_pd32 rfl) rfl (Nat.le_of_eq rfl) (dB at_227) (fun _ _ => ⟨rfl, e71, Nat.le_of_ble_eq_true rfl, Nat.le_of_ble_eq_true rfl⟩)
      dsimp only [Pt.U, Pt.locs, Pt.cells, Pt.slots] at X74 l74 y74 z74 st74 hQ74
      subst l74 y74 z74
      obtain ⟨rfl, Nq74, eq74⟩ := hQ74
      have N74 := Fr.app N71 Nq74
      have e74 : T74.heap = T47.heap := eq74
      have cc75 : oS p e below S0' T74 (mkF m 238 #[sI p1, sI p2, sI p3, sI 1, sI 2, sI f0, sI f1, sI u0, sI u1, sR x, sR y, sR s1] [(.int 1)]) := Steps.trans (Steps.trans cz73 st74) (by
        refine XS.iload X74.here hx rfl (dB at_230) rfl ?_
        refine XS.icmpYes X74.here hx rfl (pc0 := 232) rfl (dB at_232) rfl (ii_eq_t rfl) (by decide) rfl ?_
        refine iconstV X74.here hx rfl 1 (dB at_237) (by decide) ?_
        exact Steps.refl _)
      have cE := cc75
      rw [hS0'] at cE
      obtain ⟨fs, hr_, hrun, hended, hE⟩ := X74.leaveW hS47 (by rw [e74]; exact hk47) (v := some (.int 1)) (fun h => by rw [Bd.returns] at h; cases h)
      have CE := C47.trans (CHv.at X74 hZ47 hEL C47.1)
      refine ⟨_, _, cE.trans (X74.ireturnOut hx Bd.returns (rfl) (by simp) (dB at_238) hr_), hrun, hended, _, _, rfl, ?_, ?_, hE.1, hE.2.1, hE.2.2.1, hE.2.2.2.mono (by first | decide | omega) (by first | decide | omega)⟩
      · show Q_own_law Z p1 p2 p3 z f h0 n0 _ T74.heap _
        rw [e74]
        exact ⟨rfl, N74⟩
      · rw [hh]
        show CHr Z EL s.vm h0 T74.vm T74.heap
        rw [e74]
        exact CE
  · skip
    have Hg : own_Str Z T47.heap s1 (f0 :: f1 :: 32 :: 45 :: 62 :: 32 :: ds) := Hs
    have Hf := Hg
    obtain ⟨Es1, ps1, ls1, cds1, Ns1, vss1, ts1, ks1, cods1, Cs1, Vs1, As1⟩ := Hf
    have cz49 : oS p e below S0' T47 (mkF m 89 #[sI p1, sI p2, sI p3, sI 2, sI nb, sI f0, sI f1, sI u0, sI u1, sR x, sR y, sR s1] [(.ref s1)]) := cc48
    have fa50 : Old Z n0 T47.heap := (fa36.keep Kq47 all0)
    obtain ⟨cq51, kq51, qa51, qb51, qc51⟩ := isOf hZ47 e47 Es1
    obtain ⟨_, _, ⟨T51, L51, k51, n51⟩, -, X51, ⟨Lc51, hQ51, l51, y51, z51⟩, st51⟩ := Xr47.virtualBack hx (y := yM20) (z := yM20) hown47 (mvT hZ47 w_170) (mvT hZ47 w_88) (notFace_of_selects (args := #[]) (mvT hZ47 w_90)) (mvT hZ47 w_90) (mvT hZ47 w_89) (by decide) (StrChars.Road.lenW (W := 0) hZ47 hw_wordsLen (kI := 4) w_6 Es1 Vs1 Cs1 As1 cods1 ps1 (O2.ext fa50.2) P5 ls1 (by decide) (by decide)) qa51 qc51 (g := (mkF m 89 #[sI p1, sI p2, sI p3, sI 2, sI nb, sI f0, sI f1, sI u0, sI u1, sR x, sR y, sR s1] [(.ref s1)])) rfl (by rw [hml]; rfl) (Steps.refl _) (argsL := []) (rest := []) (lenOf own_pd15 rfl) rfl (Nat.le_of_eq rfl) (dB at_89) (fun _ _ => ⟨rfl, e47, Nat.le_of_ble_eq_true rfl, Nat.le_of_ble_eq_true rfl⟩)
    dsimp only [Pt.U, Pt.locs, Pt.cells, Pt.slots] at X51 l51 y51 z51 st51 hQ51
    subst l51 y51 z51
    obtain ⟨rfl, rfl, eq51⟩ := hQ51
    have N51 := Fr.app N47 (Fr.nil n0)
    have e51 : T51.heap = T47.heap := eq51
    have cc52 : oS p e below S0' T51 (mkF m 110 #[sI p1, sI p2, sI p3, sI 2, sI nb, sI f0, sI f1, sI u0, sI u1, sR x, sR y, sR s1] [(.int 0), (.ref s1)]) := Steps.trans (Steps.trans cz49 st51) (by
      refine XS.iloadN X51.here hx rfl (dB at_92) rfl ?_
      refine iconstV X51.here hx rfl 4 (dB at_93) (by decide) ?_
      refine XS.iadd X51.here hx rfl (dB at_94) rfl ?_
      refine XS.iload X51.here hx rfl (dB at_95) rfl ?_
      refine XS.iadd X51.here hx rfl (dB at_97) rfl ?_
      refine XS.icmpYes X51.here hx rfl (pc0 := 98) rfl (dB at_98) rfl (ii_eq_t (by rcases hds with ⟨rfl, rfl⟩ | ⟨rfl, rfl⟩ | ⟨rfl, rfl⟩ <;> rfl)) (by decide) rfl ?_
      refine XS.iloadN X51.here hx rfl (dB at_103) rfl ?_
      refine XS.ifNo X51.here hx rfl (dB at_104) rfl (i0_le_f (by decide)) ?_
      refine XS.aload X51.here hx rfl (dB at_107) rfl rfl ?_
      refine iconstV X51.here hx rfl 0 (dB at_109) (by decide) ?_
      exact Steps.refl _)
    have cz53 : oS p e below S0' T51 (mkF m 110 #[sI p1, sI p2, sI p3, sI 2, sI nb, sI f0, sI f1, sI u0, sI u1, sR x, sR y, sR s1] [(.int (Int32.ofNat 0)), (.ref s1)]) := cc52
    obtain ⟨cq54, kq54, qa54, qb54, qc54⟩ := isOf hZ47 e51 Es1
    obtain ⟨_, _, ⟨T54, L54, k54, n54⟩, -, X54, ⟨Lc54, hQ54, l54, y54, z54⟩, st54⟩ := X51.virtualBack hx (y := yM40) (z := yM40) hown47 (mvT hZ47 w_171) (mvT hZ47 w_172) (notFace_of_selects (args := #[]) (mvT hZ47 w_174)) (mvT hZ47 w_174) (mvT hZ47 w_173) (by decide) (backOf (W := 0) (own_che l Z a0 hw s1 (f0 :: f1 :: 32 :: 45 :: 62 :: 32 :: ds) 0 z f T47.heap n0 Zs5 fa50 O2 P5 O3 O4 hf Hg (by simp)) hZ47 w_175 w_7 (by decide) (by decide)) qa54 qc54 (g := (mkF m 110 #[sI p1, sI p2, sI p3, sI 2, sI nb, sI f0, sI f1, sI u0, sI u1, sR x, sR y, sR s1] [(.int (Int32.ofNat 0)), (.ref s1)])) rfl (by rw [hml]; rfl) (Steps.refl _) (argsL := [(.int (Int32.ofNat 0))]) (rest := []) (lenOf own_pd32 rfl) rfl (Nat.le_of_eq rfl) (dB at_110) (fun _ _ => ⟨rfl, e51, Nat.le_of_ble_eq_true rfl, Nat.le_of_ble_eq_true rfl⟩)
    dsimp only [Pt.U, Pt.locs, Pt.cells, Pt.slots] at X54 l54 y54 z54 st54 hQ54
    subst l54 y54 z54
    obtain ⟨rfl, Nq54, eq54⟩ := hQ54
    have N54 := Fr.app N51 Nq54
    have e54 : T54.heap = T47.heap := eq54
    have cc55 : oS p e below S0' T54 (mkF m 128 #[sI p1, sI p2, sI p3, sI 2, sI nb, sI f0, sI f1, sI u0, sI u1, sR x, sR y, sR s1] [(.int 1), (.ref s1)]) := Steps.trans (Steps.trans cz53 st54) (by
      refine XS.iload X54.here hx rfl (dB at_113) rfl ?_
      refine XS.icmpYes X54.here hx rfl (pc0 := 115) rfl (dB at_115) rfl (ii_eq_t rfl) (by decide) rfl ?_
      refine XS.iloadN X54.here hx rfl (dB at_120) rfl ?_
      refine iconstV X54.here hx rfl 1 (dB at_121) (by decide) ?_
      refine XS.icmpNo X54.here hx rfl (dB at_122) rfl (ii_le_f (by decide)) ?_
      refine XS.aload X54.here hx rfl (dB at_125) rfl rfl ?_
      refine iconstV X54.here hx rfl 1 (dB at_127) (by decide) ?_
      exact Steps.refl _)
    have cz56 : oS p e below S0' T54 (mkF m 128 #[sI p1, sI p2, sI p3, sI 2, sI nb, sI f0, sI f1, sI u0, sI u1, sR x, sR y, sR s1] [(.int (Int32.ofNat 1)), (.ref s1)]) := cc55
    obtain ⟨cq57, kq57, qa57, qb57, qc57⟩ := isOf hZ47 e54 Es1
    obtain ⟨_, _, ⟨T57, L57, k57, n57⟩, -, X57, ⟨Lc57, hQ57, l57, y57, z57⟩, st57⟩ := X54.virtualBack hx (y := yM40) (z := yM40) hown47 (mvT hZ47 w_171) (mvT hZ47 w_172) (notFace_of_selects (args := #[]) (mvT hZ47 w_174)) (mvT hZ47 w_174) (mvT hZ47 w_173) (by decide) (backOf (W := 0) (own_che l Z a0 hw s1 (f0 :: f1 :: 32 :: 45 :: 62 :: 32 :: ds) 1 z f T47.heap n0 Zs5 fa50 O2 P5 O3 O4 hf Hg (by simp)) hZ47 w_175 w_7 (by decide) (by decide)) qa57 qc57 (g := (mkF m 128 #[sI p1, sI p2, sI p3, sI 2, sI nb, sI f0, sI f1, sI u0, sI u1, sR x, sR y, sR s1] [(.int (Int32.ofNat 1)), (.ref s1)])) rfl (by rw [hml]; rfl) (Steps.refl _) (argsL := [(.int (Int32.ofNat 1))]) (rest := []) (lenOf own_pd32 rfl) rfl (Nat.le_of_eq rfl) (dB at_128) (fun _ _ => ⟨rfl, e54, Nat.le_of_ble_eq_true rfl, Nat.le_of_ble_eq_true rfl⟩)
    dsimp only [Pt.U, Pt.locs, Pt.cells, Pt.slots] at X57 l57 y57 z57 st57 hQ57
    subst l57 y57 z57
    obtain ⟨rfl, Nq57, eq57⟩ := hQ57
    have N57 := Fr.app N54 Nq57
    have e57 : T57.heap = T47.heap := eq57
    have cc58 : oS p e below S0' T57 (mkF m 141 #[sI p1, sI p2, sI p3, sI 2, sI nb, sI f0, sI f1, sI u0, sI u1, sR x, sR y, sR s1] [(.int 2), (.ref s1)]) := Steps.trans (Steps.trans cz56 st57) (by
      refine XS.iload X57.here hx rfl (dB at_131) rfl ?_
      refine XS.icmpYes X57.here hx rfl (pc0 := 133) rfl (dB at_133) rfl (ii_eq_t rfl) (by decide) rfl ?_
      refine XS.aload X57.here hx rfl (dB at_138) rfl rfl ?_
      refine XS.iloadN X57.here hx rfl (dB at_140) rfl ?_
      exact Steps.refl _)
    have cz59 : oS p e below S0' T57 (mkF m 141 #[sI p1, sI p2, sI p3, sI 2, sI nb, sI f0, sI f1, sI u0, sI u1, sR x, sR y, sR s1] [(.int (Int32.ofNat 2)), (.ref s1)]) := cc58
    obtain ⟨cq60, kq60, qa60, qb60, qc60⟩ := isOf hZ47 e57 Es1
    obtain ⟨_, _, ⟨T60, L60, k60, n60⟩, -, X60, ⟨Lc60, hQ60, l60, y60, z60⟩, st60⟩ := X57.virtualBack hx (y := yM40) (z := yM40) hown47 (mvT hZ47 w_171) (mvT hZ47 w_172) (notFace_of_selects (args := #[]) (mvT hZ47 w_174)) (mvT hZ47 w_174) (mvT hZ47 w_173) (by decide) (backOf (W := 0) (own_che l Z a0 hw s1 (f0 :: f1 :: 32 :: 45 :: 62 :: 32 :: ds) 2 z f T47.heap n0 Zs5 fa50 O2 P5 O3 O4 hf Hg (by simp)) hZ47 w_175 w_7 (by decide) (by decide)) qa60 qc60 (g := (mkF m 141 #[sI p1, sI p2, sI p3, sI 2, sI nb, sI f0, sI f1, sI u0, sI u1, sR x, sR y, sR s1] [(.int (Int32.ofNat 2)), (.ref s1)])) rfl (by rw [hml]; rfl) (Steps.refl _) (argsL := [(.int (Int32.ofNat 2))]) (rest := []) (lenOf own_pd32 rfl) rfl (Nat.le_of_eq rfl) (dB at_141) (fun _ _ => ⟨rfl, e57, Nat.le_of_ble_eq_true rfl, Nat.le_of_ble_eq_true rfl⟩)
    dsimp only [Pt.U, Pt.locs, Pt.cells, Pt.slots] at X60 l60 y60 z60 st60 hQ60
    subst l60 y60 z60
    obtain ⟨rfl, Nq60, eq60⟩ := hQ60
    have N60 := Fr.app N57 Nq60
    have e60 : T60.heap = T47.heap := eq60
    have cc61 : oS p e below S0' T60 (mkF m 156 #[sI p1, sI p2, sI p3, sI 2, sI nb, sI f0, sI f1, sI u0, sI u1, sR x, sR y, sR s1] [(.int ((2 : Int32) + (1 : Int32))), (.ref s1)]) := Steps.trans (Steps.trans cz59 st60) (by
      refine bipushV X60.here hx rfl 32 (dB at_144) (by decide) ?_
      refine XS.icmpYes X60.here hx rfl (pc0 := 146) rfl (dB at_146) rfl (ii_eq_t rfl) (by decide) rfl ?_
      refine XS.aload X60.here hx rfl (dB at_151) rfl rfl ?_
      refine XS.iloadN X60.here hx rfl (dB at_153) rfl ?_
      refine iconstV X60.here hx rfl 1 (dB at_154) (by decide) ?_
      refine XS.iadd X60.here hx rfl (dB at_155) rfl ?_
      exact Steps.refl _)
    have cz62 : oS p e below S0' T60 (mkF m 156 #[sI p1, sI p2, sI p3, sI 2, sI nb, sI f0, sI f1, sI u0, sI u1, sR x, sR y, sR s1] [(.int (Int32.ofNat 3)), (.ref s1)]) := cc61
    obtain ⟨cq63, kq63, qa63, qb63, qc63⟩ := isOf hZ47 e60 Es1
    obtain ⟨_, _, ⟨T63, L63, k63, n63⟩, -, X63, ⟨Lc63, hQ63, l63, y63, z63⟩, st63⟩ := X60.virtualBack hx (y := yM40) (z := yM40) hown47 (mvT hZ47 w_171) (mvT hZ47 w_172) (notFace_of_selects (args := #[]) (mvT hZ47 w_174)) (mvT hZ47 w_174) (mvT hZ47 w_173) (by decide) (backOf (W := 0) (own_che l Z a0 hw s1 (f0 :: f1 :: 32 :: 45 :: 62 :: 32 :: ds) 3 z f T47.heap n0 Zs5 fa50 O2 P5 O3 O4 hf Hg (by simp)) hZ47 w_175 w_7 (by decide) (by decide)) qa63 qc63 (g := (mkF m 156 #[sI p1, sI p2, sI p3, sI 2, sI nb, sI f0, sI f1, sI u0, sI u1, sR x, sR y, sR s1] [(.int (Int32.ofNat 3)), (.ref s1)])) rfl (by rw [hml]; rfl) (Steps.refl _) (argsL := [(.int (Int32.ofNat 3))]) (rest := []) (lenOf own_pd32 rfl) rfl (Nat.le_of_eq rfl) (dB at_156) (fun _ _ => ⟨rfl, e60, Nat.le_of_ble_eq_true rfl, Nat.le_of_ble_eq_true rfl⟩)
    dsimp only [Pt.U, Pt.locs, Pt.cells, Pt.slots] at X63 l63 y63 z63 st63 hQ63
    subst l63 y63 z63
    obtain ⟨rfl, Nq63, eq63⟩ := hQ63
    have N63 := Fr.app N60 Nq63
    have e63 : T63.heap = T47.heap := eq63
    have cc64 : oS p e below S0' T63 (mkF m 171 #[sI p1, sI p2, sI p3, sI 2, sI nb, sI f0, sI f1, sI u0, sI u1, sR x, sR y, sR s1] [(.int ((2 : Int32) + (2 : Int32))), (.ref s1)]) := Steps.trans (Steps.trans cz62 st63) (by
      refine bipushV X63.here hx rfl 45 (dB at_159) (by decide) ?_
      refine XS.icmpYes X63.here hx rfl (pc0 := 161) rfl (dB at_161) rfl (ii_eq_t rfl) (by decide) rfl ?_
      refine XS.aload X63.here hx rfl (dB at_166) rfl rfl ?_
      refine XS.iloadN X63.here hx rfl (dB at_168) rfl ?_
      refine iconstV X63.here hx rfl 2 (dB at_169) (by decide) ?_
      refine XS.iadd X63.here hx rfl (dB at_170) rfl ?_
      exact Steps.refl _)
    have cz65 : oS p e below S0' T63 (mkF m 171 #[sI p1, sI p2, sI p3, sI 2, sI nb, sI f0, sI f1, sI u0, sI u1, sR x, sR y, sR s1] [(.int (Int32.ofNat 4)), (.ref s1)]) := cc64
    obtain ⟨cq66, kq66, qa66, qb66, qc66⟩ := isOf hZ47 e63 Es1
    obtain ⟨_, _, ⟨T66, L66, k66, n66⟩, -, X66, ⟨Lc66, hQ66, l66, y66, z66⟩, st66⟩ := X63.virtualBack hx (y := yM40) (z := yM40) hown47 (mvT hZ47 w_171) (mvT hZ47 w_172) (notFace_of_selects (args := #[]) (mvT hZ47 w_174)) (mvT hZ47 w_174) (mvT hZ47 w_173) (by decide) (backOf (W := 0) (own_che l Z a0 hw s1 (f0 :: f1 :: 32 :: 45 :: 62 :: 32 :: ds) 4 z f T47.heap n0 Zs5 fa50 O2 P5 O3 O4 hf Hg (by simp)) hZ47 w_175 w_7 (by decide) (by decide)) qa66 qc66 (g := (mkF m 171 #[sI p1, sI p2, sI p3, sI 2, sI nb, sI f0, sI f1, sI u0, sI u1, sR x, sR y, sR s1] [(.int (Int32.ofNat 4)), (.ref s1)])) rfl (by rw [hml]; rfl) (Steps.refl _) (argsL := [(.int (Int32.ofNat 4))]) (rest := []) (lenOf own_pd32 rfl) rfl (Nat.le_of_eq rfl) (dB at_171) (fun _ _ => ⟨rfl, e63, Nat.le_of_ble_eq_true rfl, Nat.le_of_ble_eq_true rfl⟩)
    dsimp only [Pt.U, Pt.locs, Pt.cells, Pt.slots] at X66 l66 y66 z66 st66 hQ66
    subst l66 y66 z66
    obtain ⟨rfl, Nq66, eq66⟩ := hQ66
    have N66 := Fr.app N63 Nq66
    have e66 : T66.heap = T47.heap := eq66
    have cc67 : oS p e below S0' T66 (mkF m 186 #[sI p1, sI p2, sI p3, sI 2, sI nb, sI f0, sI f1, sI u0, sI u1, sR x, sR y, sR s1] [(.int ((2 : Int32) + (3 : Int32))), (.ref s1)]) := Steps.trans (Steps.trans cz65 st66) (by
      refine bipushV X66.here hx rfl 62 (dB at_174) (by decide) ?_
      refine XS.icmpYes X66.here hx rfl (pc0 := 176) rfl (dB at_176) rfl (ii_eq_t rfl) (by decide) rfl ?_
      refine XS.aload X66.here hx rfl (dB at_181) rfl rfl ?_
      refine XS.iloadN X66.here hx rfl (dB at_183) rfl ?_
      refine iconstV X66.here hx rfl 3 (dB at_184) (by decide) ?_
      refine XS.iadd X66.here hx rfl (dB at_185) rfl ?_
      exact Steps.refl _)
    have cz68 : oS p e below S0' T66 (mkF m 186 #[sI p1, sI p2, sI p3, sI 2, sI nb, sI f0, sI f1, sI u0, sI u1, sR x, sR y, sR s1] [(.int (Int32.ofNat 5)), (.ref s1)]) := cc67
    obtain ⟨cq69, kq69, qa69, qb69, qc69⟩ := isOf hZ47 e66 Es1
    obtain ⟨_, _, ⟨T69, L69, k69, n69⟩, -, X69, ⟨Lc69, hQ69, l69, y69, z69⟩, st69⟩ := X66.virtualBack hx (y := yM40) (z := yM40) hown47 (mvT hZ47 w_171) (mvT hZ47 w_172) (notFace_of_selects (args := #[]) (mvT hZ47 w_174)) (mvT hZ47 w_174) (mvT hZ47 w_173) (by decide) (backOf (W := 0) (own_che l Z a0 hw s1 (f0 :: f1 :: 32 :: 45 :: 62 :: 32 :: ds) 5 z f T47.heap n0 Zs5 fa50 O2 P5 O3 O4 hf Hg (by simp)) hZ47 w_175 w_7 (by decide) (by decide)) qa69 qc69 (g := (mkF m 186 #[sI p1, sI p2, sI p3, sI 2, sI nb, sI f0, sI f1, sI u0, sI u1, sR x, sR y, sR s1] [(.int (Int32.ofNat 5)), (.ref s1)])) rfl (by rw [hml]; rfl) (Steps.refl _) (argsL := [(.int (Int32.ofNat 5))]) (rest := []) (lenOf own_pd32 rfl) rfl (Nat.le_of_eq rfl) (dB at_186) (fun _ _ => ⟨rfl, e66, Nat.le_of_ble_eq_true rfl, Nat.le_of_ble_eq_true rfl⟩)
    dsimp only [Pt.U, Pt.locs, Pt.cells, Pt.slots] at X69 l69 y69 z69 st69 hQ69
    subst l69 y69 z69
    obtain ⟨rfl, Nq69, eq69⟩ := hQ69
    have N69 := Fr.app N66 Nq69
    have e69 : T69.heap = T47.heap := eq69
    have cc70 : oS p e below S0' T69 (mkF m 198 #[sI p1, sI p2, sI p3, sI 2, sI nb, sI f0, sI f1, sI u0, sI u1, sR x, sR y, sR s1] [(.int nb)]) := Steps.trans (Steps.trans cz68 st69) (by
      refine bipushV X69.here hx rfl 32 (dB at_189) (by decide) ?_
      refine XS.icmpYes X69.here hx rfl (pc0 := 191) rfl (dB at_191) rfl (ii_eq_t rfl) (by decide) rfl ?_
      refine XS.iload X69.here hx rfl (dB at_196) rfl ?_
      exact Steps.refl _)
    rcases hds with ⟨rfl, rfl⟩ | ⟨rfl, rfl⟩ | ⟨rfl, rfl⟩
    · skip
      have cz71 : oS p e below S0' T69 (mkF m 198 #[sI p1, sI p2, sI p3, sI 2, sI 0, sI f0, sI f1, sI u0, sI u1, sR x, sR y, sR s1] [(.int 0)]) := cc70
      have cc72 : oS p e below S0' T69 (mkF m 238 #[sI p1, sI p2, sI p3, sI 2, sI 0, sI f0, sI f1, sI u0, sI u1, sR x, sR y, sR s1] [(.int 1)]) := Steps.trans cz71 (by
        refine XS.ifYes X69.here hx rfl (pc0 := 198) rfl (dB at_198) rfl (i0_le_t (by decide)) (by decide) rfl ?_
        refine XS.iload X69.here hx rfl (dB at_216) rfl ?_
        refine iconstV X69.here hx rfl 1 (dB at_218) (by decide) ?_
        refine XS.icmpYes X69.here hx rfl (pc0 := 219) rfl (dB at_219) rfl (ii_le_t (by decide)) (by decide) rfl ?_
        refine iconstV X69.here hx rfl 1 (dB at_237) (by decide) ?_
        exact Steps.refl _)
      have cE := cc72
      rw [hS0'] at cE
      obtain ⟨fs, hr_, hrun, hended, hE⟩ := X69.leaveW hS47 (by rw [e69]; exact hk47) (v := some (.int 1)) (fun h => by rw [Bd.returns] at h; cases h)
      have CE := C47.trans (CHv.at X69 hZ47 hEL C47.1)
      refine ⟨_, _, cE.trans (X69.ireturnOut hx Bd.returns (rfl) (by simp) (dB at_238) hr_), hrun, hended, _, _, rfl, ?_, ?_, hE.1, hE.2.1, hE.2.2.1, hE.2.2.2.mono (by first | decide | omega) (by first | decide | omega)⟩
      · show Q_own_law Z p1 p2 p3 z f h0 n0 _ T69.heap _
        rw [e69]
        exact ⟨rfl, N69⟩
      · rw [hh]
        show CHr Z EL s.vm h0 T69.vm T69.heap
        rw [e69]
        exact CE
    · skip
      have cz71 : oS p e below S0' T69 (mkF m 198 #[sI p1, sI p2, sI p3, sI 2, sI 1, sI f0, sI f1, sI u0, sI u1, sR x, sR y, sR s1] [(.int 1)]) := cc70
      have cc72 : oS p e below S0' T69 (mkF m 206 #[sI p1, sI p2, sI p3, sI 2, sI 1, sI f0, sI f1, sI u0, sI u1, sR x, sR y, sR s1] [(.int ((2 : Int32) + (4 : Int32))), (.ref s1)]) := Steps.trans cz71 (by
        refine XS.ifNo X69.here hx rfl (dB at_198) rfl (i0_le_f (by decide)) ?_
        refine XS.aload X69.here hx rfl (dB at_201) rfl rfl ?_
        refine XS.iloadN X69.here hx rfl (dB at_203) rfl ?_
        refine iconstV X69.here hx rfl 4 (dB at_204) (by decide) ?_
        refine XS.iadd X69.here hx rfl (dB at_205) rfl ?_
        exact Steps.refl _)
      have cz73 : oS p e below S0' T69 (mkF m 206 #[sI p1, sI p2, sI p3, sI 2, sI 1, sI f0, sI f1, sI u0, sI u1, sR x, sR y, sR s1] [(.int (Int32.ofNat 6)), (.ref s1)]) := cc72
      obtain ⟨cq74, kq74, qa74, qb74, qc74⟩ := isOf hZ47 e69 Es1
      obtain ⟨_, _, ⟨T74, L74, k74, n74⟩, -, X74, ⟨Lc74, hQ74, l74, y74, z74⟩, st74⟩ := X69.virtualBack hx (y := yM40) (z := yM40) hown47 (mvT hZ47 w_171) (mvT hZ47 w_172) (notFace_of_selects (args := #[]) (mvT hZ47 w_174)) (mvT hZ47 w_174) (mvT hZ47 w_173) (by decide) (backOf (W := 0) (own_che l Z a0 hw s1 ([f0, f1, 32, 45, 62, 32, u0] : List Int32) 6 z f T47.heap n0 Zs5 fa50 O2 P5 O3 O4 hf Hg (by simp)) hZ47 w_175 w_7 (by decide) (by decide)) qa74 qc74 (g := (mkF m 206 #[sI p1, sI p2, sI p3, sI 2, sI 1, sI f0, sI f1, sI u0, sI u1, sR x, sR y, sR s1] [(.int (Int32.ofNat 6)), (.ref s1)])) rfl (by rw [hml]; rfl) (Steps.refl _) (argsL := [(.int (Int32.ofNat 6))]) (rest := []) (lenOf own_pd32 rfl) rfl (Nat.le_of_eq rfl) (dB at_206) (fun _ _ => ⟨rfl, e69, Nat.le_of_ble_eq_true rfl, Nat.le_of_ble_eq_true rfl⟩)
      dsimp only [Pt.U, Pt.locs, Pt.cells, Pt.slots] at X74 l74 y74 z74 st74 hQ74
      subst l74 y74 z74
      obtain ⟨rfl, Nq74, eq74⟩ := hQ74
      have N74 := Fr.app N69 Nq74
      have e74 : T74.heap = T47.heap := eq74
      have cc75 : oS p e below S0' T74 (mkF m 238 #[sI p1, sI p2, sI p3, sI 2, sI 1, sI f0, sI f1, sI u0, sI u1, sR x, sR y, sR s1] [(.int 1)]) := Steps.trans (Steps.trans cz73 st74) (by
        refine XS.iload X74.here hx rfl (dB at_209) rfl ?_
        refine XS.icmpYes X74.here hx rfl (pc0 := 211) rfl (dB at_211) rfl (ii_eq_t rfl) (by decide) rfl ?_
        refine XS.iload X74.here hx rfl (dB at_216) rfl ?_
        refine iconstV X74.here hx rfl 1 (dB at_218) (by decide) ?_
        refine XS.icmpYes X74.here hx rfl (pc0 := 219) rfl (dB at_219) rfl (ii_le_t (by decide)) (by decide) rfl ?_
        refine iconstV X74.here hx rfl 1 (dB at_237) (by decide) ?_
        exact Steps.refl _)
      have cE := cc75
      rw [hS0'] at cE
      obtain ⟨fs, hr_, hrun, hended, hE⟩ := X74.leaveW hS47 (by rw [e74]; exact hk47) (v := some (.int 1)) (fun h => by rw [Bd.returns] at h; cases h)
      have CE := C47.trans (CHv.at X74 hZ47 hEL C47.1)
      refine ⟨_, _, cE.trans (X74.ireturnOut hx Bd.returns (rfl) (by simp) (dB at_238) hr_), hrun, hended, _, _, rfl, ?_, ?_, hE.1, hE.2.1, hE.2.2.1, hE.2.2.2.mono (by first | decide | omega) (by first | decide | omega)⟩
      · show Q_own_law Z p1 p2 p3 z f h0 n0 _ T74.heap _
        rw [e74]
        exact ⟨rfl, N74⟩
      · rw [hh]
        show CHr Z EL s.vm h0 T74.vm T74.heap
        rw [e74]
        exact CE
    · skip
      have cz71 : oS p e below S0' T69 (mkF m 198 #[sI p1, sI p2, sI p3, sI 2, sI 2, sI f0, sI f1, sI u0, sI u1, sR x, sR y, sR s1] [(.int 2)]) := cc70
      have cc72 : oS p e below S0' T69 (mkF m 206 #[sI p1, sI p2, sI p3, sI 2, sI 2, sI f0, sI f1, sI u0, sI u1, sR x, sR y, sR s1] [(.int ((2 : Int32) + (4 : Int32))), (.ref s1)]) := Steps.trans cz71 (by
        refine XS.ifNo X69.here hx rfl (dB at_198) rfl (i0_le_f (by decide)) ?_
        refine XS.aload X69.here hx rfl (dB at_201) rfl rfl ?_
        refine XS.iloadN X69.here hx rfl (dB at_203) rfl ?_
        refine iconstV X69.here hx rfl 4 (dB at_204) (by decide) ?_
        refine XS.iadd X69.here hx rfl (dB at_205) rfl ?_
        exact Steps.refl _)
      have cz73 : oS p e below S0' T69 (mkF m 206 #[sI p1, sI p2, sI p3, sI 2, sI 2, sI f0, sI f1, sI u0, sI u1, sR x, sR y, sR s1] [(.int (Int32.ofNat 6)), (.ref s1)]) := cc72
      obtain ⟨cq74, kq74, qa74, qb74, qc74⟩ := isOf hZ47 e69 Es1
      obtain ⟨_, _, ⟨T74, L74, k74, n74⟩, -, X74, ⟨Lc74, hQ74, l74, y74, z74⟩, st74⟩ := X69.virtualBack hx (y := yM40) (z := yM40) hown47 (mvT hZ47 w_171) (mvT hZ47 w_172) (notFace_of_selects (args := #[]) (mvT hZ47 w_174)) (mvT hZ47 w_174) (mvT hZ47 w_173) (by decide) (backOf (W := 0) (own_che l Z a0 hw s1 ([f0, f1, 32, 45, 62, 32, u0, u1] : List Int32) 6 z f T47.heap n0 Zs5 fa50 O2 P5 O3 O4 hf Hg (by simp)) hZ47 w_175 w_7 (by decide) (by decide)) qa74 qc74 (g := (mkF m 206 #[sI p1, sI p2, sI p3, sI 2, sI 2, sI f0, sI f1, sI u0, sI u1, sR x, sR y, sR s1] [(.int (Int32.ofNat 6)), (.ref s1)])) rfl (by rw [hml]; rfl) (Steps.refl _) (argsL := [(.int (Int32.ofNat 6))]) (rest := []) (lenOf own_pd32 rfl) rfl (Nat.le_of_eq rfl) (dB at_206) (fun _ _ => ⟨rfl, e69, Nat.le_of_ble_eq_true rfl, Nat.le_of_ble_eq_true rfl⟩)
      dsimp only [Pt.U, Pt.locs, Pt.cells, Pt.slots] at X74 l74 y74 z74 st74 hQ74
      subst l74 y74 z74
      obtain ⟨rfl, Nq74, eq74⟩ := hQ74
      have N74 := Fr.app N69 Nq74
      have e74 : T74.heap = T47.heap := eq74
      have cc75 : oS p e below S0' T74 (mkF m 227 #[sI p1, sI p2, sI p3, sI 2, sI 2, sI f0, sI f1, sI u0, sI u1, sR x, sR y, sR s1] [(.int ((2 : Int32) + (5 : Int32))), (.ref s1)]) := Steps.trans (Steps.trans cz73 st74) (by
        refine XS.iload X74.here hx rfl (dB at_209) rfl ?_
        refine XS.icmpYes X74.here hx rfl (pc0 := 211) rfl (dB at_211) rfl (ii_eq_t rfl) (by decide) rfl ?_
        refine XS.iload X74.here hx rfl (dB at_216) rfl ?_
        refine iconstV X74.here hx rfl 1 (dB at_218) (by decide) ?_
        refine XS.icmpNo X74.here hx rfl (dB at_219) rfl (ii_le_f (by decide)) ?_
        refine XS.aload X74.here hx rfl (dB at_222) rfl rfl ?_
        refine XS.iloadN X74.here hx rfl (dB at_224) rfl ?_
        refine iconstV X74.here hx rfl 5 (dB at_225) (by decide) ?_
        refine XS.iadd X74.here hx rfl (dB at_226) rfl ?_
        exact Steps.refl _)
      have cz76 : oS p e below S0' T74 (mkF m 227 #[sI p1, sI p2, sI p3, sI 2, sI 2, sI f0, sI f1, sI u0, sI u1, sR x, sR y, sR s1] [(.int (Int32.ofNat 7)), (.ref s1)]) := cc75
      obtain ⟨cq77, kq77, qa77, qb77, qc77⟩ := isOf hZ47 e74 Es1
      obtain ⟨_, _, ⟨T77, L77, k77, n77⟩, -, X77, ⟨Lc77, hQ77, l77, y77, z77⟩, st77⟩ := X74.virtualBack hx (y := yM40) (z := yM40) hown47 (mvT hZ47 w_171) (mvT hZ47 w_172) (notFace_of_selects (args := #[]) (mvT hZ47 w_174)) (mvT hZ47 w_174) (mvT hZ47 w_173) (by decide) (backOf (W := 0) (own_che l Z a0 hw s1 ([f0, f1, 32, 45, 62, 32, u0, u1] : List Int32) 7 z f T47.heap n0 Zs5 fa50 O2 P5 O3 O4 hf Hg (by simp)) hZ47 w_175 w_7 (by decide) (by decide)) qa77 qc77 (g := (mkF m 227 #[sI p1, sI p2, sI p3, sI 2, sI 2, sI f0, sI f1, sI u0, sI u1, sR x, sR y, sR s1] [(.int (Int32.ofNat 7)), (.ref s1)])) rfl (by rw [hml]; rfl) (Steps.refl _) (argsL := [(.int (Int32.ofNat 7))]) (rest := []) (lenOf own_pd32 rfl) rfl (Nat.le_of_eq rfl) (dB at_227) (fun _ _ => ⟨rfl, e74, Nat.le_of_ble_eq_true rfl, Nat.le_of_ble_eq_true rfl⟩)
      dsimp only [Pt.U, Pt.locs, Pt.cells, Pt.slots] at X77 l77 y77 z77 st77 hQ77
      subst l77 y77 z77
      obtain ⟨rfl, Nq77, eq77⟩ := hQ77
      have N77 := Fr.app N74 Nq77
      have e77 : T77.heap = T47.heap := eq77
      have cc78 : oS p e below S0' T77 (mkF m 238 #[sI p1, sI p2, sI p3, sI 2, sI 2, sI f0, sI f1, sI u0, sI u1, sR x, sR y, sR s1] [(.int 1)]) := Steps.trans (Steps.trans cz76 st77) (by
        refine XS.iload X77.here hx rfl (dB at_230) rfl ?_
        refine XS.icmpYes X77.here hx rfl (pc0 := 232) rfl (dB at_232) rfl (ii_eq_t rfl) (by decide) rfl ?_
        refine iconstV X77.here hx rfl 1 (dB at_237) (by decide) ?_
        exact Steps.refl _)
      have cE := cc78
      rw [hS0'] at cE
      obtain ⟨fs, hr_, hrun, hended, hE⟩ := X77.leaveW hS47 (by rw [e77]; exact hk47) (v := some (.int 1)) (fun h => by rw [Bd.returns] at h; cases h)
      have CE := C47.trans (CHv.at X77 hZ47 hEL C47.1)
      refine ⟨_, _, cE.trans (X77.ireturnOut hx Bd.returns (rfl) (by simp) (dB at_238) hr_), hrun, hended, _, _, rfl, ?_, ?_, hE.1, hE.2.1, hE.2.2.1, hE.2.2.2.mono (by first | decide | omega) (by first | decide | omega)⟩
      · show Q_own_law Z p1 p2 p3 z f h0 n0 _ T77.heap _
        rw [e77]
        exact ⟨rfl, N77⟩
      · rw [hh]
        show CHr Z EL s.vm h0 T77.vm T77.heap
        rw [e77]
        exact CE
theorem own_eqS {args : Array Value} {s : State} {C n d : String} {k : Int32} (h : (Jvm.Cond.eq (Term.static C n d) (Term.int k)).before args s = true) : (Term.static C n d).eval args s none [] s = some (.int k) := by
  have hv := Cond.before_iff.mp h
  obtain ⟨a, b, ha, hb, -, hk⟩ := cmp_v (Or.inl hv)
  obtain rfl : b = .int k := Option.some.inj (hb.symm.trans (Term.int_eval k))
  obtain ⟨z, rfl⟩ := hk
  have e : z = k := gotT (Cond.eq_ints ha (Term.int_eval k)) hv
  rw [ha, e]
set_option maxRecDepth 65536 in
set_option maxHeartbeats 40000000 in
theorem comes_1 {Post : Tables → Env → Array Value → State → Outcome → State → Prop} (hpost : ∀ tb e args s v u, (limb_1_1.after args s (.returned v) u = true ∧ limb_1_2.after args s (.returned v) u = true ∧ True) → ReturnedEndW s (.returned v) u (Jvm.fieldLocs frame_1_writes args s ++ Jvm.arrayLocs frame_1_arrays args s ++ Jvm.staticLocs frame_1_statics s) 40 2368 → Post tb e args s (.returned v) u) :
    ArmFor flags0 classFile x code maxLocals ret World_1 tables_1 room_1 Calls_1 rest_1 Pre_1 Post := by
  intro l hfl _ _ p e ha hc hk s m args below hf hA hF happ hP
  obtain ⟨hcalls, hrest, hpre⟩ := hP
  obtain ⟨-, -, -, hnamed, -, -, -, hat⟩ := (Spec.applies_iff hf).mp happ
  obtain ⟨hg, hn⟩ := and_e (Cond.before_iff.mp (show (Jvm.Cond.and given_1 narrow_1).before args s = true from hpre))
  obtain ⟨hcnt, g0⟩ := and_e hg
  obtain ⟨hi0, g1⟩ := and_e g0
  obtain ⟨hi1, g2⟩ := and_e g1
  obtain ⟨w0, w1, w2, rfl⟩ : ∃ w0 w1 w2 : Value, args = #[w0, w1, w2] := by
    have hs : args.size = 3 := by simpa [Cond.value, given_1] using hcnt
    obtain ⟨L⟩ := args
    match L, hs with
    | [w0, w1, w2], _ => exact ⟨w0, w1, w2, rfl⟩
  have hw := fun d (hd : d ∈ tables_1) => atoms_spec (ws := Jvm.Cond.code x code maxLocals ret :: tables_1) hat d (List.mem_cons_of_mem _ hd)
  obtain ⟨hsets, hown0⟩ := atoms_of _ (rest_1_c_eq ▸ (show rest_1_c.before _ s = true from hrest))
  obtain ⟨i0, e0⟩ := is_v hi0
  obtain rfl : w0 = (.int i0) := Option.some.inj e0
  obtain ⟨i1, e1⟩ := is_v hi1
  obtain rfl : w1 = (.int i1) := Option.some.inj e1
  obtain ⟨i2, e2⟩ := is_v g2
  obtain rfl : w2 = (.int i2) := Option.some.inj e2
  have n5 := not_v (Cond.before_iff.mp (hsets _ (List.mem_of_getElem? (i := 2) rfl)))
  obtain ⟨z, ez⟩ := is_v (Cond.before_iff.mp (hsets _ (List.mem_of_getElem? (i := 1) rfl)))
  have S12 : Sta s s.heap "java/lang/String" "COMPACT_STRINGS" "Z" (.int z) := Sta.start ez (Or.inl (hsets _ (List.mem_of_getElem? (i := 0) rfl)))
  have c17 : ¬ (z = (0 : Int32)) := gotF (Cond.eq_ints ez (Term.int_eval (0))) n5
  have O3 : StrChars.Road.U3Z s s.heap := ⟨Sta.start (own_eqS (hsets _ (List.mem_of_getElem? (i := 12) rfl))) (Or.inl (hsets _ (List.mem_of_getElem? (i := 11) rfl))), Sta.start (own_eqS (hsets _ (List.mem_of_getElem? (i := 15) rfl))) (Or.inl (hsets _ (List.mem_of_getElem? (i := 14) rfl))), Sta.start (own_eqS (hsets _ (List.mem_of_getElem? (i := 18) rfl))) (Or.inl (hsets _ (List.mem_of_getElem? (i := 17) rfl)))⟩
  obtain ⟨G3, e14, rG3⟩ := isR_v (Cond.before_iff.mp (hsets _ (List.mem_of_getElem? (i := 8) rfl)))
  have O4 : Sta s s.heap "jdk/internal/util/Preconditions" "SIOOBE_FORMATTER" "Ljava/util/function/BiFunction;" G3 := Sta.start e14 (Or.inl (hsets _ (List.mem_of_getElem? (i := 7) rfl)))
  have hCH0 : CHv s EL s.vm s.heap := CHv.start (own_EW hw) (fun p hp => hcalls.1 p hp) (hsets _ (List.mem_of_getElem? (i := 2) rfl)) (hw _ (List.mem_of_getElem? (i := 24) rfl)) (hw _ (List.mem_of_getElem? (i := 6) rfl))
  obtain ⟨n, o, h1, h2, h3, _, L, rfl, ⟨rfl, N⟩, -, hq⟩ := own_law l s _ hw tables_1 i0 i1 i2 z G3 s.heap s.heap.size (Nat.le_refl _) (Old.start s) S12 c17 O3 O4 rG3 p e ha hc hk s m _ below hf ((Spec.applies_iff_loose hf).mp happ).1 ⟨rfl, State.Warmed39.refl s, rfl, hCH0⟩ trivial
  refine ⟨n, _, h1, h2, h3, hpost _ _ _ _ _ _ ⟨Cond.after_iff.mpr rfl, Cond.after_iff.mpr (eq_i res_at (Term.int_eval (1)) rfl), trivial⟩ ⟨hq.1, hq.2.1, hq.2.2.1, (hq.2.2.2.sift fun y hy => Or.inr (N y hy)).mono (by decide) (by decide)⟩⟩
theorem main_1_1 : Claimed_1_1 := comes_1 fun _ _ _ _ _ _ h hF => ⟨h.1, hF⟩
theorem main_1_2 : Claimed_1_2 := comes_1 fun _ _ _ _ _ _ h hF => ⟨h.2.1, hF⟩
end Jvm.Pilot.@@N@@
namespace Jvm.Pilot.@@N@@
open Jvm Jvm.ClassFile Sem Op Lib Jvm.Free Jvm.Stand Jvm.Pilot.@@N@@.Jvm.D
/-! MADE BY PROGRAM (witnessworld.py) out of the Statement's table words and the real class files: 27 classes; the members and pool entries that the words name. The judged class is class 1, her method 2. -/
namespace start1
open Jvm.ClassFile
def u (s : String) : CpInfo := .utf8 (stringToUtf16 s)
/-- a pool by its gaps: so many unusable entries, then the entry; so many at the end -/
def gap : Nat → List CpInfo → List CpInfo
  | 0, r => r
  | n + 1, r => .unusable :: gap n r
def poolList (es : List (Nat × CpInfo)) (last : Nat) : List CpInfo := es.foldr (fun e r => gap e.1 (e.2 :: r)) (gap last [])
def pool (es : List (Nat × CpInfo)) (last : Nat) : Array CpInfo := ⟨poolList es last⟩
def fileOf (pool : Array CpInfo) (this : Nat) (attrs : Array Attribute := #[]) (ms : Array MethodInfo := #[]) (fl : Nat := 33) (sup : Nat := 0) (ifs : Array Nat := #[]) (fds : Array FieldInfo := #[]) : ClassFile where
  minorVersion := 0
  majorVersion := 65
  constantPool := pool
  accessFlags := fl
  thisClass := this
  superClass := sup
  interfaces := ifs
  fields := fds
  methods := ms
  attributes := attrs
def plain (name : String) (sup : Option ClassId) : Class where
  name := name
  kind := .ordinary
  loader := none
  accessFlags := 33
  super := sup
  interfaces := #[]
  cf := none
  fields := #[]
  methods := #[]
  instanceTypes := #[]
  staticTypes := #[]
  resolved := #[]
  callSites := []
  init := .initialized
  statics := none
  mirror := none

def pool0 : Array CpInfo := pool [(5, u "<init>"), (0, u "()V"), (1, .class_ 10), (1, u "java/lang/Object")] 113

def k0c0 : Code := { maxStack := 0, maxLocals := 1, code := object_method_1_code, exceptionTable := #[], attributes := #[] }
def k0m0 : Method := { name := "<init>", desc := "()V", sig := { parameters := [], returnType := none }, accessFlags := 1, code := some k0c0 }
/-- java/lang/Object -/
def k0 : Class := { plain "java/lang/Object" none with
  accessFlags := 33
  interfaces := #[]
  cf := some (fileOf pool0 8 #[] #[{ accessFlags := 1, nameIndex := 5, descriptorIndex := 6, attributes := #[] }] 33 0 #[] #[])
  fields := #[]
  methods := #[k0m0]
  instanceTypes := #[]
  staticTypes := #[]
  resolved := Array.replicate 124 none
  statics := none }

def pool1 : Array CpInfo := pool [(2, .class_ 4), (1, u "java/lang/Object"), (0, u "<init>"), (0, u "()V"), (0, .class_ 8), (0, u "java/lang/String"), (0, .methodref 7 10), (0, .nameAndType 5 11), (0, u "([C)V"), (0, .integer 65535), (0, .methodref 14 15), (0, .class_ 16), (0, .nameAndType 17 18), (0, u "com/example/chronoforge/chronoforge/design/PrecedenceToStringPinLaw"), (0, u "mk"), (0, u "(ICC)Ljava/lang/String;"), (0, .class_ 20), (0, u "com/example/chronoforge/chronoforge/design/Precedence"), (0, .methodref 19 22), (0, .nameAndType 5 23), (0, u "(Ljava/lang/String;Ljava/lang/String;)V"), (0, .methodref 19 25), (0, .nameAndType 26 27), (0, u "toString"), (0, u "()Ljava/lang/String;"), (0, .methodref 7 29), (0, .nameAndType 30 31), (0, u "length"), (0, u "()I"), (0, .methodref 7 33), (0, .nameAndType 34 35), (0, u "charAt"), (0, u "(I)C"), (3, u "law"), (0, u "(III)Z")] 2

def k1m0 : Method := { name := "<init>", desc := "()V", sig := { parameters := [], returnType := none }, accessFlags := 1, code := none }
def k1c1 : Code := { maxStack := 6, maxLocals := 3, code := method_2_code, exceptionTable := #[], attributes := #[] }
def k1m1 : Method := { name := "mk", desc := "(ICC)Ljava/lang/String;", sig := { parameters := [.int, .char, .char], returnType := some (.object "java/lang/String") }, accessFlags := 10, code := some k1c1 }
def k1c2 : Code := { maxStack := 4, maxLocals := 12, code := code, exceptionTable := #[], attributes := #[] }
def k1m2 : Method := { name := "law", desc := "(III)Z", sig := { parameters := [.int, .int, .int], returnType := some .boolean }, accessFlags := 9, code := some k1c2 }
/-- com/example/chronoforge/chronoforge/design/PrecedenceToStringPinLaw -/
def k1 : Class := { plain "com/example/chronoforge/chronoforge/design/PrecedenceToStringPinLaw" (some 0) with
  accessFlags := 49
  interfaces := #[]
  cf := some (fileOf pool1 14 #[] #[{ accessFlags := 1, nameIndex := 5, descriptorIndex := 6, attributes := #[] }, { accessFlags := 10, nameIndex := 17, descriptorIndex := 18, attributes := #[] }, { accessFlags := 9, nameIndex := 39, descriptorIndex := 40, attributes := #[] }] 49 2 #[] #[])
  fields := #[]
  methods := #[k1m0, k1m1, k1m2]
  instanceTypes := #[]
  staticTypes := #[]
  resolved := Array.replicate 43 none
  statics := none }

def pool2 : Array CpInfo := pool [(1, .class_ 2), (0, u "java/io/Serializable"), (0, .class_ 4), (0, u "java/lang/Object")] 2

/-- java/io/Serializable -/
def k2 : Class := { plain "java/io/Serializable" (some 0) with
  accessFlags := 1537
  interfaces := #[]
  cf := some (fileOf pool2 1 #[] #[] 1537 3 #[] #[])
  fields := #[]
  methods := #[]
  instanceTypes := #[]
  staticTypes := #[]
  resolved := Array.replicate 7 none
  statics := none }

def pool3 : Array CpInfo := pool [(1, .class_ 2), (0, u "java/lang/Comparable"), (0, .class_ 4), (0, u "java/lang/Object")] 7

/-- java/lang/Comparable -/
def k3 : Class := { plain "java/lang/Comparable" (some 0) with
  accessFlags := 1537
  interfaces := #[]
  cf := some (fileOf pool3 1 #[] #[] 1537 3 #[] #[])
  fields := #[]
  methods := #[]
  instanceTypes := #[]
  staticTypes := #[]
  resolved := Array.replicate 12 none
  statics := none }

def pool4 : Array CpInfo := pool [(2, .class_ 4), (1, u "java/lang/CharSequence"), (42, .class_ 48), (0, u "java/lang/CharSequence$1CodePointIterator"), (10, .class_ 60), (0, u "java/lang/CharSequence$1CharIterator"), (5, .class_ 67), (0, u "java/lang/Object")] 63

/-- java/lang/CharSequence -/
def k4 : Class := { plain "java/lang/CharSequence" (some 0) with
  accessFlags := 1537
  interfaces := #[]
  cf := some (fileOf pool4 2 #[.nestMembers #[47, 59]] #[] 1537 66 #[] #[])
  fields := #[]
  methods := #[]
  instanceTypes := #[]
  staticTypes := #[]
  resolved := Array.replicate 131 none
  statics := none }

def pool5 : Array CpInfo := pool [(1, .class_ 2), (0, u "java/lang/constant/Constable"), (0, .class_ 4), (0, u "java/lang/Object")] 6

/-- java/lang/constant/Constable -/
def k5 : Class := { plain "java/lang/constant/Constable" (some 0) with
  accessFlags := 1537
  interfaces := #[]
  cf := some (fileOf pool5 1 #[] #[] 1537 3 #[] #[])
  fields := #[]
  methods := #[]
  instanceTypes := #[]
  staticTypes := #[]
  resolved := Array.replicate 11 none
  statics := none }

def pool6 : Array CpInfo := pool [(1, .class_ 2), (0, u "java/lang/constant/ConstantDesc"), (0, .class_ 4), (0, u "java/lang/Object")] 32

/-- java/lang/constant/ConstantDesc -/
def k6 : Class := { plain "java/lang/constant/ConstantDesc" (some 0) with
  accessFlags := 1537
  interfaces := #[]
  cf := some (fileOf pool6 1 #[] #[] 1537 3 #[] #[])
  fields := #[]
  methods := #[]
  instanceTypes := #[]
  staticTypes := #[]
  resolved := Array.replicate 37 none
  statics := none }

def pool7 : Array CpInfo := pool [(1, .methodref 2 3), (0, .class_ 4), (0, .nameAndType 5 6), (0, u "java/lang/Object"), (0, u "<init>"), (0, u "()V"), (0, .string 8), (0, u ""), (0, .fieldref 10 11), (0, .class_ 12), (0, .nameAndType 13 14), (0, u "java/lang/String"), (0, u "value"), (0, u "[B"), (0, .fieldref 10 16), (0, .nameAndType 17 18), (0, u "coder"), (0, u "B"), (2, u "hash"), (0, u "I"), (2, u "hashIsZero"), (0, u "Z"), (0, .methodref 10 28), (0, .nameAndType 5 29), (0, u "([CIILjava/lang/Void;)V"), (6, u "checkBoundsOffCount"), (0, u "(III)I"), (0, .fieldref 10 39), (0, .nameAndType 40 26), (0, u "COMPACT_STRINGS"), (1, .class_ 44), (1, u "java/lang/StringUTF16"), (0, u "compress"), (1, .methodref 42 48), (0, .nameAndType 49 50), (0, u "coderFromArrayLen"), (0, u "([BI)B"), (3, .methodref 55 56), (0, .class_ 57), (0, .nameAndType 58 59), (0, u "java/util/Arrays"), (0, u "copyOfRange"), (0, u "([BII)[B"), (46, .methodref 107 108), (0, .class_ 109), (0, .nameAndType 110 111), (0, u "java/lang/StringLatin1"), (0, u "inflate"), (0, u "([BI[BII)V"), (30, u "()Z"), (34, .methodref 42 178), (0, .nameAndType 45 179), (0, u "([CII)[B"), (13, .class_ 195), (1, u "java/lang/System"), (16, .methodref 193 213), (0, .nameAndType 214 215), (0, u "arraycopy"), (0, u "(Ljava/lang/Object;ILjava/lang/Object;II)V"), (118, u "()I"), (0, .methodref 10 336), (0, .nameAndType 17 337), (0, u "()B"), (2, u "()[B"), (22, u "([BI)C"), (27, u "(II)V"), (35, u "(I)C"), (61, .methodref 10 490), (0, .nameAndType 5 491), (0, u "(Ljava/lang/AbstractStringBuilder;Ljava/lang/Void;)V"), (0, .methodref 10 493), (0, .nameAndType 494 142), (0, u "isLatin1"), (0, .methodref 107 496), (0, .nameAndType 497 363), (0, u "charAt"), (0, .methodref 42 496), (2, u "checkIndex"), (4, .nameAndType 507 334), (0, u "length"), (24, u "getBytes"), (16, .methodref 550 506), (0, .class_ 551), (0, u "java/lang/AbstractStringBuilder"), (0, .methodref 550 553), (0, .nameAndType 554 340), (0, u "getValue"), (20, .class_ 576), (0, u "java/lang/CharSequence"), (22, u "CASE_INSENSITIVE_ORDER"), (0, u "Ljava/util/Comparator;"), (220, u "([BIB)V"), (188, u "([C)V"), (36, .methodref 550 493), (0, .fieldref 550 1049), (0, .nameAndType 1050 26), (0, u "maybeLatin1"), (2, .fieldref 1054 1055), (0, .class_ 1056), (0, .nameAndType 1057 1058), (0, u "jdk/internal/util/Preconditions"), (0, u "SIOOBE_FORMATTER"), (0, u "Ljava/util/function/BiFunction;"), (0, .methodref 1054 1060), (0, .nameAndType 501 1061), (0, u "(IILjava/util/function/BiFunction;)I"), (2, u "(IIILjava/util/function/BiFunction;)I"), (0, .methodref 1054 1066), (0, .nameAndType 1067 1064), (0, u "checkFromIndexSize"), (33, u "serialPersistentFields"), (0, u "[Ljava/io/ObjectStreamField;"), (0, .class_ 1104), (0, u "java/lang/String$CaseInsensitiveComparator"), (1, .class_ 1107), (0, u "java/io/Serializable"), (0, .class_ 1109), (0, u "java/lang/Comparable"), (0, .class_ 1111), (0, u "java/lang/constant/Constable"), (0, .class_ 1113), (0, u "java/lang/constant/ConstantDesc"), (2, u "serialVersionUID"), (0, u "J"), (3, u "REPL"), (0, u "C"), (2, u "LATIN1"), (1, u "UTF16"), (105, u "(Ljava/lang/StringBuilder;)V")] 217

def k7m0 : Method := { name := "<init>", desc := "()V", sig := { parameters := [], returnType := none }, accessFlags := 1, code := none }
def k7c1 : Code := { maxStack := 5, maxLocals := 2, code := jdk_42_method_3_code, exceptionTable := #[], attributes := #[] }
def k7m1 : Method := { name := "<init>", desc := "([C)V", sig := { parameters := [(.array .char)], returnType := none }, accessFlags := 1, code := some k7c1 }
def k7c2 : Code := { maxStack := 3, maxLocals := 2, code := jdk_42_method_53_code, exceptionTable := #[], attributes := #[] }
def k7m2 : Method := { name := "<init>", desc := "(Ljava/lang/StringBuilder;)V", sig := { parameters := [(.object "java/lang/StringBuilder")], returnType := none }, accessFlags := 1, code := some k7c2 }
def k7c3 : Code := { maxStack := 2, maxLocals := 1, code := jdk_42_method_54_code, exceptionTable := #[], attributes := #[] }
def k7m3 : Method := { name := "length", desc := "()I", sig := { parameters := [], returnType := some .int }, accessFlags := 1, code := some k7c3 }
def k7c4 : Code := { maxStack := 2, maxLocals := 2, code := jdk_42_method_56_code, exceptionTable := #[], attributes := #[] }
def k7m4 : Method := { name := "charAt", desc := "(I)C", sig := { parameters := [.int], returnType := some .char }, accessFlags := 1, code := some k7c4 }
def k7c5 : Code := { maxStack := 5, maxLocals := 4, code := jdk_42_method_147_code, exceptionTable := #[], attributes := #[] }
def k7m5 : Method := { name := "getBytes", desc := "([BIB)V", sig := { parameters := [(.array .byte), .int, .byte], returnType := none }, accessFlags := 0, code := some k7c5 }
def k7c6 : Code := { maxStack := 4, maxLocals := 6, code := jdk_42_method_149_code, exceptionTable := #[], attributes := #[] }
def k7m6 : Method := { name := "<init>", desc := "([CIILjava/lang/Void;)V", sig := { parameters := [(.array .char), .int, .int, (.object "java/lang/Void")], returnType := none }, accessFlags := 2, code := some k7c6 }
def k7c7 : Code := { maxStack := 5, maxLocals := 5, code := jdk_42_method_150_code, exceptionTable := #[], attributes := #[] }
def k7m7 : Method := { name := "<init>", desc := "(Ljava/lang/AbstractStringBuilder;Ljava/lang/Void;)V", sig := { parameters := [(.object "java/lang/AbstractStringBuilder"), (.object "java/lang/Void")], returnType := none }, accessFlags := 0, code := some k7c7 }
def k7c8 : Code := { maxStack := 1, maxLocals := 1, code := jdk_42_method_152_code, exceptionTable := #[], attributes := #[] }
def k7m8 : Method := { name := "coder", desc := "()B", sig := { parameters := [], returnType := some .byte }, accessFlags := 0, code := some k7c8 }
def k7c9 : Code := { maxStack := 1, maxLocals := 1, code := jdk_42_method_154_code, exceptionTable := #[], attributes := #[] }
def k7m9 : Method := { name := "isLatin1", desc := "()Z", sig := { parameters := [], returnType := some .boolean }, accessFlags := 0, code := some k7c9 }
def k7c10 : Code := { maxStack := 3, maxLocals := 2, code := jdk_42_method_155_code, exceptionTable := #[], attributes := #[] }
def k7m10 : Method := { name := "checkIndex", desc := "(II)V", sig := { parameters := [.int, .int], returnType := none }, accessFlags := 8, code := some k7c10 }
def k7c11 : Code := { maxStack := 4, maxLocals := 3, code := jdk_42_method_157_code, exceptionTable := #[], attributes := #[] }
def k7m11 : Method := { name := "checkBoundsOffCount", desc := "(III)I", sig := { parameters := [.int, .int, .int], returnType := some .int }, accessFlags := 8, code := some k7c11 }
/-- java/lang/String -/
def k7 : Class := { plain "java/lang/String" (some 0) with
  accessFlags := 49
  interfaces := #[2, 3, 4, 5, 6]
  cf := some (fileOf pool7 10 #[.nestMembers #[1103]] #[{ accessFlags := 1, nameIndex := 5, descriptorIndex := 6, attributes := #[] }, { accessFlags := 1, nameIndex := 5, descriptorIndex := 1010, attributes := #[] }, { accessFlags := 1, nameIndex := 5, descriptorIndex := 1233, attributes := #[] }, { accessFlags := 1, nameIndex := 507, descriptorIndex := 334, attributes := #[] }, { accessFlags := 1, nameIndex := 497, descriptorIndex := 427, attributes := #[] }, { accessFlags := 0, nameIndex := 532, descriptorIndex := 821, attributes := #[] }, { accessFlags := 2, nameIndex := 5, descriptorIndex := 29, attributes := #[] }, { accessFlags := 0, nameIndex := 5, descriptorIndex := 491, attributes := #[] }, { accessFlags := 0, nameIndex := 17, descriptorIndex := 337, attributes := #[] }, { accessFlags := 0, nameIndex := 494, descriptorIndex := 142, attributes := #[] }, { accessFlags := 8, nameIndex := 501, descriptorIndex := 391, attributes := #[] }, { accessFlags := 8, nameIndex := 36, descriptorIndex := 37, attributes := #[] }] 49 2 #[1106, 1108, 575, 1110, 1112] #[{ accessFlags := 18, nameIndex := 13, descriptorIndex := 14, attributes := #[] }, { accessFlags := 18, nameIndex := 17, descriptorIndex := 18, attributes := #[] }, { accessFlags := 2, nameIndex := 21, descriptorIndex := 22, attributes := #[] }, { accessFlags := 2, nameIndex := 25, descriptorIndex := 26, attributes := #[] }, { accessFlags := 26, nameIndex := 1116, descriptorIndex := 1117, attributes := #[] }, { accessFlags := 24, nameIndex := 40, descriptorIndex := 26, attributes := #[] }, { accessFlags := 26, nameIndex := 1101, descriptorIndex := 1102, attributes := #[] }, { accessFlags := 26, nameIndex := 1121, descriptorIndex := 1122, attributes := #[] }, { accessFlags := 25, nameIndex := 599, descriptorIndex := 600, attributes := #[] }, { accessFlags := 24, nameIndex := 1125, descriptorIndex := 18, attributes := #[] }, { accessFlags := 24, nameIndex := 1127, descriptorIndex := 18, attributes := #[] }])
  fields := #[{ name := "value", type := (.array .byte), accessFlags := 18, slot := 0, constantValue := 0 }, { name := "coder", type := .byte, accessFlags := 18, slot := 1, constantValue := 0 }, { name := "hash", type := .int, accessFlags := 2, slot := 2, constantValue := 0 }, { name := "hashIsZero", type := .boolean, accessFlags := 2, slot := 3, constantValue := 0 }, { name := "serialVersionUID", type := .long, accessFlags := 26, slot := 0, constantValue := 0 }, { name := "COMPACT_STRINGS", type := .boolean, accessFlags := 24, slot := 1, constantValue := 0 }, { name := "serialPersistentFields", type := (.array (.object "java/io/ObjectStreamField")), accessFlags := 26, slot := 2, constantValue := 0 }, { name := "REPL", type := .char, accessFlags := 26, slot := 3, constantValue := 0 }, { name := "CASE_INSENSITIVE_ORDER", type := (.object "java/util/Comparator"), accessFlags := 25, slot := 4, constantValue := 0 }, { name := "LATIN1", type := .byte, accessFlags := 24, slot := 5, constantValue := 0 }, { name := "UTF16", type := .byte, accessFlags := 24, slot := 6, constantValue := 0 }]
  methods := #[k7m0, k7m1, k7m2, k7m3, k7m4, k7m5, k7m6, k7m7, k7m8, k7m9, k7m10, k7m11]
  instanceTypes := #[(.array .byte), .byte, .int, .boolean]
  staticTypes := #[.long, .boolean, (.array (.object "java/io/ObjectStreamField")), .char, (.object "java/util/Comparator"), .byte, .byte]
  resolved := Array.replicate 1451 none
  statics := some 0 }

def pool8 : Array CpInfo := pool [(3, .class_ 4), (0, u "java/lang/String"), (1, .class_ 8), (1, u "java/lang/Object"), (0, u "<init>"), (0, u "()V"), (0, .methodref 12 13), (0, .class_ 14), (0, .nameAndType 15 16), (0, u "java/lang/StringUTF16"), (0, u "newBytesLength"), (0, u "(I)I"), (3, .integer 1073741823), (23, .fieldref 12 45), (0, .nameAndType 46 47), (0, u "$assertionsDisabled"), (0, u "Z"), (0, .methodref 12 49), (0, .nameAndType 50 51), (0, u "length"), (0, u "([B)I"), (7, .fieldref 12 60), (0, .nameAndType 61 62), (0, u "HI_BYTE_SHIFT"), (0, u "I"), (0, .fieldref 12 64), (0, .nameAndType 65 62), (0, u "LO_BYTE_SHIFT"), (1, .methodref 12 68), (0, .nameAndType 69 70), (0, u "checkIndex"), (0, u "(I[B)V"), (0, .methodref 12 72), (0, .nameAndType 73 74), (0, u "getChar"), (0, u "([BI)C"), (24, u "(II[B)V"), (7, .methodref 12 108), (0, .nameAndType 109 110), (0, u "newBytesFor"), (0, u "(I)[B"), (0, .methodref 12 112), (0, .nameAndType 113 114), (0, u "putChar"), (0, u "([BII)V"), (0, .methodref 12 116), (0, .nameAndType 117 118), (0, u "compress"), (0, u "([CI[BII)I"), (0, .methodref 12 120), (0, .nameAndType 121 122), (0, u "toBytes"), (0, u "([CII)[B"), (17, u "inflate"), (0, u "([BI[BII)V"), (31, .methodref 12 174), (0, .nameAndType 175 99), (0, u "checkBoundsOffCount"), (85, u "coderFromArrayLen"), (0, u "([BI)B"), (18, u "(III)I"), (87, .class_ 371), (1, u "java/lang/StringUTF16$LinesSpliterator"), (20, u "charAt"), (21, .methodref 3 415), (0, .nameAndType 69 416), (0, u "(II)V"), (2, .methodref 3 420), (0, .nameAndType 175 281), (9, u "MAX_LENGTH"), (196, .class_ 628), (0, u "java/lang/StringUTF16$CodePointsSpliterator"), (0, .class_ 630), (0, u "java/lang/StringUTF16$CharsSpliterator")] 4

def k8m0 : Method := { name := "<init>", desc := "()V", sig := { parameters := [], returnType := none }, accessFlags := 0, code := none }
def k8c1 : Code := { maxStack := 1, maxLocals := 1, code := jdk_52_method_2_code, exceptionTable := #[], attributes := #[] }
def k8m1 : Method := { name := "newBytesFor", desc := "(I)[B", sig := { parameters := [.int], returnType := some (.array .byte) }, accessFlags := 9, code := some k8c1 }
def k8c2 : Code := { maxStack := 4, maxLocals := 1, code := jdk_52_method_3_code, exceptionTable := #[], attributes := #[] }
def k8m2 : Method := { name := "newBytesLength", desc := "(I)I", sig := { parameters := [.int], returnType := some .int }, accessFlags := 9, code := some k8c2 }
def k8c3 : Code := { maxStack := 4, maxLocals := 3, code := jdk_52_method_4_code, exceptionTable := #[], attributes := #[] }
def k8m3 : Method := { name := "putChar", desc := "([BII)V", sig := { parameters := [(.array .byte), .int, .int], returnType := none }, accessFlags := 8, code := some k8c3 }
def k8c4 : Code := { maxStack := 3, maxLocals := 2, code := jdk_52_method_5_code, exceptionTable := #[], attributes := #[] }
def k8m4 : Method := { name := "getChar", desc := "([BI)C", sig := { parameters := [(.array .byte), .int], returnType := some .char }, accessFlags := 8, code := some k8c4 }
def k8c5 : Code := { maxStack := 2, maxLocals := 1, code := jdk_52_method_6_code, exceptionTable := #[], attributes := #[] }
def k8m5 : Method := { name := "length", desc := "([B)I", sig := { parameters := [(.array .byte)], returnType := some .int }, accessFlags := 9, code := some k8c5 }
def k8c6 : Code := { maxStack := 4, maxLocals := 5, code := jdk_52_method_14_code, exceptionTable := #[], attributes := #[] }
def k8m6 : Method := { name := "toBytes", desc := "([CII)[B", sig := { parameters := [(.array .char), .int, .int], returnType := some (.array .byte) }, accessFlags := 9, code := some k8c6 }
def k8c7 : Code := { maxStack := 2, maxLocals := 2, code := jdk_52_method_15_code, exceptionTable := #[], attributes := #[] }
def k8m7 : Method := { name := "coderFromArrayLen", desc := "([BI)B", sig := { parameters := [(.array .byte), .int], returnType := some .byte }, accessFlags := 8, code := some k8c7 }
def k8c8 : Code := { maxStack := 5, maxLocals := 6, code := jdk_52_method_16_code, exceptionTable := #[], attributes := #[] }
def k8m8 : Method := { name := "compress", desc := "([CII)[B", sig := { parameters := [(.array .char), .int, .int], returnType := some (.array .byte) }, accessFlags := 9, code := some k8c8 }
def k8c9 : Code := { maxStack := 3, maxLocals := 7, code := jdk_52_method_21_code, exceptionTable := #[], attributes := #[] }
def k8m9 : Method := { name := "compress", desc := "([CI[BII)I", sig := { parameters := [(.array .char), .int, (.array .byte), .int, .int], returnType := some .int }, accessFlags := 9, code := some k8c9 }
def k8c10 : Code := { maxStack := 2, maxLocals := 2, code := jdk_52_method_83_code, exceptionTable := #[], attributes := #[] }
def k8m10 : Method := { name := "charAt", desc := "([BI)C", sig := { parameters := [(.array .byte), .int], returnType := some .char }, accessFlags := 9, code := some k8c10 }
def k8c11 : Code := { maxStack := 4, maxLocals := 6, code := jdk_52_method_86_code, exceptionTable := #[], attributes := #[] }
def k8m11 : Method := { name := "inflate", desc := "([BI[BII)V", sig := { parameters := [(.array .byte), .int, (.array .byte), .int, .int], returnType := none }, accessFlags := 9, code := some k8c11 }
def k8c12 : Code := { maxStack := 2, maxLocals := 2, code := jdk_52_method_91_code, exceptionTable := #[], attributes := #[] }
def k8m12 : Method := { name := "checkIndex", desc := "(I[B)V", sig := { parameters := [.int, (.array .byte)], returnType := none }, accessFlags := 9, code := some k8c12 }
def k8c13 : Code := { maxStack := 3, maxLocals := 3, code := jdk_52_method_94_code, exceptionTable := #[], attributes := #[] }
def k8m13 : Method := { name := "checkBoundsOffCount", desc := "(II[B)V", sig := { parameters := [.int, .int, (.array .byte)], returnType := none }, accessFlags := 9, code := some k8c13 }
/-- java/lang/StringUTF16 -/
def k8 : Class := { plain "java/lang/StringUTF16" (some 0) with
  accessFlags := 48
  interfaces := #[]
  cf := some (fileOf pool8 12 #[.nestMembers #[627, 629, 369]] #[{ accessFlags := 0, nameIndex := 9, descriptorIndex := 10, attributes := #[] }, { accessFlags := 9, nameIndex := 109, descriptorIndex := 110, attributes := #[] }, { accessFlags := 9, nameIndex := 15, descriptorIndex := 16, attributes := #[] }, { accessFlags := 8, nameIndex := 113, descriptorIndex := 114, attributes := #[] }, { accessFlags := 8, nameIndex := 73, descriptorIndex := 74, attributes := #[] }, { accessFlags := 9, nameIndex := 50, descriptorIndex := 51, attributes := #[] }, { accessFlags := 9, nameIndex := 121, descriptorIndex := 122, attributes := #[] }, { accessFlags := 8, nameIndex := 261, descriptorIndex := 262, attributes := #[] }, { accessFlags := 9, nameIndex := 117, descriptorIndex := 122, attributes := #[] }, { accessFlags := 9, nameIndex := 117, descriptorIndex := 118, attributes := #[] }, { accessFlags := 9, nameIndex := 392, descriptorIndex := 74, attributes := #[] }, { accessFlags := 9, nameIndex := 140, descriptorIndex := 141, attributes := #[] }, { accessFlags := 9, nameIndex := 69, descriptorIndex := 70, attributes := #[] }, { accessFlags := 9, nameIndex := 175, descriptorIndex := 99, attributes := #[] }] 48 6 #[] #[{ accessFlags := 26, nameIndex := 61, descriptorIndex := 62, attributes := #[] }, { accessFlags := 26, nameIndex := 65, descriptorIndex := 62, attributes := #[] }, { accessFlags := 24, nameIndex := 430, descriptorIndex := 62, attributes := #[] }, { accessFlags := 4120, nameIndex := 46, descriptorIndex := 47, attributes := #[] }])
  fields := #[{ name := "HI_BYTE_SHIFT", type := .int, accessFlags := 26, slot := 0, constantValue := 0 }, { name := "LO_BYTE_SHIFT", type := .int, accessFlags := 26, slot := 1, constantValue := 0 }, { name := "MAX_LENGTH", type := .int, accessFlags := 24, slot := 2, constantValue := 0 }, { name := "$assertionsDisabled", type := .boolean, accessFlags := 4120, slot := 3, constantValue := 0 }]
  methods := #[k8m0, k8m1, k8m2, k8m3, k8m4, k8m5, k8m6, k8m7, k8m8, k8m9, k8m10, k8m11, k8m12, k8m13]
  instanceTypes := #[]
  staticTypes := #[.int, .int, .int, .boolean]
  resolved := Array.replicate 635 none
  statics := some 1 }

def pool9 : Array CpInfo := pool [(1, .methodref 2 3), (0, .class_ 4), (0, .nameAndType 5 6), (0, u "java/lang/Object"), (0, u "<init>"), (0, u "()V"), (0, .class_ 8), (0, u "java/lang/Record")] 13

def k9c0 : Code := { maxStack := 1, maxLocals := 1, code := jdk_30_method_1_code, exceptionTable := #[], attributes := #[] }
def k9m0 : Method := { name := "<init>", desc := "()V", sig := { parameters := [], returnType := none }, accessFlags := 4, code := some k9c0 }
/-- java/lang/Record -/
def k9 : Class := { plain "java/lang/Record" (some 0) with
  accessFlags := 1057
  interfaces := #[]
  cf := some (fileOf pool9 7 #[] #[{ accessFlags := 4, nameIndex := 5, descriptorIndex := 6, attributes := #[] }] 1057 2 #[] #[])
  fields := #[]
  methods := #[k9m0]
  instanceTypes := #[]
  staticTypes := #[]
  resolved := Array.replicate 22 none
  statics := none }

def pool10 : Array CpInfo := pool [(1, .methodref 2 3), (0, .class_ 4), (0, .nameAndType 5 6), (0, u "java/lang/Record"), (0, u "<init>"), (0, u "()V"), (0, .fieldref 8 9), (0, .class_ 10), (0, .nameAndType 11 12), (0, u "com/example/chronoforge/chronoforge/design/Precedence"), (0, u "from"), (0, u "Ljava/lang/String;"), (0, .fieldref 8 14), (0, .nameAndType 15 12), (0, u "to"), (0, .class_ 17), (0, u "java/lang/StringBuilder"), (0, .methodref 16 3), (0, .methodref 16 20), (0, .nameAndType 21 22), (0, u "append"), (0, u "(Ljava/lang/String;)Ljava/lang/StringBuilder;"), (0, .string 24), (0, u " -> "), (0, .methodref 16 26), (0, .nameAndType 27 28), (0, u "toString"), (0, u "()Ljava/lang/String;"), (8, u "(Ljava/lang/String;Ljava/lang/String;)V")] 26

def k10c0 : Code := { maxStack := 2, maxLocals := 3, code := prog_40_method_1_code, exceptionTable := #[], attributes := #[] }
def k10m0 : Method := { name := "<init>", desc := "(Ljava/lang/String;Ljava/lang/String;)V", sig := { parameters := [(.object "java/lang/String"), (.object "java/lang/String")], returnType := none }, accessFlags := 1, code := some k10c0 }
def k10c1 : Code := { maxStack := 2, maxLocals := 1, code := prog_40_method_2_code, exceptionTable := #[], attributes := #[] }
def k10m1 : Method := { name := "toString", desc := "()Ljava/lang/String;", sig := { parameters := [], returnType := some (.object "java/lang/String") }, accessFlags := 1, code := some k10c1 }
/-- com/example/chronoforge/chronoforge/design/Precedence -/
def k10 : Class := { plain "com/example/chronoforge/chronoforge/design/Precedence" (some 9) with
  accessFlags := 49
  interfaces := #[]
  cf := some (fileOf pool10 8 #[] #[{ accessFlags := 1, nameIndex := 5, descriptorIndex := 37, attributes := #[] }, { accessFlags := 1, nameIndex := 27, descriptorIndex := 28, attributes := #[] }] 49 2 #[] #[{ accessFlags := 18, nameIndex := 11, descriptorIndex := 12, attributes := #[] }, { accessFlags := 18, nameIndex := 15, descriptorIndex := 12, attributes := #[] }])
  fields := #[{ name := "from", type := (.object "java/lang/String"), accessFlags := 18, slot := 0, constantValue := 0 }, { name := "to", type := (.object "java/lang/String"), accessFlags := 18, slot := 1, constantValue := 0 }]
  methods := #[k10m0, k10m1]
  instanceTypes := #[(.object "java/lang/String"), (.object "java/lang/String")]
  staticTypes := #[]
  resolved := Array.replicate 64 none
  statics := none }

def pool11 : Array CpInfo := pool [(1, .class_ 2), (0, u "java/lang/Appendable"), (0, .class_ 4), (0, u "java/lang/Object")] 9

/-- java/lang/Appendable -/
def k11 : Class := { plain "java/lang/Appendable" (some 0) with
  accessFlags := 1537
  interfaces := #[]
  cf := some (fileOf pool11 1 #[] #[] 1537 3 #[] #[])
  fields := #[]
  methods := #[]
  instanceTypes := #[]
  staticTypes := #[]
  resolved := Array.replicate 14 none
  statics := none }

def pool12 : Array CpInfo := pool [(1, .class_ 2), (0, u "java/lang/String"), (0, .methodref 4 5), (0, .class_ 6), (0, .nameAndType 7 8), (0, u "java/lang/Object"), (0, u "<init>"), (0, u "()V"), (1, .class_ 12), (1, u "java/lang/AbstractStringBuilder"), (0, u "EMPTYVALUE"), (0, u "[B"), (0, .fieldref 10 16), (0, .nameAndType 17 14), (0, u "value"), (0, .fieldref 1 19), (0, .nameAndType 20 21), (0, u "COMPACT_STRINGS"), (0, u "Z"), (0, .fieldref 10 23), (0, .nameAndType 24 25), (0, u "coder"), (0, u "B"), (0, .methodref 27 28), (0, .class_ 29), (0, .nameAndType 30 31), (0, u "java/lang/StringUTF16"), (0, u "newBytesFor"), (0, u "(I)[B"), (0, .methodref 1 33), (0, .nameAndType 34 35), (0, u "length"), (0, u "()I"), (4, .methodref 1 41), (0, .nameAndType 24 42), (0, u "()B"), (2, u "append"), (0, u "(Ljava/lang/String;)Ljava/lang/AbstractStringBuilder;"), (1, .class_ 49), (0, u "java/lang/CharSequence"), (19, u "(Ljava/lang/String;)V"), (5, u "maybeLatin1"), (3, .fieldref 10 80), (0, .nameAndType 81 82), (0, u "count"), (0, u "I"), (0, .methodref 10 84), (0, .nameAndType 85 86), (0, u "isLatin1"), (0, u "()Z"), (1, .class_ 90), (1, u "java/lang/StringLatin1"), (9, .methodref 10 101), (0, .nameAndType 102 103), (0, u "ensureCapacityInternal"), (0, u "(I)V"), (21, .methodref 88 126), (0, .nameAndType 127 128), (0, u "inflate"), (0, u "([BI[BII)V"), (66, .methodref 10 196), (0, .nameAndType 127 8), (11, .methodref 10 209), (0, .nameAndType 210 211), (0, u "putStringAt"), (0, u "(ILjava/lang/String;)V"), (5, u "inflateIfNeededFor"), (2, .nameAndType 221 222), (0, u "getBytes"), (0, u "([BIB)V"), (174, .methodref 10 398), (0, .nameAndType 217 69), (0, .methodref 1 220), (3, u "()[B"), (40, .class_ 445), (0, u "java/lang/Appendable"), (106, u "getValue")] 56

def k12m0 : Method := { name := "<init>", desc := "()V", sig := { parameters := [], returnType := none }, accessFlags := 0, code := none }
def k12c1 : Code := { maxStack := 2, maxLocals := 2, code := jdk_68_method_2_code, exceptionTable := #[], attributes := #[] }
def k12m1 : Method := { name := "<init>", desc := "(I)V", sig := { parameters := [.int], returnType := none }, accessFlags := 0, code := some k12c1 }
def k12c2 : Code := { maxStack := 1, maxLocals := 1, code := jdk_68_method_6_code, exceptionTable := #[], attributes := #[] }
def k12m2 : Method := { name := "length", desc := "()I", sig := { parameters := [], returnType := some .int }, accessFlags := 1, code := some k12c2 }
def k12c3 : Code := { maxStack := 4, maxLocals := 3, code := jdk_68_method_9_code, exceptionTable := #[], attributes := #[] }
def k12m3 : Method := { name := "ensureCapacityInternal", desc := "(I)V", sig := { parameters := [.int], returnType := none }, accessFlags := 2, code := some k12c3 }
def k12c4 : Code := { maxStack := 5, maxLocals := 2, code := jdk_68_method_11_code, exceptionTable := #[], attributes := #[] }
def k12m4 : Method := { name := "inflate", desc := "()V", sig := { parameters := [], returnType := none }, accessFlags := 2, code := some k12c4 }
def k12c5 : Code := { maxStack := 3, maxLocals := 3, code := jdk_68_method_22_code, exceptionTable := #[], attributes := #[] }
def k12m5 : Method := { name := "append", desc := "(Ljava/lang/String;)Ljava/lang/AbstractStringBuilder;", sig := { parameters := [(.object "java/lang/String")], returnType := some (.object "java/lang/AbstractStringBuilder") }, accessFlags := 1, code := some k12c5 }
def k12c6 : Code := { maxStack := 1, maxLocals := 1, code := jdk_68_method_64_code, exceptionTable := #[], attributes := #[] }
def k12m6 : Method := { name := "getValue", desc := "()[B", sig := { parameters := [], returnType := some (.array .byte) }, accessFlags := 16, code := some k12c6 }
def k12c7 : Code := { maxStack := 1, maxLocals := 1, code := jdk_68_method_68_code, exceptionTable := #[], attributes := #[] }
def k12m7 : Method := { name := "isLatin1", desc := "()Z", sig := { parameters := [], returnType := some .boolean }, accessFlags := 16, code := some k12c7 }
def k12c8 : Code := { maxStack := 2, maxLocals := 2, code := jdk_68_method_71_code, exceptionTable := #[], attributes := #[] }
def k12m8 : Method := { name := "inflateIfNeededFor", desc := "(Ljava/lang/String;)V", sig := { parameters := [(.object "java/lang/String")], returnType := none }, accessFlags := 2, code := some k12c8 }
def k12c9 : Code := { maxStack := 4, maxLocals := 3, code := jdk_68_method_73_code, exceptionTable := #[], attributes := #[] }
def k12m9 : Method := { name := "putStringAt", desc := "(ILjava/lang/String;)V", sig := { parameters := [.int, (.object "java/lang/String")], returnType := none }, accessFlags := 2, code := some k12c9 }
/-- java/lang/AbstractStringBuilder -/
def k12 : Class := { plain "java/lang/AbstractStringBuilder" (some 0) with
  accessFlags := 1056
  interfaces := #[11, 4]
  cf := some (fileOf pool12 10 #[] #[{ accessFlags := 0, nameIndex := 7, descriptorIndex := 8, attributes := #[] }, { accessFlags := 0, nameIndex := 7, descriptorIndex := 103, attributes := #[] }, { accessFlags := 1, nameIndex := 34, descriptorIndex := 35, attributes := #[] }, { accessFlags := 2, nameIndex := 102, descriptorIndex := 103, attributes := #[] }, { accessFlags := 2, nameIndex := 127, descriptorIndex := 8, attributes := #[] }, { accessFlags := 1, nameIndex := 45, descriptorIndex := 46, attributes := #[] }, { accessFlags := 16, nameIndex := 552, descriptorIndex := 403, attributes := #[] }, { accessFlags := 16, nameIndex := 85, descriptorIndex := 86, attributes := #[] }, { accessFlags := 2, nameIndex := 217, descriptorIndex := 69, attributes := #[] }, { accessFlags := 2, nameIndex := 210, descriptorIndex := 211, attributes := #[] }] 1056 4 #[444, 48] #[{ accessFlags := 0, nameIndex := 17, descriptorIndex := 14, attributes := #[] }, { accessFlags := 0, nameIndex := 24, descriptorIndex := 25, attributes := #[] }, { accessFlags := 0, nameIndex := 75, descriptorIndex := 21, attributes := #[] }, { accessFlags := 0, nameIndex := 81, descriptorIndex := 82, attributes := #[] }, { accessFlags := 26, nameIndex := 13, descriptorIndex := 14, attributes := #[] }])
  fields := #[{ name := "value", type := (.array .byte), accessFlags := 0, slot := 0, constantValue := 0 }, { name := "coder", type := .byte, accessFlags := 0, slot := 1, constantValue := 0 }, { name := "maybeLatin1", type := .boolean, accessFlags := 0, slot := 2, constantValue := 0 }, { name := "count", type := .int, accessFlags := 0, slot := 3, constantValue := 0 }, { name := "EMPTYVALUE", type := (.array .byte), accessFlags := 26, slot := 0, constantValue := 0 }]
  methods := #[k12m0, k12m1, k12m2, k12m3, k12m4, k12m5, k12m6, k12m7, k12m8, k12m9]
  instanceTypes := #[(.array .byte), .byte, .boolean, .int]
  staticTypes := #[(.array .byte)]
  resolved := Array.replicate 609 none
  statics := none }

def pool13 : Array CpInfo := pool [(1, .methodref 2 3), (0, .class_ 4), (0, .nameAndType 5 6), (0, u "java/lang/AbstractStringBuilder"), (0, u "<init>"), (0, u "(I)V"), (11, .class_ 20), (1, u "java/lang/String"), (3, .class_ 26), (1, u "java/lang/StringBuilder"), (0, u "append"), (0, u "(Ljava/lang/String;)Ljava/lang/StringBuilder;"), (0, .methodref 2 30), (0, .nameAndType 27 31), (0, u "(Ljava/lang/String;)Ljava/lang/AbstractStringBuilder;"), (105, .methodref 18 138), (0, .nameAndType 5 139), (0, u "(Ljava/lang/StringBuilder;)V"), (5, u "()V"), (10, u "()I"), (186, .methodref 2 344), (0, .nameAndType 345 156), (0, u "length"), (3, .class_ 350), (0, u "java/lang/Appendable"), (0, .class_ 352), (0, u "java/io/Serializable"), (0, .class_ 354), (0, u "java/lang/Comparable"), (0, .class_ 356), (0, u "java/lang/CharSequence"), (0, u "serialVersionUID"), (0, u "J"), (40, u "toString"), (0, u "()Ljava/lang/String;")] 21

def k13c0 : Code := { maxStack := 2, maxLocals := 1, code := jdk_67_method_1_code, exceptionTable := #[], attributes := #[] }
def k13m0 : Method := { name := "<init>", desc := "()V", sig := { parameters := [], returnType := none }, accessFlags := 1, code := some k13c0 }
def k13c1 : Code := { maxStack := 2, maxLocals := 2, code := jdk_67_method_7_code, exceptionTable := #[], attributes := #[] }
def k13m1 : Method := { name := "append", desc := "(Ljava/lang/String;)Ljava/lang/StringBuilder;", sig := { parameters := [(.object "java/lang/String")], returnType := some (.object "java/lang/StringBuilder") }, accessFlags := 1, code := some k13c1 }
def k13c2 : Code := { maxStack := 3, maxLocals := 1, code := jdk_67_method_42_code, exceptionTable := #[], attributes := #[] }
def k13m2 : Method := { name := "toString", desc := "()Ljava/lang/String;", sig := { parameters := [], returnType := some (.object "java/lang/String") }, accessFlags := 1, code := some k13c2 }
def k13c3 : Code := { maxStack := 1, maxLocals := 1, code := jdk_67_method_93_code, exceptionTable := #[], attributes := #[] }
def k13m3 : Method := { name := "length", desc := "()I", sig := { parameters := [], returnType := some .int }, accessFlags := 4161, code := some k13c3 }
/-- java/lang/StringBuilder -/
def k13 : Class := { plain "java/lang/StringBuilder" (some 12) with
  accessFlags := 49
  interfaces := #[11, 2, 3, 4]
  cf := some (fileOf pool13 24 #[] #[{ accessFlags := 1, nameIndex := 5, descriptorIndex := 145, attributes := #[] }, { accessFlags := 1, nameIndex := 27, descriptorIndex := 28, attributes := #[] }, { accessFlags := 1, nameIndex := 399, descriptorIndex := 400, attributes := #[] }, { accessFlags := 4161, nameIndex := 345, descriptorIndex := 156, attributes := #[] }] 49 2 #[349, 351, 353, 355] #[{ accessFlags := 24, nameIndex := 357, descriptorIndex := 358, attributes := #[] }])
  fields := #[{ name := "serialVersionUID", type := .long, accessFlags := 24, slot := 0, constantValue := 0 }]
  methods := #[k13m0, k13m1, k13m2, k13m3]
  instanceTypes := #[(.array .byte), .byte, .boolean, .int]
  staticTypes := #[.long]
  resolved := Array.replicate 422 none
  statics := none }

def pool14 : Array CpInfo := pool [(2, .class_ 4), (1, u "java/lang/Object"), (0, u "<init>"), (0, u "()V"), (1, .class_ 10), (1, u "java/lang/System"), (0, u "allowSecurityManager"), (0, u "I"), (16, u "cons"), (0, u "Ljava/io/Console;"), (77, .class_ 110), (1, u "java/lang/System$CallersHolder"), (43, u "initialErrStream"), (0, u "Ljava/io/PrintStream;"), (19, u "security"), (0, u "Ljava/lang/SecurityManager;"), (31, .class_ 209), (0, u "java/lang/System$1"), (7, u "props"), (0, u "Ljava/util/Properties;"), (2, u "lineSeparator"), (0, u "Ljava/lang/String;"), (96, .class_ 321), (1, u "java/lang/System$LoggerFinder"), (5, .class_ 328), (0, u "java/lang/System$Logger"), (67, u "err"), (2, u "out"), (91, u "notSupportedJnuEncoding"), (15, u "in"), (17, u "initialIn"), (0, u "Ljava/io/InputStream;"), (35, u "bootLayer"), (0, u "Ljava/lang/ModuleLayer;"), (99, .class_ 664), (0, u "java/lang/System$2"), (9, u "NEVER"), (2, u "MAYBE"), (49, u "arraycopy"), (0, u "(Ljava/lang/Object;ILjava/lang/Object;II)V"), (72, .class_ 802), (0, u "java/lang/System$Logger$Level")] 31

def k14m0 : Method := { name := "<init>", desc := "()V", sig := { parameters := [], returnType := none }, accessFlags := 2, code := none }
def k14m1 : Method := { name := "arraycopy", desc := "(Ljava/lang/Object;ILjava/lang/Object;II)V", sig := { parameters := [(.object "java/lang/Object"), .int, (.object "java/lang/Object"), .int, .int], returnType := none }, accessFlags := 265, code := none }
/-- java/lang/System -/
def k14 : Class := { plain "java/lang/System" (some 0) with
  accessFlags := 49
  interfaces := #[]
  cf := some (fileOf pool14 8 #[.nestMembers #[319, 327, 801, 108, 663, 208]] #[{ accessFlags := 2, nameIndex := 5, descriptorIndex := 6, attributes := #[] }, { accessFlags := 265, nameIndex := 727, descriptorIndex := 728, attributes := #[] }] 49 2 #[] #[{ accessFlags := 25, nameIndex := 507, descriptorIndex := 526, attributes := #[] }, { accessFlags := 25, nameIndex := 399, descriptorIndex := 155, attributes := #[] }, { accessFlags := 25, nameIndex := 396, descriptorIndex := 155, attributes := #[] }, { accessFlags := 10, nameIndex := 525, descriptorIndex := 526, attributes := #[] }, { accessFlags := 26, nameIndex := 674, descriptorIndex := 12, attributes := #[] }, { accessFlags := 26, nameIndex := 677, descriptorIndex := 12, attributes := #[] }, { accessFlags := 10, nameIndex := 11, descriptorIndex := 12, attributes := #[] }, { accessFlags := 74, nameIndex := 175, descriptorIndex := 176, attributes := #[] }, { accessFlags := 10, nameIndex := 491, descriptorIndex := 222, attributes := #[] }, { accessFlags := 74, nameIndex := 29, descriptorIndex := 30, attributes := #[] }, { accessFlags := 74, nameIndex := 154, descriptorIndex := 155, attributes := #[] }, { accessFlags := 10, nameIndex := 217, descriptorIndex := 218, attributes := #[] }, { accessFlags := 10, nameIndex := 221, descriptorIndex := 222, attributes := #[] }, { accessFlags := 8, nameIndex := 562, descriptorIndex := 563, attributes := #[] }])
  fields := #[{ name := "in", type := (.object "java/io/InputStream"), accessFlags := 25, slot := 0, constantValue := 0 }, { name := "out", type := (.object "java/io/PrintStream"), accessFlags := 25, slot := 1, constantValue := 0 }, { name := "err", type := (.object "java/io/PrintStream"), accessFlags := 25, slot := 2, constantValue := 0 }, { name := "initialIn", type := (.object "java/io/InputStream"), accessFlags := 10, slot := 3, constantValue := 0 }, { name := "NEVER", type := .int, accessFlags := 26, slot := 4, constantValue := 0 }, { name := "MAYBE", type := .int, accessFlags := 26, slot := 5, constantValue := 0 }, { name := "allowSecurityManager", type := .int, accessFlags := 10, slot := 6, constantValue := 0 }, { name := "security", type := (.object "java/lang/SecurityManager"), accessFlags := 74, slot := 7, constantValue := 0 }, { name := "notSupportedJnuEncoding", type := (.object "java/lang/String"), accessFlags := 10, slot := 8, constantValue := 0 }, { name := "cons", type := (.object "java/io/Console"), accessFlags := 74, slot := 9, constantValue := 0 }, { name := "initialErrStream", type := (.object "java/io/PrintStream"), accessFlags := 74, slot := 10, constantValue := 0 }, { name := "props", type := (.object "java/util/Properties"), accessFlags := 10, slot := 11, constantValue := 0 }, { name := "lineSeparator", type := (.object "java/lang/String"), accessFlags := 10, slot := 12, constantValue := 0 }, { name := "bootLayer", type := (.object "java/lang/ModuleLayer"), accessFlags := 8, slot := 13, constantValue := 0 }]
  methods := #[k14m0, k14m1]
  instanceTypes := #[]
  staticTypes := #[(.object "java/io/InputStream"), (.object "java/io/PrintStream"), (.object "java/io/PrintStream"), (.object "java/io/InputStream"), .int, .int, .int, (.object "java/lang/SecurityManager"), (.object "java/lang/String"), (.object "java/io/Console"), (.object "java/io/PrintStream"), (.object "java/util/Properties"), (.object "java/lang/String"), (.object "java/lang/ModuleLayer")]
  resolved := Array.replicate 834 none
  statics := none }

def pool15 : Array CpInfo := pool [(2, .class_ 4), (1, u "java/lang/Object"), (0, u "<init>"), (0, u "()V"), (7, .class_ 16), (1, u "java/util/Arrays"), (57, .class_ 76), (1, u "java/util/Arrays$NaturalOrder"), (36, .class_ 115), (1, u "java/util/Arrays$LegacyMergeSort"), (1, u "Z"), (21, u "copyOfRange"), (10, .methodref 151 152), (0, .class_ 153), (0, .nameAndType 154 155), (0, u "java/lang/System"), (0, u "arraycopy"), (0, u "(Ljava/lang/Object;ILjava/lang/Object;II)V"), (148, .methodref 305 306), (0, .class_ 307), (0, .nameAndType 308 309), (0, u "java/lang/Math"), (0, u "min"), (0, u "(II)I"), (29, .methodref 14 340), (0, .nameAndType 341 342), (0, u "copyOfRangeByte"), (0, u "([BII)[B"), (0, .methodref 14 344), (0, .nameAndType 345 346), (0, u "checkLength"), (0, u "(II)V"), (28, .class_ 376), (0, u "java/util/Arrays$ArrayList"), (68, u "$assertionsDisabled"), (269, u "MIN_ARRAY_SORT_GRAN"), (0, u "I"), (2, u "INSERTIONSORT_THRESHOLD"), (255, .class_ 976), (0, u "java/util/Arrays$ArrayItr")] 52

def k15m0 : Method := { name := "<init>", desc := "()V", sig := { parameters := [], returnType := none }, accessFlags := 2, code := none }
def k15c1 : Code := { maxStack := 4, maxLocals := 2, code := jdk_65_method_131_code, exceptionTable := #[], attributes := #[] }
def k15m1 : Method := { name := "checkLength", desc := "(II)V", sig := { parameters := [.int, .int], returnType := none }, accessFlags := 10, code := some k15c1 }
def k15c2 : Code := { maxStack := 3, maxLocals := 3, code := jdk_65_method_132_code, exceptionTable := #[], attributes := #[] }
def k15m2 : Method := { name := "copyOfRange", desc := "([BII)[B", sig := { parameters := [(.array .byte), .int, .int], returnType := some (.array .byte) }, accessFlags := 9, code := some k15c2 }
def k15c3 : Code := { maxStack := 6, maxLocals := 5, code := jdk_65_method_133_code, exceptionTable := #[], attributes := #[] }
def k15m3 : Method := { name := "copyOfRangeByte", desc := "([BII)[B", sig := { parameters := [(.array .byte), .int, .int], returnType := some (.array .byte) }, accessFlags := 10, code := some k15c3 }
/-- java/util/Arrays -/
def k15 : Class := { plain "java/util/Arrays" (some 0) with
  accessFlags := 49
  interfaces := #[]
  cf := some (fileOf pool15 14 #[.nestMembers #[975, 375, 113, 74]] #[{ accessFlags := 2, nameIndex := 5, descriptorIndex := 6, attributes := #[] }, { accessFlags := 10, nameIndex := 345, descriptorIndex := 346, attributes := #[] }, { accessFlags := 9, nameIndex := 139, descriptorIndex := 342, attributes := #[] }, { accessFlags := 10, nameIndex := 341, descriptorIndex := 342, attributes := #[] }] 49 2 #[] #[{ accessFlags := 26, nameIndex := 715, descriptorIndex := 716, attributes := #[] }, { accessFlags := 26, nameIndex := 719, descriptorIndex := 716, attributes := #[] }, { accessFlags := 4120, nameIndex := 445, descriptorIndex := 117, attributes := #[] }])
  fields := #[{ name := "MIN_ARRAY_SORT_GRAN", type := .int, accessFlags := 26, slot := 0, constantValue := 0 }, { name := "INSERTIONSORT_THRESHOLD", type := .int, accessFlags := 26, slot := 1, constantValue := 0 }, { name := "$assertionsDisabled", type := .boolean, accessFlags := 4120, slot := 2, constantValue := 0 }]
  methods := #[k15m0, k15m1, k15m2, k15m3]
  instanceTypes := #[]
  staticTypes := #[.int, .int, .boolean]
  resolved := Array.replicate 1029 none
  statics := none }

def pool16 : Array CpInfo := pool [(1, .class_ 2), (0, u "java/lang/Math"), (1, .class_ 6), (1, u "java/lang/Object"), (0, u "<init>"), (0, u "()V"), (89, .class_ 100), (1, u "java/lang/Math$RandomNumberGeneratorHolder"), (71, u "negativeZeroFloatBits"), (0, u "J"), (2, u "negativeZeroDoubleBits"), (24, u "min"), (43, u "$assertionsDisabled"), (0, u "Z"), (88, u "(II)I"), (2, u "twoToTheDoubleScaleDown"), (0, u "D"), (4, u "twoToTheDoubleScaleUp"), (9, u "E"), (3, u "PI"), (2, u "TAU"), (2, u "DEGREES_TO_RADIANS"), (0, u "RADIANS_TO_DEGREES")] 94

def k16m0 : Method := { name := "<init>", desc := "()V", sig := { parameters := [], returnType := none }, accessFlags := 2, code := none }
def k16c1 : Code := { maxStack := 2, maxLocals := 2, code := jdk_29_method_69_code, exceptionTable := #[], attributes := #[] }
def k16m1 : Method := { name := "min", desc := "(II)I", sig := { parameters := [.int, .int], returnType := some .int }, accessFlags := 9, code := some k16c1 }
/-- java/lang/Math -/
def k16 : Class := { plain "java/lang/Math" (some 0) with
  accessFlags := 49
  interfaces := #[]
  cf := some (fileOf pool16 1 #[.nestMembers #[98]] #[{ accessFlags := 2, nameIndex := 7, descriptorIndex := 8, attributes := #[] }, { accessFlags := 9, nameIndex := 201, descriptorIndex := 335, attributes := #[] }] 49 4 #[] #[{ accessFlags := 25, nameIndex := 354, descriptorIndex := 339, attributes := #[] }, { accessFlags := 25, nameIndex := 358, descriptorIndex := 339, attributes := #[] }, { accessFlags := 25, nameIndex := 361, descriptorIndex := 339, attributes := #[] }, { accessFlags := 26, nameIndex := 364, descriptorIndex := 339, attributes := #[] }, { accessFlags := 26, nameIndex := 365, descriptorIndex := 339, attributes := #[] }, { accessFlags := 26, nameIndex := 172, descriptorIndex := 173, attributes := #[] }, { accessFlags := 26, nameIndex := 176, descriptorIndex := 173, attributes := #[] }, { accessFlags := 8, nameIndex := 344, descriptorIndex := 339, attributes := #[] }, { accessFlags := 8, nameIndex := 338, descriptorIndex := 339, attributes := #[] }, { accessFlags := 4120, nameIndex := 245, descriptorIndex := 246, attributes := #[] }])
  fields := #[{ name := "E", type := .double, accessFlags := 25, slot := 0, constantValue := 0 }, { name := "PI", type := .double, accessFlags := 25, slot := 1, constantValue := 0 }, { name := "TAU", type := .double, accessFlags := 25, slot := 2, constantValue := 0 }, { name := "DEGREES_TO_RADIANS", type := .double, accessFlags := 26, slot := 3, constantValue := 0 }, { name := "RADIANS_TO_DEGREES", type := .double, accessFlags := 26, slot := 4, constantValue := 0 }, { name := "negativeZeroFloatBits", type := .long, accessFlags := 26, slot := 5, constantValue := 0 }, { name := "negativeZeroDoubleBits", type := .long, accessFlags := 26, slot := 6, constantValue := 0 }, { name := "twoToTheDoubleScaleUp", type := .double, accessFlags := 8, slot := 7, constantValue := 0 }, { name := "twoToTheDoubleScaleDown", type := .double, accessFlags := 8, slot := 8, constantValue := 0 }, { name := "$assertionsDisabled", type := .boolean, accessFlags := 4120, slot := 9, constantValue := 0 }]
  methods := #[k16m0, k16m1]
  instanceTypes := #[]
  staticTypes := #[.double, .double, .double, .double, .double, .long, .long, .double, .double, .boolean]
  resolved := Array.replicate 460 none
  statics := none }

def pool17 : Array CpInfo := pool [(1, .class_ 2), (0, u "java/lang/String"), (1, .class_ 6), (1, u "java/lang/Object"), (0, u "<init>"), (0, u "()V"), (0, .methodref 1 10), (0, .nameAndType 11 12), (0, u "checkIndex"), (0, u "(II)V"), (1, .class_ 16), (1, u "java/lang/StringLatin1"), (0, u "inflate"), (2, .class_ 22), (1, u "java/lang/StringUTF16"), (3, .nameAndType 17 27), (0, u "([BI[BII)V"), (25, u "([BI)C"), (67, u "$assertionsDisabled"), (0, u "Z"), (98, .class_ 223), (1, u "java/lang/StringLatin1$LinesSpliterator"), (16, .methodref 20 26), (11, u "charAt"), (137, .class_ 391), (0, u "java/lang/StringLatin1$CharsSpliterator")] 3

def k17m0 : Method := { name := "<init>", desc := "()V", sig := { parameters := [], returnType := none }, accessFlags := 0, code := none }
def k17c1 : Code := { maxStack := 2, maxLocals := 2, code := jdk_43_method_2_code, exceptionTable := #[], attributes := #[] }
def k17m1 : Method := { name := "charAt", desc := "([BI)C", sig := { parameters := [(.array .byte), .int], returnType := some .char }, accessFlags := 9, code := some k17c1 }
def k17c2 : Code := { maxStack := 5, maxLocals := 5, code := jdk_43_method_50_code, exceptionTable := #[], attributes := #[] }
def k17m2 : Method := { name := "inflate", desc := "([BI[BII)V", sig := { parameters := [(.array .byte), .int, (.array .byte), .int, .int], returnType := none }, accessFlags := 9, code := some k17c2 }
/-- java/lang/StringLatin1 -/
def k17 : Class := { plain "java/lang/StringLatin1" (some 0) with
  accessFlags := 48
  interfaces := #[]
  cf := some (fileOf pool17 14 #[.nestMembers #[390, 221]] #[{ accessFlags := 0, nameIndex := 7, descriptorIndex := 8, attributes := #[] }, { accessFlags := 9, nameIndex := 252, descriptorIndex := 53, attributes := #[] }, { accessFlags := 9, nameIndex := 17, descriptorIndex := 27, attributes := #[] }] 48 4 #[] #[{ accessFlags := 4120, nameIndex := 121, descriptorIndex := 122, attributes := #[] }])
  fields := #[{ name := "$assertionsDisabled", type := .boolean, accessFlags := 4120, slot := 0, constantValue := 0 }]
  methods := #[k17m0, k17m1, k17m2]
  instanceTypes := #[]
  staticTypes := #[.boolean]
  resolved := Array.replicate 395 none
  statics := none }

def pool18 : Array CpInfo := pool [(2, .class_ 4), (1, u "java/lang/Object"), (0, u "<init>"), (0, u "()V"), (17, .class_ 26), (1, u "jdk/internal/util/Preconditions"), (6, u "checkIndex"), (15, u "checkFromIndexSize"), (5, .class_ 56), (0, u "jdk/internal/util/Preconditions$4"), (57, .class_ 115), (0, u "jdk/internal/util/Preconditions$1"), (7, u "SIOOBE_FORMATTER"), (0, u "Ljava/util/function/BiFunction;"), (0, .class_ 126), (0, u "jdk/internal/util/Preconditions$2"), (3, u "AIOOBE_FORMATTER"), (0, .class_ 132), (0, u "jdk/internal/util/Preconditions$3"), (3, u "IOOBE_FORMATTER"), (41, u "(IILjava/util/function/BiFunction;)I"), (4, u "(IIILjava/util/function/BiFunction;)I")] 10

def k18m0 : Method := { name := "<init>", desc := "()V", sig := { parameters := [], returnType := none }, accessFlags := 1, code := none }
def k18c1 : Code := { maxStack := 3, maxLocals := 3, code := jdk_41_method_11_code, exceptionTable := #[], attributes := #[] }
def k18m1 : Method := { name := "checkIndex", desc := "(IILjava/util/function/BiFunction;)I", sig := { parameters := [.int, .int, (.object "java/util/function/BiFunction")], returnType := some .int }, accessFlags := 9, code := some k18c1 }
def k18c2 : Code := { maxStack := 4, maxLocals := 4, code := jdk_41_method_13_code, exceptionTable := #[], attributes := #[] }
def k18m2 : Method := { name := "checkFromIndexSize", desc := "(IIILjava/util/function/BiFunction;)I", sig := { parameters := [.int, .int, .int, (.object "java/util/function/BiFunction")], returnType := some .int }, accessFlags := 9, code := some k18c2 }
/-- jdk/internal/util/Preconditions -/
def k18 : Class := { plain "jdk/internal/util/Preconditions" (some 0) with
  accessFlags := 33
  interfaces := #[]
  cf := some (fileOf pool18 24 #[.nestMembers #[55, 131, 125, 114]] #[{ accessFlags := 1, nameIndex := 5, descriptorIndex := 6, attributes := #[] }, { accessFlags := 9, nameIndex := 33, descriptorIndex := 178, attributes := #[] }, { accessFlags := 9, nameIndex := 49, descriptorIndex := 183, attributes := #[] }] 33 2 #[] #[{ accessFlags := 25, nameIndex := 123, descriptorIndex := 124, attributes := #[] }, { accessFlags := 25, nameIndex := 130, descriptorIndex := 124, attributes := #[] }, { accessFlags := 25, nameIndex := 136, descriptorIndex := 124, attributes := #[] }])
  fields := #[{ name := "SIOOBE_FORMATTER", type := (.object "java/util/function/BiFunction"), accessFlags := 25, slot := 0, constantValue := 0 }, { name := "AIOOBE_FORMATTER", type := (.object "java/util/function/BiFunction"), accessFlags := 25, slot := 1, constantValue := 0 }, { name := "IOOBE_FORMATTER", type := (.object "java/util/function/BiFunction"), accessFlags := 25, slot := 2, constantValue := 0 }]
  methods := #[k18m0, k18m1, k18m2]
  instanceTypes := #[]
  staticTypes := #[(.object "java/util/function/BiFunction"), (.object "java/util/function/BiFunction"), (.object "java/util/function/BiFunction")]
  resolved := Array.replicate 194 none
  statics := some 2 }

def pool19 : Array CpInfo := pool [(9, u "<init>"), (6, .class_ 18), (1, u "java/lang/Object"), (0, u "()V"), (1, .class_ 23), (1, u "jdk/internal/util/ArraysSupport"), (0, u "LOG2_ARRAY_LONG_INDEX_SCALE"), (0, u "I"), (2, u "U"), (0, u "Ljdk/internal/misc/Unsafe;"), (8, u "BIG_ENDIAN"), (0, u "Z"), (8, u "LOG2_BYTE_BIT_SIZE"), (4, u "LOG2_ARRAY_INT_INDEX_SCALE"), (54, u "JLA"), (0, u "Ljdk/internal/access/JavaLangAccess;"), (11, u "LOG2_ARRAY_BOOLEAN_INDEX_SCALE"), (9, u "LOG2_ARRAY_BYTE_INDEX_SCALE"), (5, u "LOG2_ARRAY_CHAR_INDEX_SCALE"), (5, u "LOG2_ARRAY_SHORT_INDEX_SCALE"), (18, u "LOG2_ARRAY_FLOAT_INDEX_SCALE"), (24, u "LOG2_ARRAY_DOUBLE_INDEX_SCALE"), (89, u "T_BOOLEAN"), (2, u "T_CHAR"), (1, u "T_FLOAT"), (1, u "T_DOUBLE"), (1, u "T_BYTE"), (1, u "T_SHORT"), (1, u "T_INT"), (1, u "T_LONG"), (1, u "SOFT_MAX_ARRAY_LENGTH")] 83

def k19m0 : Method := { name := "<init>", desc := "()V", sig := { parameters := [], returnType := none }, accessFlags := 2, code := none }
/-- jdk/internal/util/ArraysSupport -/
def k19 : Class := { plain "jdk/internal/util/ArraysSupport" (some 0) with
  accessFlags := 33
  interfaces := #[]
  cf := some (fileOf pool19 21 #[] #[{ accessFlags := 2, nameIndex := 9, descriptorIndex := 19, attributes := #[] }] 33 16 #[] #[{ accessFlags := 24, nameIndex := 28, descriptorIndex := 29, attributes := #[] }, { accessFlags := 26, nameIndex := 38, descriptorIndex := 39, attributes := #[] }, { accessFlags := 25, nameIndex := 121, descriptorIndex := 25, attributes := #[] }, { accessFlags := 25, nameIndex := 131, descriptorIndex := 25, attributes := #[] }, { accessFlags := 25, nameIndex := 137, descriptorIndex := 25, attributes := #[] }, { accessFlags := 25, nameIndex := 143, descriptorIndex := 25, attributes := #[] }, { accessFlags := 25, nameIndex := 53, descriptorIndex := 25, attributes := #[] }, { accessFlags := 25, nameIndex := 24, descriptorIndex := 25, attributes := #[] }, { accessFlags := 25, nameIndex := 162, descriptorIndex := 25, attributes := #[] }, { accessFlags := 25, nameIndex := 187, descriptorIndex := 25, attributes := #[] }, { accessFlags := 26, nameIndex := 48, descriptorIndex := 25, attributes := #[] }, { accessFlags := 25, nameIndex := 277, descriptorIndex := 25, attributes := #[] }, { accessFlags := 25, nameIndex := 280, descriptorIndex := 25, attributes := #[] }, { accessFlags := 25, nameIndex := 282, descriptorIndex := 25, attributes := #[] }, { accessFlags := 25, nameIndex := 284, descriptorIndex := 25, attributes := #[] }, { accessFlags := 25, nameIndex := 286, descriptorIndex := 25, attributes := #[] }, { accessFlags := 25, nameIndex := 288, descriptorIndex := 25, attributes := #[] }, { accessFlags := 25, nameIndex := 290, descriptorIndex := 25, attributes := #[] }, { accessFlags := 25, nameIndex := 292, descriptorIndex := 25, attributes := #[] }, { accessFlags := 26, nameIndex := 108, descriptorIndex := 109, attributes := #[] }, { accessFlags := 25, nameIndex := 294, descriptorIndex := 25, attributes := #[] }])
  fields := #[{ name := "U", type := (.object "jdk/internal/misc/Unsafe"), accessFlags := 24, slot := 0, constantValue := 0 }, { name := "BIG_ENDIAN", type := .boolean, accessFlags := 26, slot := 1, constantValue := 0 }, { name := "LOG2_ARRAY_BOOLEAN_INDEX_SCALE", type := .int, accessFlags := 25, slot := 2, constantValue := 0 }, { name := "LOG2_ARRAY_BYTE_INDEX_SCALE", type := .int, accessFlags := 25, slot := 3, constantValue := 0 }, { name := "LOG2_ARRAY_CHAR_INDEX_SCALE", type := .int, accessFlags := 25, slot := 4, constantValue := 0 }, { name := "LOG2_ARRAY_SHORT_INDEX_SCALE", type := .int, accessFlags := 25, slot := 5, constantValue := 0 }, { name := "LOG2_ARRAY_INT_INDEX_SCALE", type := .int, accessFlags := 25, slot := 6, constantValue := 0 }, { name := "LOG2_ARRAY_LONG_INDEX_SCALE", type := .int, accessFlags := 25, slot := 7, constantValue := 0 }, { name := "LOG2_ARRAY_FLOAT_INDEX_SCALE", type := .int, accessFlags := 25, slot := 8, constantValue := 0 }, { name := "LOG2_ARRAY_DOUBLE_INDEX_SCALE", type := .int, accessFlags := 25, slot := 9, constantValue := 0 }, { name := "LOG2_BYTE_BIT_SIZE", type := .int, accessFlags := 26, slot := 10, constantValue := 0 }, { name := "T_BOOLEAN", type := .int, accessFlags := 25, slot := 11, constantValue := 0 }, { name := "T_CHAR", type := .int, accessFlags := 25, slot := 12, constantValue := 0 }, { name := "T_FLOAT", type := .int, accessFlags := 25, slot := 13, constantValue := 0 }, { name := "T_DOUBLE", type := .int, accessFlags := 25, slot := 14, constantValue := 0 }, { name := "T_BYTE", type := .int, accessFlags := 25, slot := 15, constantValue := 0 }, { name := "T_SHORT", type := .int, accessFlags := 25, slot := 16, constantValue := 0 }, { name := "T_INT", type := .int, accessFlags := 25, slot := 17, constantValue := 0 }, { name := "T_LONG", type := .int, accessFlags := 25, slot := 18, constantValue := 0 }, { name := "JLA", type := (.object "jdk/internal/access/JavaLangAccess"), accessFlags := 26, slot := 19, constantValue := 0 }, { name := "SOFT_MAX_ARRAY_LENGTH", type := .int, accessFlags := 25, slot := 20, constantValue := 0 }]
  methods := #[k19m0]
  instanceTypes := #[]
  staticTypes := #[(.object "jdk/internal/misc/Unsafe"), .boolean, .int, .int, .int, .int, .int, .int, .int, .int, .int, .int, .int, .int, .int, .int, .int, .int, .int, (.object "jdk/internal/access/JavaLangAccess"), .int]
  resolved := Array.replicate 378 none
  statics := none }

def pool20 : Array CpInfo := pool [(1, u "java/lang/Cloneable"), (0, .class_ 1), (0, u "java/lang/Object"), (0, .class_ 3)] 3

/-- java/lang/Cloneable -/
def k20 : Class := { plain "java/lang/Cloneable" (some 0) with
  accessFlags := 1537
  interfaces := #[]
  cf := some (fileOf pool20 2 #[] #[] 1537 4 #[] #[])
  fields := #[]
  methods := #[]
  instanceTypes := #[]
  staticTypes := #[]
  resolved := Array.replicate 8 none
  statics := none }

/-- the primitive byte -/
def k21 : Class := { plain "byte" none with kind := .primitive 'B', accessFlags := 0x411 }
/-- [B -/
def k22 : Class := { plain "[B" (some 0) with kind := .array 21 .byte, interfaces := #[20, 2], accessFlags := 1041 }

/-- the primitive char -/
def k23 : Class := { plain "char" none with kind := .primitive 'C', accessFlags := 0x411 }
/-- [C -/
def k24 : Class := { plain "[C" (some 0) with kind := .array 23 .char, interfaces := #[20, 2], accessFlags := 1041 }

/-- the primitive int -/
def k25 : Class := { plain "int" none with kind := .primitive 'I', accessFlags := 0x411 }
/-- [I -/
def k26 : Class := { plain "[I" (some 0) with kind := .array 25 .int, interfaces := #[20, 2], accessFlags := 1041 }

def heap : Heap := #[{ cls := 7, slots := #[.long 0, .int 1, .null, .int 0, .null, .int 0, .int 0], vm := .statics 7 },
  { cls := 8, slots := #[.int 0, .int 8, .int 0, .int 1], vm := .statics 8 },
  { cls := 18, slots := #[.null, .null, .null], vm := .statics 18 }]
def classes : Array Class := #[k0, k1, k2, k3, k4, k5, k6, k7, k8, k9, k10, k11, k12, k13, k14, k15, k16, k17, k18, k19, k20, k21, k22, k23, k24, k25, k26]
def interned : List (Array UInt16 × Addr) := []
def slotsUsed : Nat := 14
def theMethod : MethodId := ⟨1, 2⟩
def args0 : Array Value := #[.int 5, .int 5, .int 5]
def aboutOver (below : List Frame) : State where
  vm := { classes := classes, interned := interned.toArray }
  heap := heap
  slotsUsed := slotsUsed
  threads := #[{ frames := .invoking theMethod args0 :: below }]
def below0 : List Frame := [.native { method := ⟨0, 0⟩, args := #[] }]
def about1 : State := aboutOver below0
def p0 : Program := .bare "" "" ""
def e0 : Env := launch0.env 0 0 0
theorem w_frames : about1.frames = Frame.invoking theMethod args0 :: below0 := rfl
set_option maxRecDepth 65536 in
theorem w_args : argsFit about1.vm theMethod args0 = true := by decide +kernel
set_option maxRecDepth 65536 in
theorem w_heap : heapFits about1 = true := by decide +kernel
set_option maxRecDepth 65536 in
theorem w_runnable : about1.curStatus? = some .runnable := by decide +kernel
set_option maxRecDepth 65536 in
theorem w_alone : about1.alone = true := by decide +kernel
set_option maxRecDepth 65536 in
theorem w_named : about1.methodNamed? x = some theMethod := by decide +kernel
set_option maxRecDepth 65536 in
theorem w_hears : about1.hears theMethod below0 = true := by decide +kernel
set_option maxRecDepth 65536 in
theorem w_ripe : about1.ripe theMethod args0 below0 = true := by decide +kernel
theorem w_running : about1.status = .running := rfl
set_option maxRecDepth 65536 in
theorem w_room : about1.hasRoom e0.platform room_1 = true :=
  launch0.hasRoom_least _ room_1 (by decide +kernel) (by decide +kernel) (by decide +kernel) (by decide +kernel) (by decide +kernel) (by decide +kernel)
theorem allAtoms_all (ts : List Jvm.Cond) (a : Array Jvm.Value) (st : Jvm.State) : (allAtoms ts).before a st = ts.all (fun c => c.before a st) := by
  induction ts with
  | nil => rfl
  | cons c t ih =>
    show (Jvm.Cond.and c (allAtoms t)).before a st = _
    rw [Jvm.Cond.before_and, ih, List.all_cons]
def words1 : List Jvm.Cond := Jvm.Cond.code x code maxLocals ret :: tables_1
/-- a 'code' word, met by the world's own term for the bytes: nothing is compared byte by byte -/
theorem code_word {y : MethodName} {bytes : ByteArray} {mx : Nat} {rt : Option FieldType} {a : Array Value} {s : State} {m : MethodId} {meth : Method} {c : Code} (h1 : s.methodNamed? y = some m) (h2 : s.vm.method? m = some meth) (h3 : meth.code = some c) (h4 : c.code = bytes)
    (h5 : (c.maxLocals == mx && c.exceptionTable.isEmpty && decide (c.maxStack ≤ mostOperands) && decide (meth.sig.returnType = rt) && !meth.locks && decide (parseMethodDescriptor y.desc = some meth.sig)) = true) : (Jvm.Cond.code y bytes mx rt).before a s = true := by
  simp only [Bool.and_eq_true, beq_iff_eq, Bool.not_eq_true', decide_eq_true_eq] at h5
  obtain ⟨⟨⟨⟨⟨g1, g2⟩, g3⟩, g4⟩, g5⟩, g6⟩ := h5
  simp [Cond.before, Cond.holds, Cond.value, h1, h2, h3, h4, g1, g2, g3, g4, g5, g6]
def isCode : Jvm.Cond → Bool
  | .code _ _ _ _ => true
  | _ => false
theorem all_split {L : List Jvm.Cond} {P : Jvm.Cond → Bool} (h1 : L.all (fun c => isCode c || P c) = true) (h2 : ∀ c ∈ L.filter isCode, P c = true) : L.all P = true := by
  refine List.all_eq_true.mpr fun c hc => ?_
  have h := List.all_eq_true.mp h1 c hc
  rcases Bool.eq_false_or_eq_true (isCode c) with hi | hi
  · exact h2 c (List.mem_filter.mpr ⟨hc, hi⟩)
  · simpa [hi] using h
set_option maxRecDepth 65536 in
theorem w_c0 : (Jvm.Cond.code x code maxLocals ret).before args0 about1 = true := code_word (m := ⟨1, 2⟩) (meth := k1m2) (c := k1c2) (by decide +kernel) rfl rfl rfl (by decide +kernel)
set_option maxRecDepth 65536 in
theorem w_c1 : (Jvm.Cond.code ({ cls := "com/example/chronoforge/chronoforge/design/PrecedenceToStringPinLaw", name := "mk", desc := "(ICC)Ljava/lang/String;" } : Jvm.MethodName) method_2_code (3 : Nat) (Option.some (Jvm.ClassFile.FieldType.object "java/lang/String"))).before args0 about1 = true := code_word (m := ⟨1, 1⟩) (meth := k1m1) (c := k1c1) (by decide +kernel) rfl rfl rfl (by decide +kernel)
set_option maxRecDepth 65536 in
theorem w_c2 : (Jvm.Cond.code ({ cls := "java/lang/String", name := "<init>", desc := "([C)V" } : Jvm.MethodName) jdk_42_method_3_code (2 : Nat) (Option.none : Option Jvm.ClassFile.FieldType)).before args0 about1 = true := code_word (m := ⟨7, 1⟩) (meth := k7m1) (c := k7c1) (by decide +kernel) rfl rfl rfl (by decide +kernel)
set_option maxRecDepth 65536 in
theorem w_c3 : (Jvm.Cond.code ({ cls := "java/lang/String", name := "<init>", desc := "([CIILjava/lang/Void;)V" } : Jvm.MethodName) jdk_42_method_149_code (6 : Nat) (Option.none : Option Jvm.ClassFile.FieldType)).before args0 about1 = true := code_word (m := ⟨7, 6⟩) (meth := k7m6) (c := k7c6) (by decide +kernel) rfl rfl rfl (by decide +kernel)
set_option maxRecDepth 65536 in
theorem w_c4 : (Jvm.Cond.code ({ cls := "java/lang/Object", name := "<init>", desc := "()V" } : Jvm.MethodName) object_method_1_code (1 : Nat) (Option.none : Option Jvm.ClassFile.FieldType)).before args0 about1 = true := code_word (m := ⟨0, 0⟩) (meth := k0m0) (c := k0c0) (by decide +kernel) rfl rfl rfl (by decide +kernel)
set_option maxRecDepth 65536 in
theorem w_c5 : (Jvm.Cond.code ({ cls := "java/lang/StringUTF16", name := "compress", desc := "([CII)[B" } : Jvm.MethodName) jdk_52_method_16_code (6 : Nat) (Option.some (Jvm.ClassFile.FieldType.array Jvm.ClassFile.FieldType.byte))).before args0 about1 = true := code_word (m := ⟨8, 8⟩) (meth := k8m8) (c := k8c8) (by decide +kernel) rfl rfl rfl (by decide +kernel)
set_option maxRecDepth 65536 in
theorem w_c6 : (Jvm.Cond.code ({ cls := "java/lang/StringUTF16", name := "compress", desc := "([CI[BII)I" } : Jvm.MethodName) jdk_52_method_21_code (7 : Nat) (Option.some Jvm.ClassFile.FieldType.int)).before args0 about1 = true := code_word (m := ⟨8, 9⟩) (meth := k8m9) (c := k8c9) (by decide +kernel) rfl rfl rfl (by decide +kernel)
set_option maxRecDepth 65536 in
theorem w_c7 : (Jvm.Cond.code ({ cls := "java/lang/StringUTF16", name := "coderFromArrayLen", desc := "([BI)B" } : Jvm.MethodName) jdk_52_method_15_code (2 : Nat) (Option.some Jvm.ClassFile.FieldType.byte)).before args0 about1 = true := code_word (m := ⟨8, 7⟩) (meth := k8m7) (c := k8c7) (by decide +kernel) rfl rfl rfl (by decide +kernel)
set_option maxRecDepth 65536 in
theorem w_c8 : (Jvm.Cond.code ({ cls := "com/example/chronoforge/chronoforge/design/Precedence", name := "<init>", desc := "(Ljava/lang/String;Ljava/lang/String;)V" } : Jvm.MethodName) prog_40_method_1_code (3 : Nat) (Option.none : Option Jvm.ClassFile.FieldType)).before args0 about1 = true := code_word (m := ⟨10, 0⟩) (meth := k10m0) (c := k10c0) (by decide +kernel) rfl rfl rfl (by decide +kernel)
set_option maxRecDepth 65536 in
theorem w_c9 : (Jvm.Cond.code ({ cls := "java/lang/Record", name := "<init>", desc := "()V" } : Jvm.MethodName) jdk_30_method_1_code (1 : Nat) (Option.none : Option Jvm.ClassFile.FieldType)).before args0 about1 = true := code_word (m := ⟨9, 0⟩) (meth := k9m0) (c := k9c0) (by decide +kernel) rfl rfl rfl (by decide +kernel)
set_option maxRecDepth 65536 in
theorem w_c10 : (Jvm.Cond.code ({ cls := "com/example/chronoforge/chronoforge/design/Precedence", name := "toString", desc := "()Ljava/lang/String;" } : Jvm.MethodName) prog_40_method_2_code (1 : Nat) (Option.some (Jvm.ClassFile.FieldType.object "java/lang/String"))).before args0 about1 = true := code_word (m := ⟨10, 1⟩) (meth := k10m1) (c := k10c1) (by decide +kernel) rfl rfl rfl (by decide +kernel)
set_option maxRecDepth 65536 in
theorem w_c11 : (Jvm.Cond.code ({ cls := "java/lang/StringBuilder", name := "<init>", desc := "()V" } : Jvm.MethodName) jdk_67_method_1_code (1 : Nat) (Option.none : Option Jvm.ClassFile.FieldType)).before args0 about1 = true := code_word (m := ⟨13, 0⟩) (meth := k13m0) (c := k13c0) (by decide +kernel) rfl rfl rfl (by decide +kernel)
set_option maxRecDepth 65536 in
theorem w_c12 : (Jvm.Cond.code ({ cls := "java/lang/AbstractStringBuilder", name := "<init>", desc := "(I)V" } : Jvm.MethodName) jdk_68_method_2_code (2 : Nat) (Option.none : Option Jvm.ClassFile.FieldType)).before args0 about1 = true := code_word (m := ⟨12, 1⟩) (meth := k12m1) (c := k12c1) (by decide +kernel) rfl rfl rfl (by decide +kernel)
set_option maxRecDepth 65536 in
theorem w_c13 : (Jvm.Cond.code ({ cls := "java/lang/StringBuilder", name := "append", desc := "(Ljava/lang/String;)Ljava/lang/StringBuilder;" } : Jvm.MethodName) jdk_67_method_7_code (2 : Nat) (Option.some (Jvm.ClassFile.FieldType.object "java/lang/StringBuilder"))).before args0 about1 = true := code_word (m := ⟨13, 1⟩) (meth := k13m1) (c := k13c1) (by decide +kernel) rfl rfl rfl (by decide +kernel)
set_option maxRecDepth 65536 in
theorem w_c14 : (Jvm.Cond.code ({ cls := "java/lang/AbstractStringBuilder", name := "append", desc := "(Ljava/lang/String;)Ljava/lang/AbstractStringBuilder;" } : Jvm.MethodName) jdk_68_method_22_code (3 : Nat) (Option.some (Jvm.ClassFile.FieldType.object "java/lang/AbstractStringBuilder"))).before args0 about1 = true := code_word (m := ⟨12, 5⟩) (meth := k12m5) (c := k12c5) (by decide +kernel) rfl rfl rfl (by decide +kernel)
set_option maxRecDepth 65536 in
theorem w_c15 : (Jvm.Cond.code ({ cls := "java/lang/String", name := "length", desc := "()I" } : Jvm.MethodName) jdk_42_method_54_code (1 : Nat) (Option.some Jvm.ClassFile.FieldType.int)).before args0 about1 = true := code_word (m := ⟨7, 3⟩) (meth := k7m3) (c := k7c3) (by decide +kernel) rfl rfl rfl (by decide +kernel)
set_option maxRecDepth 65536 in
theorem w_c16 : (Jvm.Cond.code ({ cls := "java/lang/String", name := "coder", desc := "()B" } : Jvm.MethodName) jdk_42_method_152_code (1 : Nat) (Option.some Jvm.ClassFile.FieldType.byte)).before args0 about1 = true := code_word (m := ⟨7, 8⟩) (meth := k7m8) (c := k7c8) (by decide +kernel) rfl rfl rfl (by decide +kernel)
set_option maxRecDepth 65536 in
theorem w_c17 : (Jvm.Cond.code ({ cls := "java/lang/AbstractStringBuilder", name := "ensureCapacityInternal", desc := "(I)V" } : Jvm.MethodName) jdk_68_method_9_code (3 : Nat) (Option.none : Option Jvm.ClassFile.FieldType)).before args0 about1 = true := code_word (m := ⟨12, 3⟩) (meth := k12m3) (c := k12c3) (by decide +kernel) rfl rfl rfl (by decide +kernel)
set_option maxRecDepth 65536 in
theorem w_c18 : (Jvm.Cond.code ({ cls := "java/lang/AbstractStringBuilder", name := "putStringAt", desc := "(ILjava/lang/String;)V" } : Jvm.MethodName) jdk_68_method_73_code (3 : Nat) (Option.none : Option Jvm.ClassFile.FieldType)).before args0 about1 = true := code_word (m := ⟨12, 9⟩) (meth := k12m9) (c := k12c9) (by decide +kernel) rfl rfl rfl (by decide +kernel)
set_option maxRecDepth 65536 in
theorem w_c19 : (Jvm.Cond.code ({ cls := "java/lang/AbstractStringBuilder", name := "inflateIfNeededFor", desc := "(Ljava/lang/String;)V" } : Jvm.MethodName) jdk_68_method_71_code (2 : Nat) (Option.none : Option Jvm.ClassFile.FieldType)).before args0 about1 = true := code_word (m := ⟨12, 8⟩) (meth := k12m8) (c := k12c8) (by decide +kernel) rfl rfl rfl (by decide +kernel)
set_option maxRecDepth 65536 in
theorem w_c20 : (Jvm.Cond.code ({ cls := "java/lang/String", name := "getBytes", desc := "([BIB)V" } : Jvm.MethodName) jdk_42_method_147_code (4 : Nat) (Option.none : Option Jvm.ClassFile.FieldType)).before args0 about1 = true := code_word (m := ⟨7, 5⟩) (meth := k7m5) (c := k7c5) (by decide +kernel) rfl rfl rfl (by decide +kernel)
set_option maxRecDepth 65536 in
theorem w_c21 : (Jvm.Cond.code ({ cls := "java/lang/StringBuilder", name := "toString", desc := "()Ljava/lang/String;" } : Jvm.MethodName) jdk_67_method_42_code (1 : Nat) (Option.some (Jvm.ClassFile.FieldType.object "java/lang/String"))).before args0 about1 = true := code_word (m := ⟨13, 2⟩) (meth := k13m2) (c := k13c2) (by decide +kernel) rfl rfl rfl (by decide +kernel)
set_option maxRecDepth 65536 in
theorem w_c22 : (Jvm.Cond.code ({ cls := "java/lang/String", name := "<init>", desc := "(Ljava/lang/StringBuilder;)V" } : Jvm.MethodName) jdk_42_method_53_code (2 : Nat) (Option.none : Option Jvm.ClassFile.FieldType)).before args0 about1 = true := code_word (m := ⟨7, 2⟩) (meth := k7m2) (c := k7c2) (by decide +kernel) rfl rfl rfl (by decide +kernel)
set_option maxRecDepth 65536 in
theorem w_c23 : (Jvm.Cond.code ({ cls := "java/lang/String", name := "<init>", desc := "(Ljava/lang/AbstractStringBuilder;Ljava/lang/Void;)V" } : Jvm.MethodName) jdk_42_method_150_code (5 : Nat) (Option.none : Option Jvm.ClassFile.FieldType)).before args0 about1 = true := code_word (m := ⟨7, 7⟩) (meth := k7m7) (c := k7c7) (by decide +kernel) rfl rfl rfl (by decide +kernel)
set_option maxRecDepth 65536 in
theorem w_c24 : (Jvm.Cond.code ({ cls := "java/lang/AbstractStringBuilder", name := "getValue", desc := "()[B" } : Jvm.MethodName) jdk_68_method_64_code (1 : Nat) (Option.some (Jvm.ClassFile.FieldType.array Jvm.ClassFile.FieldType.byte))).before args0 about1 = true := code_word (m := ⟨12, 6⟩) (meth := k12m6) (c := k12c6) (by decide +kernel) rfl rfl rfl (by decide +kernel)
set_option maxRecDepth 65536 in
theorem w_c25 : (Jvm.Cond.code ({ cls := "java/lang/StringBuilder", name := "length", desc := "()I" } : Jvm.MethodName) jdk_67_method_93_code (1 : Nat) (Option.some Jvm.ClassFile.FieldType.int)).before args0 about1 = true := code_word (m := ⟨13, 3⟩) (meth := k13m3) (c := k13c3) (by decide +kernel) rfl rfl rfl (by decide +kernel)
set_option maxRecDepth 65536 in
theorem w_c26 : (Jvm.Cond.code ({ cls := "java/lang/AbstractStringBuilder", name := "length", desc := "()I" } : Jvm.MethodName) jdk_68_method_6_code (1 : Nat) (Option.some Jvm.ClassFile.FieldType.int)).before args0 about1 = true := code_word (m := ⟨12, 2⟩) (meth := k12m2) (c := k12c2) (by decide +kernel) rfl rfl rfl (by decide +kernel)
set_option maxRecDepth 65536 in
theorem w_c27 : (Jvm.Cond.code ({ cls := "java/lang/AbstractStringBuilder", name := "isLatin1", desc := "()Z" } : Jvm.MethodName) jdk_68_method_68_code (1 : Nat) (Option.some Jvm.ClassFile.FieldType.boolean)).before args0 about1 = true := code_word (m := ⟨12, 7⟩) (meth := k12m7) (c := k12c7) (by decide +kernel) rfl rfl rfl (by decide +kernel)
set_option maxRecDepth 65536 in
theorem w_c28 : (Jvm.Cond.code ({ cls := "java/util/Arrays", name := "copyOfRange", desc := "([BII)[B" } : Jvm.MethodName) jdk_65_method_132_code (3 : Nat) (Option.some (Jvm.ClassFile.FieldType.array Jvm.ClassFile.FieldType.byte))).before args0 about1 = true := code_word (m := ⟨15, 2⟩) (meth := k15m2) (c := k15c2) (by decide +kernel) rfl rfl rfl (by decide +kernel)
set_option maxRecDepth 65536 in
theorem w_c29 : (Jvm.Cond.code ({ cls := "java/util/Arrays", name := "copyOfRangeByte", desc := "([BII)[B" } : Jvm.MethodName) jdk_65_method_133_code (5 : Nat) (Option.some (Jvm.ClassFile.FieldType.array Jvm.ClassFile.FieldType.byte))).before args0 about1 = true := code_word (m := ⟨15, 3⟩) (meth := k15m3) (c := k15c3) (by decide +kernel) rfl rfl rfl (by decide +kernel)
set_option maxRecDepth 65536 in
theorem w_c30 : (Jvm.Cond.code ({ cls := "java/util/Arrays", name := "checkLength", desc := "(II)V" } : Jvm.MethodName) jdk_65_method_131_code (2 : Nat) (Option.none : Option Jvm.ClassFile.FieldType)).before args0 about1 = true := code_word (m := ⟨15, 1⟩) (meth := k15m1) (c := k15c1) (by decide +kernel) rfl rfl rfl (by decide +kernel)
set_option maxRecDepth 65536 in
theorem w_c31 : (Jvm.Cond.code ({ cls := "java/lang/Math", name := "min", desc := "(II)I" } : Jvm.MethodName) jdk_29_method_69_code (2 : Nat) (Option.some Jvm.ClassFile.FieldType.int)).before args0 about1 = true := code_word (m := ⟨16, 1⟩) (meth := k16m1) (c := k16c1) (by decide +kernel) rfl rfl rfl (by decide +kernel)
set_option maxRecDepth 65536 in
theorem w_c32 : (Jvm.Cond.code ({ cls := "java/lang/String", name := "charAt", desc := "(I)C" } : Jvm.MethodName) jdk_42_method_56_code (2 : Nat) (Option.some Jvm.ClassFile.FieldType.char)).before args0 about1 = true := code_word (m := ⟨7, 4⟩) (meth := k7m4) (c := k7c4) (by decide +kernel) rfl rfl rfl (by decide +kernel)
set_option maxRecDepth 65536 in
theorem w_c33 : (Jvm.Cond.code ({ cls := "java/lang/String", name := "isLatin1", desc := "()Z" } : Jvm.MethodName) jdk_42_method_154_code (1 : Nat) (Option.some Jvm.ClassFile.FieldType.boolean)).before args0 about1 = true := code_word (m := ⟨7, 9⟩) (meth := k7m9) (c := k7c9) (by decide +kernel) rfl rfl rfl (by decide +kernel)
set_option maxRecDepth 65536 in
theorem w_c34 : (Jvm.Cond.code ({ cls := "java/lang/StringLatin1", name := "charAt", desc := "([BI)C" } : Jvm.MethodName) jdk_43_method_2_code (2 : Nat) (Option.some Jvm.ClassFile.FieldType.char)).before args0 about1 = true := code_word (m := ⟨17, 1⟩) (meth := k17m1) (c := k17c1) (by decide +kernel) rfl rfl rfl (by decide +kernel)
set_option maxRecDepth 65536 in
theorem w_c35 : (Jvm.Cond.code ({ cls := "java/lang/String", name := "checkIndex", desc := "(II)V" } : Jvm.MethodName) jdk_42_method_155_code (2 : Nat) (Option.none : Option Jvm.ClassFile.FieldType)).before args0 about1 = true := code_word (m := ⟨7, 10⟩) (meth := k7m10) (c := k7c10) (by decide +kernel) rfl rfl rfl (by decide +kernel)
set_option maxRecDepth 65536 in
theorem w_c36 : (Jvm.Cond.code ({ cls := "jdk/internal/util/Preconditions", name := "checkIndex", desc := "(IILjava/util/function/BiFunction;)I" } : Jvm.MethodName) jdk_41_method_11_code (3 : Nat) (Option.some Jvm.ClassFile.FieldType.int)).before args0 about1 = true := code_word (m := ⟨18, 1⟩) (meth := k18m1) (c := k18c1) (by decide +kernel) rfl rfl rfl (by decide +kernel)
set_option maxRecDepth 65536 in
theorem w_c37 : (Jvm.Cond.code ({ cls := "java/lang/StringUTF16", name := "toBytes", desc := "([CII)[B" } : Jvm.MethodName) jdk_52_method_14_code (5 : Nat) (Option.some (Jvm.ClassFile.FieldType.array Jvm.ClassFile.FieldType.byte))).before args0 about1 = true := code_word (m := ⟨8, 6⟩) (meth := k8m6) (c := k8c6) (by decide +kernel) rfl rfl rfl (by decide +kernel)
set_option maxRecDepth 65536 in
theorem w_c38 : (Jvm.Cond.code ({ cls := "java/lang/StringUTF16", name := "newBytesFor", desc := "(I)[B" } : Jvm.MethodName) jdk_52_method_2_code (1 : Nat) (Option.some (Jvm.ClassFile.FieldType.array Jvm.ClassFile.FieldType.byte))).before args0 about1 = true := code_word (m := ⟨8, 1⟩) (meth := k8m1) (c := k8c1) (by decide +kernel) rfl rfl rfl (by decide +kernel)
set_option maxRecDepth 65536 in
theorem w_c39 : (Jvm.Cond.code ({ cls := "java/lang/StringUTF16", name := "newBytesLength", desc := "(I)I" } : Jvm.MethodName) jdk_52_method_3_code (1 : Nat) (Option.some Jvm.ClassFile.FieldType.int)).before args0 about1 = true := code_word (m := ⟨8, 2⟩) (meth := k8m2) (c := k8c2) (by decide +kernel) rfl rfl rfl (by decide +kernel)
set_option maxRecDepth 65536 in
theorem w_c40 : (Jvm.Cond.code ({ cls := "java/lang/StringUTF16", name := "putChar", desc := "([BII)V" } : Jvm.MethodName) jdk_52_method_4_code (3 : Nat) (Option.none : Option Jvm.ClassFile.FieldType)).before args0 about1 = true := code_word (m := ⟨8, 3⟩) (meth := k8m3) (c := k8c3) (by decide +kernel) rfl rfl rfl (by decide +kernel)
set_option maxRecDepth 65536 in
theorem w_c41 : (Jvm.Cond.code ({ cls := "java/lang/StringUTF16", name := "getChar", desc := "([BI)C" } : Jvm.MethodName) jdk_52_method_5_code (2 : Nat) (Option.some Jvm.ClassFile.FieldType.char)).before args0 about1 = true := code_word (m := ⟨8, 4⟩) (meth := k8m4) (c := k8c4) (by decide +kernel) rfl rfl rfl (by decide +kernel)
set_option maxRecDepth 65536 in
theorem w_c42 : (Jvm.Cond.code ({ cls := "java/lang/AbstractStringBuilder", name := "inflate", desc := "()V" } : Jvm.MethodName) jdk_68_method_11_code (2 : Nat) (Option.none : Option Jvm.ClassFile.FieldType)).before args0 about1 = true := code_word (m := ⟨12, 4⟩) (meth := k12m4) (c := k12c4) (by decide +kernel) rfl rfl rfl (by decide +kernel)
set_option maxRecDepth 65536 in
theorem w_c43 : (Jvm.Cond.code ({ cls := "java/lang/StringLatin1", name := "inflate", desc := "([BI[BII)V" } : Jvm.MethodName) jdk_43_method_50_code (5 : Nat) (Option.none : Option Jvm.ClassFile.FieldType)).before args0 about1 = true := code_word (m := ⟨17, 2⟩) (meth := k17m2) (c := k17c2) (by decide +kernel) rfl rfl rfl (by decide +kernel)
set_option maxRecDepth 65536 in
theorem w_c44 : (Jvm.Cond.code ({ cls := "java/lang/StringUTF16", name := "inflate", desc := "([BI[BII)V" } : Jvm.MethodName) jdk_52_method_86_code (6 : Nat) (Option.none : Option Jvm.ClassFile.FieldType)).before args0 about1 = true := code_word (m := ⟨8, 11⟩) (meth := k8m11) (c := k8c11) (by decide +kernel) rfl rfl rfl (by decide +kernel)
set_option maxRecDepth 65536 in
theorem w_c45 : (Jvm.Cond.code ({ cls := "java/lang/StringUTF16", name := "checkBoundsOffCount", desc := "(II[B)V" } : Jvm.MethodName) jdk_52_method_94_code (3 : Nat) (Option.none : Option Jvm.ClassFile.FieldType)).before args0 about1 = true := code_word (m := ⟨8, 13⟩) (meth := k8m13) (c := k8c13) (by decide +kernel) rfl rfl rfl (by decide +kernel)
set_option maxRecDepth 65536 in
theorem w_c46 : (Jvm.Cond.code ({ cls := "java/lang/StringUTF16", name := "length", desc := "([B)I" } : Jvm.MethodName) jdk_52_method_6_code (1 : Nat) (Option.some Jvm.ClassFile.FieldType.int)).before args0 about1 = true := code_word (m := ⟨8, 5⟩) (meth := k8m5) (c := k8c5) (by decide +kernel) rfl rfl rfl (by decide +kernel)
set_option maxRecDepth 65536 in
theorem w_c47 : (Jvm.Cond.code ({ cls := "java/lang/String", name := "checkBoundsOffCount", desc := "(III)I" } : Jvm.MethodName) jdk_42_method_157_code (3 : Nat) (Option.some Jvm.ClassFile.FieldType.int)).before args0 about1 = true := code_word (m := ⟨7, 11⟩) (meth := k7m11) (c := k7c11) (by decide +kernel) rfl rfl rfl (by decide +kernel)
set_option maxRecDepth 65536 in
theorem w_c48 : (Jvm.Cond.code ({ cls := "jdk/internal/util/Preconditions", name := "checkFromIndexSize", desc := "(IIILjava/util/function/BiFunction;)I" } : Jvm.MethodName) jdk_41_method_13_code (4 : Nat) (Option.some Jvm.ClassFile.FieldType.int)).before args0 about1 = true := code_word (m := ⟨18, 2⟩) (meth := k18m2) (c := k18c2) (by decide +kernel) rfl rfl rfl (by decide +kernel)
set_option maxRecDepth 65536 in
theorem w_c49 : (Jvm.Cond.code ({ cls := "java/lang/StringUTF16", name := "charAt", desc := "([BI)C" } : Jvm.MethodName) jdk_52_method_83_code (2 : Nat) (Option.some Jvm.ClassFile.FieldType.char)).before args0 about1 = true := code_word (m := ⟨8, 10⟩) (meth := k8m10) (c := k8c10) (by decide +kernel) rfl rfl rfl (by decide +kernel)
set_option maxRecDepth 65536 in
theorem w_c50 : (Jvm.Cond.code ({ cls := "java/lang/StringUTF16", name := "checkIndex", desc := "(I[B)V" } : Jvm.MethodName) jdk_52_method_91_code (2 : Nat) (Option.none : Option Jvm.ClassFile.FieldType)).before args0 about1 = true := code_word (m := ⟨8, 12⟩) (meth := k8m12) (c := k8c12) (by decide +kernel) rfl rfl rfl (by decide +kernel)
def codes1 : List Jvm.Cond := [Jvm.Cond.code x code maxLocals ret, Jvm.Cond.code ({ cls := "com/example/chronoforge/chronoforge/design/PrecedenceToStringPinLaw", name := "mk", desc := "(ICC)Ljava/lang/String;" } : Jvm.MethodName) method_2_code (3 : Nat) (Option.some (Jvm.ClassFile.FieldType.object "java/lang/String")), Jvm.Cond.code ({ cls := "java/lang/String", name := "<init>", desc := "([C)V" } : Jvm.MethodName) jdk_42_method_3_code (2 : Nat) (Option.none : Option Jvm.ClassFile.FieldType), Jvm.Cond.code ({ cls := "java/lang/String", name := "<init>", desc := "([CIILjava/lang/Void;)V" } : Jvm.MethodName) jdk_42_method_149_code (6 : Nat) (Option.none : Option Jvm.ClassFile.FieldType), Jvm.Cond.code ({ cls := "java/lang/Object", name := "<init>", desc := "()V" } : Jvm.MethodName) object_method_1_code (1 : Nat) (Option.none : Option Jvm.ClassFile.FieldType), Jvm.Cond.code ({ cls := "java/lang/StringUTF16", name := "compress", desc := "([CII)[B" } : Jvm.MethodName) jdk_52_method_16_code (6 : Nat) (Option.some (Jvm.ClassFile.FieldType.array Jvm.ClassFile.FieldType.byte)), Jvm.Cond.code ({ cls := "java/lang/StringUTF16", name := "compress", desc := "([CI[BII)I" } : Jvm.MethodName) jdk_52_method_21_code (7 : Nat) (Option.some Jvm.ClassFile.FieldType.int), Jvm.Cond.code ({ cls := "java/lang/StringUTF16", name := "coderFromArrayLen", desc := "([BI)B" } : Jvm.MethodName) jdk_52_method_15_code (2 : Nat) (Option.some Jvm.ClassFile.FieldType.byte), Jvm.Cond.code ({ cls := "com/example/chronoforge/chronoforge/design/Precedence", name := "<init>", desc := "(Ljava/lang/String;Ljava/lang/String;)V" } : Jvm.MethodName) prog_40_method_1_code (3 : Nat) (Option.none : Option Jvm.ClassFile.FieldType), Jvm.Cond.code ({ cls := "java/lang/Record", name := "<init>", desc := "()V" } : Jvm.MethodName) jdk_30_method_1_code (1 : Nat) (Option.none : Option Jvm.ClassFile.FieldType), Jvm.Cond.code ({ cls := "com/example/chronoforge/chronoforge/design/Precedence", name := "toString", desc := "()Ljava/lang/String;" } : Jvm.MethodName) prog_40_method_2_code (1 : Nat) (Option.some (Jvm.ClassFile.FieldType.object "java/lang/String")), Jvm.Cond.code ({ cls := "java/lang/StringBuilder", name := "<init>", desc := "()V" } : Jvm.MethodName) jdk_67_method_1_code (1 : Nat) (Option.none : Option Jvm.ClassFile.FieldType), Jvm.Cond.code ({ cls := "java/lang/AbstractStringBuilder", name := "<init>", desc := "(I)V" } : Jvm.MethodName) jdk_68_method_2_code (2 : Nat) (Option.none : Option Jvm.ClassFile.FieldType), Jvm.Cond.code ({ cls := "java/lang/StringBuilder", name := "append", desc := "(Ljava/lang/String;)Ljava/lang/StringBuilder;" } : Jvm.MethodName) jdk_67_method_7_code (2 : Nat) (Option.some (Jvm.ClassFile.FieldType.object "java/lang/StringBuilder")), Jvm.Cond.code ({ cls := "java/lang/AbstractStringBuilder", name := "append", desc := "(Ljava/lang/String;)Ljava/lang/AbstractStringBuilder;" } : Jvm.MethodName) jdk_68_method_22_code (3 : Nat) (Option.some (Jvm.ClassFile.FieldType.object "java/lang/AbstractStringBuilder")), Jvm.Cond.code ({ cls := "java/lang/String", name := "length", desc := "()I" } : Jvm.MethodName) jdk_42_method_54_code (1 : Nat) (Option.some Jvm.ClassFile.FieldType.int), Jvm.Cond.code ({ cls := "java/lang/String", name := "coder", desc := "()B" } : Jvm.MethodName) jdk_42_method_152_code (1 : Nat) (Option.some Jvm.ClassFile.FieldType.byte), Jvm.Cond.code ({ cls := "java/lang/AbstractStringBuilder", name := "ensureCapacityInternal", desc := "(I)V" } : Jvm.MethodName) jdk_68_method_9_code (3 : Nat) (Option.none : Option Jvm.ClassFile.FieldType), Jvm.Cond.code ({ cls := "java/lang/AbstractStringBuilder", name := "putStringAt", desc := "(ILjava/lang/String;)V" } : Jvm.MethodName) jdk_68_method_73_code (3 : Nat) (Option.none : Option Jvm.ClassFile.FieldType), Jvm.Cond.code ({ cls := "java/lang/AbstractStringBuilder", name := "inflateIfNeededFor", desc := "(Ljava/lang/String;)V" } : Jvm.MethodName) jdk_68_method_71_code (2 : Nat) (Option.none : Option Jvm.ClassFile.FieldType), Jvm.Cond.code ({ cls := "java/lang/String", name := "getBytes", desc := "([BIB)V" } : Jvm.MethodName) jdk_42_method_147_code (4 : Nat) (Option.none : Option Jvm.ClassFile.FieldType), Jvm.Cond.code ({ cls := "java/lang/StringBuilder", name := "toString", desc := "()Ljava/lang/String;" } : Jvm.MethodName) jdk_67_method_42_code (1 : Nat) (Option.some (Jvm.ClassFile.FieldType.object "java/lang/String")), Jvm.Cond.code ({ cls := "java/lang/String", name := "<init>", desc := "(Ljava/lang/StringBuilder;)V" } : Jvm.MethodName) jdk_42_method_53_code (2 : Nat) (Option.none : Option Jvm.ClassFile.FieldType), Jvm.Cond.code ({ cls := "java/lang/String", name := "<init>", desc := "(Ljava/lang/AbstractStringBuilder;Ljava/lang/Void;)V" } : Jvm.MethodName) jdk_42_method_150_code (5 : Nat) (Option.none : Option Jvm.ClassFile.FieldType), Jvm.Cond.code ({ cls := "java/lang/AbstractStringBuilder", name := "getValue", desc := "()[B" } : Jvm.MethodName) jdk_68_method_64_code (1 : Nat) (Option.some (Jvm.ClassFile.FieldType.array Jvm.ClassFile.FieldType.byte)), Jvm.Cond.code ({ cls := "java/lang/StringBuilder", name := "length", desc := "()I" } : Jvm.MethodName) jdk_67_method_93_code (1 : Nat) (Option.some Jvm.ClassFile.FieldType.int), Jvm.Cond.code ({ cls := "java/lang/AbstractStringBuilder", name := "length", desc := "()I" } : Jvm.MethodName) jdk_68_method_6_code (1 : Nat) (Option.some Jvm.ClassFile.FieldType.int), Jvm.Cond.code ({ cls := "java/lang/AbstractStringBuilder", name := "isLatin1", desc := "()Z" } : Jvm.MethodName) jdk_68_method_68_code (1 : Nat) (Option.some Jvm.ClassFile.FieldType.boolean), Jvm.Cond.code ({ cls := "java/util/Arrays", name := "copyOfRange", desc := "([BII)[B" } : Jvm.MethodName) jdk_65_method_132_code (3 : Nat) (Option.some (Jvm.ClassFile.FieldType.array Jvm.ClassFile.FieldType.byte)), Jvm.Cond.code ({ cls := "java/util/Arrays", name := "copyOfRangeByte", desc := "([BII)[B" } : Jvm.MethodName) jdk_65_method_133_code (5 : Nat) (Option.some (Jvm.ClassFile.FieldType.array Jvm.ClassFile.FieldType.byte)), Jvm.Cond.code ({ cls := "java/util/Arrays", name := "checkLength", desc := "(II)V" } : Jvm.MethodName) jdk_65_method_131_code (2 : Nat) (Option.none : Option Jvm.ClassFile.FieldType), Jvm.Cond.code ({ cls := "java/lang/Math", name := "min", desc := "(II)I" } : Jvm.MethodName) jdk_29_method_69_code (2 : Nat) (Option.some Jvm.ClassFile.FieldType.int), Jvm.Cond.code ({ cls := "java/lang/String", name := "charAt", desc := "(I)C" } : Jvm.MethodName) jdk_42_method_56_code (2 : Nat) (Option.some Jvm.ClassFile.FieldType.char), Jvm.Cond.code ({ cls := "java/lang/String", name := "isLatin1", desc := "()Z" } : Jvm.MethodName) jdk_42_method_154_code (1 : Nat) (Option.some Jvm.ClassFile.FieldType.boolean), Jvm.Cond.code ({ cls := "java/lang/StringLatin1", name := "charAt", desc := "([BI)C" } : Jvm.MethodName) jdk_43_method_2_code (2 : Nat) (Option.some Jvm.ClassFile.FieldType.char), Jvm.Cond.code ({ cls := "java/lang/String", name := "checkIndex", desc := "(II)V" } : Jvm.MethodName) jdk_42_method_155_code (2 : Nat) (Option.none : Option Jvm.ClassFile.FieldType), Jvm.Cond.code ({ cls := "jdk/internal/util/Preconditions", name := "checkIndex", desc := "(IILjava/util/function/BiFunction;)I" } : Jvm.MethodName) jdk_41_method_11_code (3 : Nat) (Option.some Jvm.ClassFile.FieldType.int), Jvm.Cond.code ({ cls := "java/lang/StringUTF16", name := "toBytes", desc := "([CII)[B" } : Jvm.MethodName) jdk_52_method_14_code (5 : Nat) (Option.some (Jvm.ClassFile.FieldType.array Jvm.ClassFile.FieldType.byte)), Jvm.Cond.code ({ cls := "java/lang/StringUTF16", name := "newBytesFor", desc := "(I)[B" } : Jvm.MethodName) jdk_52_method_2_code (1 : Nat) (Option.some (Jvm.ClassFile.FieldType.array Jvm.ClassFile.FieldType.byte)), Jvm.Cond.code ({ cls := "java/lang/StringUTF16", name := "newBytesLength", desc := "(I)I" } : Jvm.MethodName) jdk_52_method_3_code (1 : Nat) (Option.some Jvm.ClassFile.FieldType.int), Jvm.Cond.code ({ cls := "java/lang/StringUTF16", name := "putChar", desc := "([BII)V" } : Jvm.MethodName) jdk_52_method_4_code (3 : Nat) (Option.none : Option Jvm.ClassFile.FieldType), Jvm.Cond.code ({ cls := "java/lang/StringUTF16", name := "getChar", desc := "([BI)C" } : Jvm.MethodName) jdk_52_method_5_code (2 : Nat) (Option.some Jvm.ClassFile.FieldType.char), Jvm.Cond.code ({ cls := "java/lang/AbstractStringBuilder", name := "inflate", desc := "()V" } : Jvm.MethodName) jdk_68_method_11_code (2 : Nat) (Option.none : Option Jvm.ClassFile.FieldType), Jvm.Cond.code ({ cls := "java/lang/StringLatin1", name := "inflate", desc := "([BI[BII)V" } : Jvm.MethodName) jdk_43_method_50_code (5 : Nat) (Option.none : Option Jvm.ClassFile.FieldType), Jvm.Cond.code ({ cls := "java/lang/StringUTF16", name := "inflate", desc := "([BI[BII)V" } : Jvm.MethodName) jdk_52_method_86_code (6 : Nat) (Option.none : Option Jvm.ClassFile.FieldType), Jvm.Cond.code ({ cls := "java/lang/StringUTF16", name := "checkBoundsOffCount", desc := "(II[B)V" } : Jvm.MethodName) jdk_52_method_94_code (3 : Nat) (Option.none : Option Jvm.ClassFile.FieldType), Jvm.Cond.code ({ cls := "java/lang/StringUTF16", name := "length", desc := "([B)I" } : Jvm.MethodName) jdk_52_method_6_code (1 : Nat) (Option.some Jvm.ClassFile.FieldType.int), Jvm.Cond.code ({ cls := "java/lang/String", name := "checkBoundsOffCount", desc := "(III)I" } : Jvm.MethodName) jdk_42_method_157_code (3 : Nat) (Option.some Jvm.ClassFile.FieldType.int), Jvm.Cond.code ({ cls := "jdk/internal/util/Preconditions", name := "checkFromIndexSize", desc := "(IIILjava/util/function/BiFunction;)I" } : Jvm.MethodName) jdk_41_method_13_code (4 : Nat) (Option.some Jvm.ClassFile.FieldType.int), Jvm.Cond.code ({ cls := "java/lang/StringUTF16", name := "charAt", desc := "([BI)C" } : Jvm.MethodName) jdk_52_method_83_code (2 : Nat) (Option.some Jvm.ClassFile.FieldType.char), Jvm.Cond.code ({ cls := "java/lang/StringUTF16", name := "checkIndex", desc := "(I[B)V" } : Jvm.MethodName) jdk_52_method_91_code (2 : Nat) (Option.none : Option Jvm.ClassFile.FieldType)]
set_option maxRecDepth 65536 in
theorem codes_eq : words1.filter isCode = codes1 := rfl
theorem w_codes : ∀ c ∈ words1.filter isCode, c.before args0 about1 = true := by
  rw [codes_eq]
  intro c hc
  simp only [codes1, List.mem_cons, List.not_mem_nil, or_false] at hc
  rcases hc with rfl | rfl | rfl | rfl | rfl | rfl | rfl | rfl | rfl | rfl | rfl | rfl | rfl | rfl | rfl | rfl | rfl | rfl | rfl | rfl | rfl | rfl | rfl | rfl | rfl | rfl | rfl | rfl | rfl | rfl | rfl | rfl | rfl | rfl | rfl | rfl | rfl | rfl | rfl | rfl | rfl | rfl | rfl | rfl | rfl | rfl | rfl | rfl | rfl | rfl | rfl
  · exact w_c0
  · exact w_c1
  · exact w_c2
  · exact w_c3
  · exact w_c4
  · exact w_c5
  · exact w_c6
  · exact w_c7
  · exact w_c8
  · exact w_c9
  · exact w_c10
  · exact w_c11
  · exact w_c12
  · exact w_c13
  · exact w_c14
  · exact w_c15
  · exact w_c16
  · exact w_c17
  · exact w_c18
  · exact w_c19
  · exact w_c20
  · exact w_c21
  · exact w_c22
  · exact w_c23
  · exact w_c24
  · exact w_c25
  · exact w_c26
  · exact w_c27
  · exact w_c28
  · exact w_c29
  · exact w_c30
  · exact w_c31
  · exact w_c32
  · exact w_c33
  · exact w_c34
  · exact w_c35
  · exact w_c36
  · exact w_c37
  · exact w_c38
  · exact w_c39
  · exact w_c40
  · exact w_c41
  · exact w_c42
  · exact w_c43
  · exact w_c44
  · exact w_c45
  · exact w_c46
  · exact w_c47
  · exact w_c48
  · exact w_c49
  · exact w_c50
set_option maxRecDepth 65536 in
theorem w_t1 : (words1.take 24).all (fun c => isCode c || c.before args0 about1) = true := by decide +kernel
set_option maxRecDepth 65536 in
theorem w_t2 : ((words1.drop 24).take 24).all (fun c => isCode c || c.before args0 about1) = true := by decide +kernel
set_option maxRecDepth 65536 in
theorem w_t3 : (((words1.drop 24).drop 24).take 24).all (fun c => isCode c || c.before args0 about1) = true := by decide +kernel
set_option maxRecDepth 65536 in
theorem w_t4 : ((((words1.drop 24).drop 24).drop 24).take 24).all (fun c => isCode c || c.before args0 about1) = true := by decide +kernel
set_option maxRecDepth 65536 in
theorem w_t5 : (((((words1.drop 24).drop 24).drop 24).drop 24).take 24).all (fun c => isCode c || c.before args0 about1) = true := by decide +kernel
set_option maxRecDepth 65536 in
theorem w_t6 : ((((((words1.drop 24).drop 24).drop 24).drop 24).drop 24).take 24).all (fun c => isCode c || c.before args0 about1) = true := by decide +kernel
set_option maxRecDepth 65536 in
theorem w_t7 : (((((((words1.drop 24).drop 24).drop 24).drop 24).drop 24).drop 24).take 24).all (fun c => isCode c || c.before args0 about1) = true := by decide +kernel
set_option maxRecDepth 65536 in
theorem w_t8 : ((((((((words1.drop 24).drop 24).drop 24).drop 24).drop 24).drop 24).drop 24).take 24).all (fun c => isCode c || c.before args0 about1) = true := by decide +kernel
set_option maxRecDepth 65536 in
theorem w_t9 : (((((((((words1.drop 24).drop 24).drop 24).drop 24).drop 24).drop 24).drop 24).drop 24).take 24).all (fun c => isCode c || c.before args0 about1) = true := by decide +kernel
set_option maxRecDepth 65536 in
theorem w_t10 : ((((((((((words1.drop 24).drop 24).drop 24).drop 24).drop 24).drop 24).drop 24).drop 24).drop 24).take 24).all (fun c => isCode c || c.before args0 about1) = true := by decide +kernel
set_option maxRecDepth 65536 in
theorem w_t11 : ((((((((((words1.drop 24).drop 24).drop 24).drop 24).drop 24).drop 24).drop 24).drop 24).drop 24).drop 24).all (fun c => isCode c || c.before args0 about1) = true := by decide +kernel
theorem w_tables : (allAtoms (Jvm.Cond.code x code maxLocals ret :: tables_1)).before args0 about1 = true := by
  rw [allAtoms_all]
  show words1.all (fun c => c.before args0 about1) = true
  refine all_split ?_ w_codes
  rw [← List.take_append_drop 24 words1, List.all_append, w_t1, ← List.take_append_drop 24 (words1.drop 24), List.all_append, w_t2, ← List.take_append_drop 24 ((words1.drop 24).drop 24), List.all_append, w_t3, ← List.take_append_drop 24 (((words1.drop 24).drop 24).drop 24), List.all_append, w_t4, ← List.take_append_drop 24 ((((words1.drop 24).drop 24).drop 24).drop 24), List.all_append, w_t5, ← List.take_append_drop 24 (((((words1.drop 24).drop 24).drop 24).drop 24).drop 24), List.all_append, w_t6, ← List.take_append_drop 24 ((((((words1.drop 24).drop 24).drop 24).drop 24).drop 24).drop 24), List.all_append, w_t7, ← List.take_append_drop 24 (((((((words1.drop 24).drop 24).drop 24).drop 24).drop 24).drop 24).drop 24), List.all_append, w_t8, ← List.take_append_drop 24 ((((((((words1.drop 24).drop 24).drop 24).drop 24).drop 24).drop 24).drop 24).drop 24), List.all_append, w_t9, ← List.take_append_drop 24 (((((((((words1.drop 24).drop 24).drop 24).drop 24).drop 24).drop 24).drop 24).drop 24).drop 24), List.all_append, w_t10, w_t11]
  rfl
set_option maxRecDepth 65536 in
theorem w_rest : rest_1_c.before args0 about1 = true := by decide +kernel
set_option maxRecDepth 65536 in
theorem w_case : (Jvm.Cond.and given_1 narrow_1).before args0 about1 = true := by decide +kernel
set_option maxRecDepth 65536 in
theorem w_consts : constsHeld consts_1 about1 := Jvm.Lit.constsHeldB_iff.mp (by decide +kernel)
theorem w_applies : (headSpec (Jvm.Cond.code x code maxLocals ret :: tables_1) room_1).applies x e0.platform about1 = true :=
  (Spec.applies_iff w_frames).mpr ⟨w_running, w_runnable, w_alone, w_named, w_hears, w_ripe, w_room, w_tables⟩
theorem atStart : AtStart classFile x code maxLocals ret World_1 tables_1 room_1 Calls_1 rest_1 Pre_1 launch0 p0 e0 about1 theMethod args0 below0 :=
  ⟨lists_1, trivial, launch0.admits_env _ _ _, launch0.least_env, fairChoices_fair.cas, fairChoices_fair.clock, w_frames, w_args, w_heap, w_applies, ⟨w_consts, trivial⟩, w_rest, w_case⟩
end start1
theorem witness_1 : WitnessClaimed_1 := ⟨start1.p0, start1.e0, start1.about1, start1.theMethod, start1.args0, start1.below0, start1.atStart⟩
end Jvm.Pilot.@@N@@
