import JvmDerived
import JvmDerived.Pilot.@@N@@Statement
import JvmDerived.Pilot.@@N@@Code
set_option linter.unusedVariables false
set_option linter.unusedSimpArgs false
/- laws to paste: Road.backT, Road.U3Z.ext, Road.lenW, Road.wide_lo, Road.wide_hi, StrChars.pair_says, StrChars.narrow_ch, StrChars.shl1, StrChars.shr1 (cut by pick.py; bodies as the Statement names them) -/
namespace Jvm.Pilot.@@N@@
namespace StrChars
open Jvm Sem ClassFile Op Lib Jvm.Stand Jvm.Free.XT Jvm.Free.ALB Jvm.Free.JM Jvm.Free
open Jvm.Lib.Cold (StaticIs)
/-- a char array whose places are chars -/
def Ch (a : Addr) (A : Cell) (U : State) : Prop := Arr .char a A U ∧ Typed .char A
theorem Ch.mv {a : Addr} {A : Cell} {U U' : State} (h : Ch a A U) (hal : U.vm.Alike U'.vm) (hh : U'.heap = U.heap) : Ch a A U' := ⟨h.1.mv hal hh, h.2⟩
theorem Ch.keep {a : Addr} {A : Cell} {U U' : State} (h : Ch a A U) (hal : U.vm.Alike U'.vm) (hk : U'.heap[a]? = some A) : Ch a A U' := ⟨h.1.keep hal hk, h.2⟩
/-- what place i of a char[]'s cell holds -/
def cv (A : Cell) (i : Nat) : Int32 := match A.slots[i]? with | some (.int x) => x | _ => 0
theorem Ch.get {a : Addr} {A : Cell} {U : State} (h : Ch a A U) {i : Nat} (hi : i < A.slots.size) : A.slots[i]? = some (.int (cv A i)) := by
  have e := Array.getElem?_eq_getElem hi
  have f := h.2 i _ e
  unfold cv; rw [e]
  generalize A.slots[i] = v at f
  cases v <;> simp [fits] at f ⊢
/-- the byte that i2b leaves of a char -/
def lo8 (x : Int32) : Int32 := x.toInt8.toInt32
theorem fits_lo8 (y : Int32) : fits .byte (.int (lo8 y)) = true := by
  have h1 := y.toInt8.le_toInt
  have h2 := y.toInt8.toInt_lt
  simp only [lo8, fits, Bool.and_eq_true, decide_eq_true_eq, Int32.le_iff_toInt_le, Int8.toInt_toInt32, show (-128 : Int32).toInt = -128 from by decide, show (127 : Int32).toInt = 127 from by decide]
  omega
/-- A' is A but that each place j of lo .. hi - 1 holds f j -/
def Laid (A A' : Cell) (lo hi : Nat) (f : Nat → Value) : Prop := A'.cls = A.cls ∧ A'.vm = A.vm ∧ A'.slots.size = A.slots.size ∧ ∀ i, A'.slots[i]? = if lo ≤ i ∧ i < hi then some (f i) else A.slots[i]?
theorem Laid.zero (A : Cell) (lo : Nat) (f : Nat → Value) : Laid A A lo (lo + 0) f := ⟨rfl, rfl, rfl, fun i => by rw [if_neg (by omega)]⟩
theorem Laid.step {A Ak : Cell} {lo k : Nat} {f : Nat → Value} {v : Value} (h : Laid A Ak lo k f) (hlo : lo ≤ k) (hk : k < Ak.slots.size) (hv : v = f k) : Laid A (Ak.setSlot k v) lo (k + 1) f := by
  refine ⟨h.1, h.2.1, by simpa [Cell.setSlot] using h.2.2.1, fun i => ?_⟩
  by_cases e : k = i
  · subst e; rw [Cell.slots_setSlot_self v hk, if_pos (by omega), hv]
  · rw [Cell.slots_setSlot_ne v e, h.2.2.2 i]
    by_cases q : lo ≤ i ∧ i < k
    · rw [if_pos q, if_pos (by omega)]
    · rw [if_neg q, if_neg (by omega)]
def U16 : String := "java/lang/StringUTF16"
namespace Cmp5
def yN : MethodName := ⟨"java/lang/StringUTF16", "compress", "([CI[BII)I"⟩
abbrev yB : ByteArray := jdk_52_method_21_code
theorem d0 : decode yB 0 = .ok (.iconst 0, 1) := by decide +kernel
theorem d1 : decode yB 1 = .ok (.istore 5, 2) := by decide +kernel
theorem d3 : decode yB 3 = .ok (.iload 5, 2) := by decide +kernel
theorem d5 : decode yB 5 = .ok (.iload 4, 2) := by decide +kernel
theorem d7 : decode yB 7 = .ok (.if_icmp (.ge) 37, 3) := by decide +kernel
theorem d10 : decode yB 10 = .ok (.aload_n 0, 1) := by decide +kernel
theorem d11 : decode yB 11 = .ok (.iload_n 1, 1) := by decide +kernel
theorem d12 : decode yB 12 = .ok (.caload, 1) := by decide +kernel
theorem d13 : decode yB 13 = .ok (.istore 6, 2) := by decide +kernel
theorem d15 : decode yB 15 = .ok (.iload 6, 2) := by decide +kernel
theorem d17 : decode yB 17 = .ok (.sipush 255, 3) := by decide +kernel
theorem d20 : decode yB 20 = .ok (.if_icmp (.le) 6, 3) := by decide +kernel
theorem d26 : decode yB 26 = .ok (.aload_n 2, 1) := by decide +kernel
theorem d27 : decode yB 27 = .ok (.iload_n 3, 1) := by decide +kernel
theorem d28 : decode yB 28 = .ok (.iload 6, 2) := by decide +kernel
theorem d30 : decode yB 30 = .ok (.i2b, 1) := by decide +kernel
theorem d31 : decode yB 31 = .ok (.bastore, 1) := by decide +kernel
theorem d32 : decode yB 32 = .ok (.iinc 1 1, 3) := by decide +kernel
theorem d35 : decode yB 35 = .ok (.iinc 3 1, 3) := by decide +kernel
theorem d38 : decode yB 38 = .ok (.iinc 5 1, 3) := by decide +kernel
theorem d41 : decode yB 41 = .ok (.goto (-38), 3) := by decide +kernel
theorem d44 : decode yB 44 = .ok (.iload 4, 2) := by decide +kernel
theorem d46 : decode yB 46 = .ok (.ireturn, 1) := by decide +kernel
def site : List Cond := []
def tab : Cond := tabOf yN yB 7 (some .int) site
def P (b : Addr) (A : Cell) (d : Addr) (B : Cell) (o q len : Nat) (args : Array Value) (s : State) : Prop := args = #[.ref b, .int (Int32.ofNat o), .ref d, .int (Int32.ofNat q), .int (Int32.ofNat len)] ∧ Ch b A s ∧ Arr .byte d B s ∧ b ≠ d ∧ o + len ≤ A.slots.size ∧ q + len ≤ B.slots.size ∧ ∀ i, i < len → ¬ 255 < cv A (o + i)
def E (b : Addr) (A : Cell) (d : Addr) (B : Cell) (o q len : Nat) (r : Option Value) (s u : State) : Prop := r = some (.int (Int32.ofNat len)) ∧ ∃ B', Put d B' s u ∧ Laid B B' q (q + len) (fun j => Value.int (lo8 (cv A (o + (j - q)))))
/-- no char of the range above 255: len; the places written hold each char's low byte -/
theorem law (l : Launch) (b : Addr) (A : Cell) (d : Addr) (B : Cell) (o q len : Nat) : Law l yN 5 5 0 0 yB 7 (some .int) site (P b A d B o q len) (E b A d B o q len) (copyLocs d q len) 0 0 := by
  refine Law.of_walk (plainFor_of_name (by decide +kernel)) (by decide +kernel) (by decide +kernel) (by decide) (fun _ _ h => by rw [h.1]; rfl) (fun _ U U' hal hh h => ⟨h.1, h.2.1.mv hal hh, h.2.2.1.mv hal hh, h.2.2.2⟩) (fun r U U' V V' h1 hal h2 h => ⟨h.1, h.2.elim fun B' q => ⟨B', q.1.mv h1 h2, q.2⟩⟩) ?_
  intro p e s m args below meth c s₁ X0 hexec hbytes hml hret hlk hnm hown hh0 W hP
  obtain ⟨rfl, hA, hB, hne, l1, l2, hp⟩ := hP
  have c1 : Steps p.tables e below (s₁.setTop (entryFrame m #[.ref b, .int (Int32.ofNat o), .ref d, .int (Int32.ofNat q), .int (Int32.ofNat len)] 7)) (s₁.setTop (mkF m 0 #[.val (.ref b), .val (.int (Int32.ofNat o)), .val (.ref d), .val (.int (Int32.ofNat q)), .val (.int (Int32.ofNat len)), .unset, .unset] [])) := entry rfl
  have hA0 := hA.1.mv X0.warmed.alike hh0
  have hB0 := hB.mv X0.warmed.alike hh0
  have a31 := hA.1.2.2.2
  have c2 : Steps p.tables e below (s₁.setTop (entryFrame m #[.ref b, .int (Int32.ofNat o), .ref d, .int (Int32.ofNat q), .int (Int32.ofNat len)] 7)) (s₁.setTop (mkF m 3 #[.val (.ref b), .val (.int (Int32.ofNat o)), .val (.ref d), .val (.int (Int32.ofNat q)), .val (.int (Int32.ofNat len)), .val (.int 0), .unset] [])) := c1.trans (by
    refine iconstV X0.here hexec rfl 0 (hb hbytes d0) (by decide) ?_
    refine XS.istore X0.here hexec rfl (hb hbytes d1) rfl rfl ?_
    exact Steps.refl _)
  have loop : ∀ (r i : Nat), i + r = len → ∀ (z : Slot), (z = .unset ∨ ∃ w, z = .val w ∧ w.category = 1) → ∀ (Tl : State) (Bk : Cell), Stand p l e { frames := 0, locals := 0, cells := 0, slots := 0 } s m #[.ref b, .int (Int32.ofNat o), .ref d, .int (Int32.ofNat q), .int (Int32.ofNat len)] below meth c Tl ([] ++ copyLocs d q i) 0 0 → Put d Bk s₁ Tl → Laid B Bk q (q + i) (fun j => Value.int (lo8 (cv A (o + (j - q))))) →
      Steps p.tables e below (s₁.setTop (entryFrame m #[.ref b, .int (Int32.ofNat o), .ref d, .int (Int32.ofNat q), .int (Int32.ofNat len)] 7)) (Tl.setTop (mkF m 3 #[.val (.ref b), .val (.int (Int32.ofNat (o + i))), .val (.ref d), .val (.int (Int32.ofNat (q + i))), .val (.int (Int32.ofNat len)), .val (.int (Int32.ofNat i)), z] [])) → ∃ (T' : State) (B' : Cell) (z' : Slot), Stand p l e { frames := 0, locals := 0, cells := 0, slots := 0 } s m #[.ref b, .int (Int32.ofNat o), .ref d, .int (Int32.ofNat q), .int (Int32.ofNat len)] below meth c T' ([] ++ copyLocs d q len) 0 0 ∧ Put d B' s₁ T' ∧ Laid B B' q (q + len) (fun j => Value.int (lo8 (cv A (o + (j - q))))) ∧
      Steps p.tables e below (s₁.setTop (entryFrame m #[.ref b, .int (Int32.ofNat o), .ref d, .int (Int32.ofNat q), .int (Int32.ofNat len)] 7)) (T'.setTop (mkF m 3 #[.val (.ref b), .val (.int (Int32.ofNat (o + len))), .val (.ref d), .val (.int (Int32.ofNat (q + len))), .val (.int (Int32.ofNat len)), .val (.int (Int32.ofNat len)), z'] [])) := by
    intro r
    induction r with
    | zero =>
      intro i hi z hz Tl Bk Xl pl fl cl
      have hil : i = len := by omega
      rw [hil] at Xl fl cl
      exact ⟨Tl, Bk, z, Xl, pl, fl, cl⟩
    | succ r ih =>
      intro i hi z hz Tl Bk Xl pl fl cl
      have all := X0.warmed.alike.symm.trans Xl.warmed.alike
      have hAl := hA0.keep all (pl.other hne hA0.1)
      have hBk := hB0.like all pl.1 fl.1 fl.2.1 fl.2.2.1
      have hlt : q + i < Bk.slots.size := by rw [fl.2.2.1]; omega
      have c3 : Steps p.tables e below (s₁.setTop (entryFrame m #[.ref b, .int (Int32.ofNat o), .ref d, .int (Int32.ofNat q), .int (Int32.ofNat len)] 7)) (Tl.setTop (mkF m 12 #[.val (.ref b), .val (.int (Int32.ofNat (o + i))), .val (.ref d), .val (.int (Int32.ofNat (q + i))), .val (.int (Int32.ofNat len)), .val (.int (Int32.ofNat i)), z] [.int (Int32.ofNat (o + i)), .ref b])) := cl.trans (by
        refine XS.iload Xl.here hexec rfl (hb hbytes d3) rfl ?_
        refine XS.iload Xl.here hexec rfl (hb hbytes d5) rfl ?_
        refine XS.icmpNo Xl.here hexec rfl (hb hbytes d7) rfl (ii_ge_f (lt32 (by omega) (by omega))) ?_
        refine XS.aloadN Xl.here hexec rfl (hb hbytes d10) rfl rfl ?_
        refine XS.iloadN Xl.here hexec rfl (hb hbytes d11) rfl ?_
        exact Steps.refl _)
      have c4 : Steps p.tables e below (s₁.setTop (entryFrame m #[.ref b, .int (Int32.ofNat o), .ref d, .int (Int32.ofNat q), .int (Int32.ofNat len)] 7)) (Tl.setTop (mkF m 13 #[.val (.ref b), .val (.int (Int32.ofNat (o + i))), .val (.ref d), .val (.int (Int32.ofNat (q + i))), .val (.int (Int32.ofNat len)), .val (.int (Int32.ofNat i)), z] [.int (cv A (o + i))])) := c3.trans (by
        refine Xl.aget hexec hAl rfl (hA.get (i := o + i) (by omega)) rfl rfl (hb hbytes d12) ?_
        exact Steps.refl _)
      have c5 : Steps p.tables e below (s₁.setTop (entryFrame m #[.ref b, .int (Int32.ofNat o), .ref d, .int (Int32.ofNat q), .int (Int32.ofNat len)] 7)) (Tl.setTop (mkF m 15 #[.val (.ref b), .val (.int (Int32.ofNat (o + i))), .val (.ref d), .val (.int (Int32.ofNat (q + i))), .val (.int (Int32.ofNat len)), .val (.int (Int32.ofNat i)), .val (.int (cv A (o + i)))] [])) := c4.trans (by
        refine XS.istoreS Xl.here hexec rfl (hb hbytes d13) rfl rfl hz ?_
        exact Steps.refl _)
      have c6 : Steps p.tables e below (s₁.setTop (entryFrame m #[.ref b, .int (Int32.ofNat o), .ref d, .int (Int32.ofNat q), .int (Int32.ofNat len)] 7)) (Tl.setTop (mkF m 31 #[.val (.ref b), .val (.int (Int32.ofNat (o + i))), .val (.ref d), .val (.int (Int32.ofNat (q + i))), .val (.int (Int32.ofNat len)), .val (.int (Int32.ofNat i)), .val (.int (cv A (o + i)))] [.int (lo8 (cv A (o + i))), .int (Int32.ofNat (q + i)), .ref d])) := c5.trans (by
        refine XS.iload Xl.here hexec rfl (hb hbytes d15) rfl ?_
        refine sipushV Xl.here hexec rfl 255 (hb hbytes d17) (by decide) ?_
        refine XS.icmpYes Xl.here hexec rfl (pc0 := 20) rfl (hb hbytes d20) rfl (ii_le_t (hp i (by omega))) (by decide) rfl ?_
        refine XS.aloadN Xl.here hexec rfl (hb hbytes d26) rfl rfl ?_
        refine XS.iloadN Xl.here hexec rfl (hb hbytes d27) rfl ?_
        refine XS.iload Xl.here hexec rfl (hb hbytes d28) rfl ?_
        refine i2b Xl.here hexec rfl (hb hbytes d30) rfl ?_
        exact Steps.refl _)
      obtain ⟨T7, X7, p7, st7⟩ := Xl.aput hexec hBk rfl hlt rfl (fits_lo8 (cv A (o + i))) (g := (mkF m 31 #[.val (.ref b), .val (.int (Int32.ofNat (o + i))), .val (.ref d), .val (.int (Int32.ofNat (q + i))), .val (.int (Int32.ofNat len)), .val (.int (Int32.ofNat i)), .val (.int (cv A (o + i)))] [.int (lo8 (cv A (o + i))), .int (Int32.ofNat (q + i)), .ref d])) rfl (rest := []) rfl (hb hbytes d31)
      have c8 : Steps p.tables e below (s₁.setTop (entryFrame m #[.ref b, .int (Int32.ofNat o), .ref d, .int (Int32.ofNat q), .int (Int32.ofNat len)] 7)) (T7.setTop (mkF m 32 #[.val (.ref b), .val (.int (Int32.ofNat (o + i))), .val (.ref d), .val (.int (Int32.ofNat (q + i))), .val (.int (Int32.ofNat len)), .val (.int (Int32.ofNat i)), .val (.int (cv A (o + i)))] [])) := c6.trans (st7 _ (Steps.refl _))
      have c9 : Steps p.tables e below (s₁.setTop (entryFrame m #[.ref b, .int (Int32.ofNat o), .ref d, .int (Int32.ofNat q), .int (Int32.ofNat len)] 7)) (T7.setTop (mkF m 3 #[.val (.ref b), .val (.int (Int32.ofNat (o + i) + 1)), .val (.ref d), .val (.int (Int32.ofNat (q + i) + 1)), .val (.int (Int32.ofNat len)), .val (.int (Int32.ofNat i + 1)), .val (.int (cv A (o + i)))] [])) := c8.trans (by
        refine iincV X7.here hexec rfl 1 (hb hbytes d32) (by decide) rfl rfl ?_
        refine iincV X7.here hexec rfl 1 (hb hbytes d35) (by decide) rfl rfl ?_
        refine iincV X7.here hexec rfl 1 (hb hbytes d38) (by decide) rfl rfl ?_
        refine XS.goto X7.here hexec rfl (pc0 := 41) rfl (hb hbytes d41) (by decide) rfl ?_
        exact Steps.refl _)
      have c10 : Steps p.tables e below (s₁.setTop (entryFrame m #[.ref b, .int (Int32.ofNat o), .ref d, .int (Int32.ofNat q), .int (Int32.ofNat len)] 7)) (T7.setTop (mkF m 3 #[.val (.ref b), .val (.int (Int32.ofNat (o + (i + 1)))), .val (.ref d), .val (.int (Int32.ofNat (q + (i + 1)))), .val (.int (Int32.ofNat len)), .val (.int (Int32.ofNat (i + 1))), .val (.int (cv A (o + i)))] [])) := by
        have := c9
        rw [succ32, succ32, succ32] at this
        exact this
      exact ih (i + 1) (by omega) _ (Or.inr ⟨_, rfl, rfl⟩) T7 _ (by rw [copyLocs_step, ← List.append_assoc]; exact X7) (pl.trans p7) (fl.step (by omega) hlt (by simp)) c10
  obtain ⟨T9, B9, z9, X9, p9, f9, g9⟩ := loop len 0 (by omega) .unset (Or.inl rfl) s₁ B (by simpa [copyLocs] using X0) ⟨hB0.1, fun _ _ => rfl, rfl⟩ (Laid.zero _ _ _) c2
  have c11 : Steps p.tables e below (s₁.setTop (entryFrame m #[.ref b, .int (Int32.ofNat o), .ref d, .int (Int32.ofNat q), .int (Int32.ofNat len)] 7)) (T9.setTop (mkF m 46 #[.val (.ref b), .val (.int (Int32.ofNat (o + len))), .val (.ref d), .val (.int (Int32.ofNat (q + len))), .val (.int (Int32.ofNat len)), .val (.int (Int32.ofNat len)), z9] [.int (Int32.ofNat len)])) := g9.trans (by
    refine XS.iload X9.here hexec rfl (hb hbytes d3) rfl ?_
    refine XS.iload X9.here hexec rfl (hb hbytes d5) rfl ?_
    refine XS.icmpYes X9.here hexec rfl (pc0 := 7) rfl (hb hbytes d7) rfl (ii_ge_t (nlt32 (by omega) (Nat.le_refl _))) (by decide) rfl ?_
    refine XS.iload X9.here hexec rfl (hb hbytes d44) rfl ?_
    exact Steps.refl _)
  exact ⟨T9, some (.int (Int32.ofNat len)), _, _, _, X9, by simp, rfl, rfl, (fun h => by cases h), ⟨rfl, B9, p9.from hh0, f9⟩, fun fs hl => c11.trans (X9.ireturnOut hexec hret rfl (Or.inl rfl) (hb hbytes d46) hl)⟩
end Cmp5
namespace Cmp3
def yN : MethodName := ⟨"java/lang/StringUTF16", "compress", "([CII)[B"⟩
abbrev yB : ByteArray := jdk_52_method_16_code
theorem d0 : decode yB 0 = .ok (.iload_n 2, 1) := by decide +kernel
theorem d1 : decode yB 1 = .ok (.newarray .byte, 2) := by decide +kernel
theorem d3 : decode yB 3 = .ok (.astore_n 3, 1) := by decide +kernel
theorem d4 : decode yB 4 = .ok (.aload_n 0, 1) := by decide +kernel
theorem d5 : decode yB 5 = .ok (.iload_n 1, 1) := by decide +kernel
theorem d6 : decode yB 6 = .ok (.aload_n 3, 1) := by decide +kernel
theorem d7 : decode yB 7 = .ok (.iconst 0, 1) := by decide +kernel
theorem d8 : decode yB 8 = .ok (.iload_n 2, 1) := by decide +kernel
theorem d9 : decode yB 9 = .ok (.invokestatic 115, 3) := by decide +kernel
theorem d12 : decode yB 12 = .ok (.istore 4, 2) := by decide +kernel
theorem d14 : decode yB 14 = .ok (.iload 4, 2) := by decide +kernel
theorem d16 : decode yB 16 = .ok (.iload_n 2, 1) := by decide +kernel
theorem d17 : decode yB 17 = .ok (.if_icmp (.eq) 40, 3) := by decide +kernel
theorem d57 : decode yB 57 = .ok (.aload_n 3, 1) := by decide +kernel
theorem d58 : decode yB 58 = .ok (.areturn, 1) := by decide +kernel
def site : List Cond := [.arrayClass .byte, Cmp5.tab] ++ staticW U16 115 Cmp5.yN
def tab : Cond := tabOf yN yB 6 (some (.array .byte)) site
def P (b : Addr) (A : Cell) (o len : Nat) (args : Array Value) (s : State) : Prop := args = #[.ref b, .int (Int32.ofNat o), .int (Int32.ofNat len)] ∧ Ch b A s ∧ o + len ≤ A.slots.size ∧ len ≤ 536870912 ∧ ∀ i, i < len → ¬ 255 < cv A (o + i)
def E (b : Addr) (A : Cell) (o len : Nat) (r : Option Value) (s u : State) : Prop := NewArr .byte "[B" len (fun j => .int (lo8 (cv A (o + j)))) r s u ∧ u.heap.size = s.heap.size + 1
/-- no char of the range above 255: a new byte[] of their low bytes -/
theorem law (l : Launch) (b : Addr) (A : Cell) (o len : Nat) : Law l yN 3 3 1 18 yB 6 (some (.array .byte)) site (P b A o len) (E b A o len) [] 1 len := by
  refine Law.of_walk (plainFor_of_name (by decide +kernel)) (by decide +kernel) (by decide +kernel) (by decide) (fun _ _ h => by rw [h.1]; rfl) (fun _ U U' hal hh h => ⟨h.1, h.2.1.mv hal hh, h.2.2⟩) (fun r U U' V V' h1 hal h2 h => ⟨NewArr.mv r U U' V V' h1 hal h2 h.1, by rw [h1, h2]; exact h.2⟩) ?_
  intro p e s m args below meth c s₁ X0 hexec hbytes hml hret hlk hnm hown hh0 W hP
  obtain ⟨rfl, hA, l1, l2, hp⟩ := hP
  have a31 := hA.1.2.2.2
  have c1 : Steps p.tables e below (s₁.setTop (entryFrame m #[.ref b, .int (Int32.ofNat o), .int (Int32.ofNat len)] 6)) (s₁.setTop (mkF m 0 #[.val (.ref b), .val (.int (Int32.ofNat o)), .val (.int (Int32.ofNat len)), .unset, .unset, .unset] [])) := entry rfl
  have c2 : Steps p.tables e below (s₁.setTop (entryFrame m #[.ref b, .int (Int32.ofNat o), .int (Int32.ofNat len)] 6)) (s₁.setTop (mkF m 1 #[.val (.ref b), .val (.int (Int32.ofNat o)), .val (.int (Int32.ofNat len)), .unset, .unset, .unset] [.int (Int32.ofNat len)])) := c1.trans (by
    refine XS.iloadN X0.here hexec rfl (hb hbytes d0) rfl ?_
    exact Steps.refl _)
  obtain ⟨T3, B3, X3, ba3, bs3, bv3, bh3, bf3, st3⟩ := X0.anew hexec (atype := .byte) (wk W (.arrayClass .byte)) rfl (by show len * 1 ≤ _; omega) (by omega) (g := (mkF m 1 #[.val (.ref b), .val (.int (Int32.ofNat o)), .val (.int (Int32.ofNat len)), .unset, .unset, .unset] [.int (Int32.ofNat len)])) rfl (hb hbytes d1) (rest := []) rfl (Nat.le_refl _) (by show 0 + len ≤ len; omega)
  rw [hh0] at ba3 st3
  have kp3 : XT.Kept s T3 := (XT.Kept.of_eq hh0).push bh3
  have hA3 := hA.keep X3.warmed.alike (kp3 _ _ hA.1.1)
  have hne : b ≠ s.heap.size := hA.1.ne
  have c4 : Steps p.tables e below (s₁.setTop (entryFrame m #[.ref b, .int (Int32.ofNat o), .int (Int32.ofNat len)] 6)) (T3.setTop (mkF m 3 #[.val (.ref b), .val (.int (Int32.ofNat o)), .val (.int (Int32.ofNat len)), .unset, .unset, .unset] [.ref s.heap.size])) := c2.trans (st3 _ (Steps.refl _))
  have c5 : Steps p.tables e below (s₁.setTop (entryFrame m #[.ref b, .int (Int32.ofNat o), .int (Int32.ofNat len)] 6)) (T3.setTop (mkF m 9 #[.val (.ref b), .val (.int (Int32.ofNat o)), .val (.int (Int32.ofNat len)), .val (.ref s.heap.size), .unset, .unset] [.int (Int32.ofNat len), .int 0, .ref s.heap.size, .int (Int32.ofNat o), .ref b])) := c4.trans (by
    refine XS.astoreN X3.here hexec rfl (hb hbytes d3) rfl rfl rfl ?_
    refine XS.aloadN X3.here hexec rfl (hb hbytes d4) rfl rfl ?_
    refine XS.iloadN X3.here hexec rfl (hb hbytes d5) rfl ?_
    refine XS.aloadN X3.here hexec rfl (hb hbytes d6) rfl rfl ?_
    refine iconstV X3.here hexec rfl 0 (hb hbytes d7) (by decide) ?_
    refine XS.iloadN X3.here hexec rfl (hb hbytes d8) rfl ?_
    exact Steps.refl _)
  obtain ⟨v6, T6, X6, E6, g6⟩ := X3.callS hexec (Cmp5.law l b A s.heap.size B3 o 0 len) hown (wks W (staticW U16 115 Cmp5.yN)) (wk W Cmp5.tab) (W := 0) (Nat.le_of_ble_eq_true rfl) (Nat.le_of_ble_eq_true rfl) (Nat.le_refl _) (by show 0 + len + 0 ≤ len; omega) (g := (mkF m 9 #[.val (.ref b), .val (.int (Int32.ofNat o)), .val (.int (Int32.ofNat len)), .val (.ref s.heap.size), .unset, .unset] [.int (Int32.ofNat len), .int (Int32.ofNat 0), .ref s.heap.size, .int (Int32.ofNat o), .ref b])) rfl (by rw [hml]; rfl) c5 (argsL := [.ref b, .int (Int32.ofNat o), .ref s.heap.size, .int (Int32.ofNat 0), .int (Int32.ofNat len)]) (rest := []) rfl rfl (by show 2 * 0 + 0 ≤ _; decide) (hb hbytes d9) (⟨rfl, hA3, ba3, hne, l1, by rw [bs3]; simp, hp⟩)
  obtain ⟨rfl, B6, p6, f6⟩ := E6
  have c7 : Steps p.tables e below (s₁.setTop (entryFrame m #[.ref b, .int (Int32.ofNat o), .int (Int32.ofNat len)] 6)) (T6.setTop (mkF m 12 #[.val (.ref b), .val (.int (Int32.ofNat o)), .val (.int (Int32.ofNat len)), .val (.ref s.heap.size), .unset, .unset] [.int (Int32.ofNat len)])) := g6
  have c8 : Steps p.tables e below (s₁.setTop (entryFrame m #[.ref b, .int (Int32.ofNat o), .int (Int32.ofNat len)] 6)) (T6.setTop (mkF m 58 #[.val (.ref b), .val (.int (Int32.ofNat o)), .val (.int (Int32.ofNat len)), .val (.ref s.heap.size), .val (.int (Int32.ofNat len)), .unset] [.ref s.heap.size])) := c7.trans (by
    refine XS.istore X6.here hexec rfl (hb hbytes d12) rfl rfl ?_
    refine XS.iload X6.here hexec rfl (hb hbytes d14) rfl ?_
    refine XS.iloadN X6.here hexec rfl (hb hbytes d16) rfl ?_
    refine XS.icmpYes X6.here hexec rfl (pc0 := 17) rfl (hb hbytes d17) rfl (ii_eq_t rfl) (by decide) rfl ?_
    refine XS.aloadN X6.here hexec rfl (hb hbytes d57) rfl rfl ?_
    exact Steps.refl _)
  have X8 := X6.wide (L' := []) (cells' := 1) (slots' := len) (fun x hx hlt => by
    simp only [List.nil_append, copyLocs, List.mem_map, List.mem_range] at hx
    obtain ⟨i, -, rfl⟩ := hx
    exact absurd hlt (Nat.lt_irrefl _)) (Nat.le_refl _) (by omega)
  exact ⟨T6, some (.ref s.heap.size), _, _, _, X8, rfl, rfl, rfl, (fun h => by cases h), ⟨⟨rfl, B6, ba3.like (X3.warmed.alike.symm.trans X6.warmed.alike) p6.1 f6.1 f6.2.1 f6.2.2.1, f6.2.1.trans bv3, by rw [X6.warmed.alike.findClass, f6.1]; exact bf3, by rw [f6.2.2.1, bs3]; simp, fun j hj => by rw [f6.2.2.2 j, if_pos (by omega)]; rfl, kp3.put p6 (Nat.le_refl _)⟩, by rw [p6.2.2, bh3, hh0]; simp⟩, fun fs hl => c8.trans (X8.areturnOut hexec rfl hret rfl (hb hbytes d58) hl)⟩
end Cmp3
namespace CodL
def yN : MethodName := ⟨"java/lang/StringUTF16", "coderFromArrayLen", "([BI)B"⟩
abbrev yB : ByteArray := jdk_52_method_15_code
theorem d0 : decode yB 0 = .ok (.iload_n 1, 1) := by decide +kernel
theorem d1 : decode yB 1 = .ok (.aload_n 0, 1) := by decide +kernel
theorem d2 : decode yB 2 = .ok (.arraylength, 1) := by decide +kernel
theorem d3 : decode yB 3 = .ok (.isub, 1) := by decide +kernel
theorem d4 : decode yB 4 = .ok (.bipush 31, 2) := by decide +kernel
theorem d6 : decode yB 6 = .ok (.iushr, 1) := by decide +kernel
theorem d7 : decode yB 7 = .ok (.i2b, 1) := by decide +kernel
theorem d8 : decode yB 8 = .ok (.ireturn, 1) := by decide +kernel
def site : List Cond := []
def tab : Cond := tabOf yN yB 2 (some .byte) site
def P (d : Addr) (B : Cell) (args : Array Value) (s : State) : Prop := args = #[.ref d, .int (Int32.ofNat B.slots.size)] ∧ Arr .byte d B s
def E (r : Option Value) (s u : State) : Prop := XT.PureE (some (.int 0)) r s u
/-- an array as long as the number of chars: LATIN1 -/
theorem law (l : Launch) (d : Addr) (B : Cell) : Law l yN 2 2 0 0 yB 2 (some .byte) site (P d B) E [] 0 0 := by
  refine Law.of_walk (plainFor_of_name (by decide +kernel)) (by decide +kernel) (by decide +kernel) (by decide) (fun _ _ h => by rw [h.1]; rfl) (fun _ U U' hal hh h => ⟨h.1, h.2.mv hal hh⟩) (fun r U U' V V' h1 hal h2 h => XT.PureE.mv r U U' V V' h1 hal h2 h) ?_
  intro p e s m args below meth c s₁ X0 hexec hbytes hml hret hlk hnm hown hh0 W hP
  obtain ⟨rfl, hB⟩ := hP
  have hB0 := hB.mv X0.warmed.alike hh0
  have c1 : Steps p.tables e below (s₁.setTop (entryFrame m #[.ref d, .int (Int32.ofNat B.slots.size)] 2)) (s₁.setTop (mkF m 0 #[.val (.ref d), .val (.int (Int32.ofNat B.slots.size))] [])) := entry rfl
  have c2 : Steps p.tables e below (s₁.setTop (entryFrame m #[.ref d, .int (Int32.ofNat B.slots.size)] 2)) (s₁.setTop (mkF m 2 #[.val (.ref d), .val (.int (Int32.ofNat B.slots.size))] [.ref d, .int (Int32.ofNat B.slots.size)])) := c1.trans (by
    refine XS.iloadN X0.here hexec rfl (hb hbytes d0) rfl ?_
    refine XS.aloadN X0.here hexec rfl (hb hbytes d1) rfl rfl ?_
    exact Steps.refl _)
  have c3 : Steps p.tables e below (s₁.setTop (entryFrame m #[.ref d, .int (Int32.ofNat B.slots.size)] 2)) (s₁.setTop (mkF m 8 #[.val (.ref d), .val (.int (Int32.ofNat B.slots.size))] [.int (lo8 (ushr (Int32.ofNat B.slots.size - Int32.ofNat B.slots.size) 31))])) := c2.trans (by
    refine X0.alen hexec hB0 rfl rfl (hb hbytes d2) ?_
    refine XS.isub X0.here hexec rfl (hb hbytes d3) rfl ?_
    refine bipushV X0.here hexec rfl 31 (hb hbytes d4) (by decide) ?_
    refine iushr X0.here hexec rfl (hb hbytes d6) rfl ?_
    refine i2b X0.here hexec rfl (hb hbytes d7) rfl ?_
    exact Steps.refl _)
  have e0 : lo8 (ushr (Int32.ofNat B.slots.size - Int32.ofNat B.slots.size) 31) = 0 := by rw [Int32.sub_self]; decide
  rw [e0] at c3
  exact ⟨s₁, some (.int 0), _, _, _, X0, rfl, rfl, rfl, (fun h => by cases h), ⟨rfl, hh0⟩, fun fs hl => c3.trans (X0.ireturnOut hexec hret rfl (Or.inr (Or.inr (Or.inl rfl))) (hb hbytes d8) hl)⟩
end CodL
/-- the String at a is Latin-1 over a new byte[] (the heap's one new cell): the low bytes of the len chars of A from o on; every cell but a is kept -/
def Got (a : Addr) (D : Cell) (fV fC : Field) (A : Cell) (o len : Nat) (r : Option Value) (s u : State) : Prop := r = none ∧ ∃ D' V : Cell, Blank "java/lang/String" a D' u ∧ Same D D' [fV.slot, fC.slot] ∧ D'.slots[fV.slot]? = some (.ref s.heap.size) ∧ D'.slots[fC.slot]? = some (.int 0) ∧ Arr .byte s.heap.size V u ∧ V.vm = .none ∧ u.vm.findClass "[B" = some V.cls ∧ V.slots.size = len ∧ (∀ j, j < len → V.slots[j]? = some (.int (lo8 (cv A (o + j))))) ∧ (∀ (y : Addr) (c : Cell), y ≠ a → s.heap[y]? = some c → u.heap[y]? = some c) ∧ u.heap.size = s.heap.size + 1
theorem Got.mv {a : Addr} {D A : Cell} {fV fC : Field} {o len : Nat} : ∀ r (U U' V V' : State), U'.heap = U.heap → V.vm.Alike V'.vm → V'.heap = V.heap → Got a D fV fC A o len r U V → Got a D fV fC A o len r U' V' :=
  fun r U U' V V' h1 hal h2 ⟨e0, D', X, a1, a2, a3, a4, a5, a6, a7, a8, a9, a10, a11⟩ => ⟨e0, D', X, a1.mv hal h2, a2, by rw [h1]; exact a3, a4, by rw [h1]; exact a5.mv hal h2, a6, by rw [hal.findClass]; exact a7, a8, a9, by rw [h1, h2]; exact a10, by rw [h1, h2]; exact a11⟩
namespace New4
def yN : MethodName := ⟨"java/lang/String", "<init>", "([CIILjava/lang/Void;)V"⟩
abbrev yB : ByteArray := jdk_42_method_149_code
theorem d0 : decode yB 0 = .ok (.aload_n 0, 1) := by decide +kernel
theorem d1 : decode yB 1 = .ok (.invokespecial 1, 3) := by decide +kernel
theorem d4 : decode yB 4 = .ok (.iload_n 3, 1) := by decide +kernel
theorem d5 : decode yB 5 = .ok (.ifCond (.ne) 22, 3) := by decide +kernel
theorem d27 : decode yB 27 = .ok (.getstatic 38, 3) := by decide +kernel
theorem d30 : decode yB 30 = .ok (.ifCond (.eq) 28, 3) := by decide +kernel
theorem d33 : decode yB 33 = .ok (.aload_n 1, 1) := by decide +kernel
theorem d34 : decode yB 34 = .ok (.iload_n 2, 1) := by decide +kernel
theorem d35 : decode yB 35 = .ok (.iload_n 3, 1) := by decide +kernel
theorem d36 : decode yB 36 = .ok (.invokestatic 177, 3) := by decide +kernel
theorem d39 : decode yB 39 = .ok (.astore 5, 2) := by decide +kernel
theorem d41 : decode yB 41 = .ok (.aload_n 0, 1) := by decide +kernel
theorem d42 : decode yB 42 = .ok (.aload 5, 2) := by decide +kernel
theorem d44 : decode yB 44 = .ok (.iload_n 3, 1) := by decide +kernel
theorem d45 : decode yB 45 = .ok (.invokestatic 47, 3) := by decide +kernel
theorem d48 : decode yB 48 = .ok (.putfield 15, 3) := by decide +kernel
theorem d51 : decode yB 51 = .ok (.aload_n 0, 1) := by decide +kernel
theorem d52 : decode yB 52 = .ok (.aload 5, 2) := by decide +kernel
theorem d54 : decode yB 54 = .ok (.putfield 9, 3) := by decide +kernel
theorem d57 : decode yB 57 = .ok (.return_, 1) := by decide +kernel
def site : List Cond := [.fieldLink "java/lang/String" 38 "java/lang/String" "COMPACT_STRINGS" "Z", Cmp3.tab, CodL.tab, .laysFinal "java/lang/String" "java/lang/String" "value" "[B", .fieldLink "java/lang/String" 9 "java/lang/String" "value" "[B", .laysFinal "java/lang/String" "java/lang/String" "coder" "B", .fieldLink "java/lang/String" 15 "java/lang/String" "coder" "B"] ++ objW "java/lang/String" 1 ++ staticW "java/lang/String" 177 Cmp3.yN ++ staticW "java/lang/String" 47 CodL.yN
def tab : Cond := tabOf yN yB 6 none site
def P (a : Addr) (D : Cell) (fV fC : Field) (b : Addr) (A : Cell) (z : Int32) (o len : Nat) (args : Array Value) (s : State) : Prop := args = #[.ref a, .ref b, .int (Int32.ofNat o), .int (Int32.ofNat len), .null] ∧ Blank "java/lang/String" a D s ∧ Found "java/lang/String" "value" "[B" fV s ∧ Found "java/lang/String" "coder" "B" fC s ∧ Ch b A s ∧ StaticIs s "java/lang/String" "COMPACT_STRINGS" "Z" (.int z) ∧ ¬ z = 0 ∧ 0 < len ∧ o + len ≤ A.slots.size ∧ len ≤ 536870912 ∧ ∀ i, i < len → ¬ 255 < cv A (o + i)
def E (a : Addr) (D : Cell) (fV fC : Field) (A : Cell) (o len : Nat) (r : Option Value) (s u : State) : Prop := Got a D fV fC A o len r s u
/-- len > 0, no char of the range above 255: a Latin-1 String of their low bytes -/
theorem law (l : Launch) (a : Addr) (D : Cell) (fV fC : Field) (b : Addr) (A : Cell) (z : Int32) (o len : Nat) : Law l yN 5 4 2 35 yB 6 none site (P a D fV fC b A z o len) (E a D fV fC A o len) [⟨a, fC.slot⟩, ⟨a, fV.slot⟩] 1 len := by
  refine Law.of_walk (plainFor_of_name (by decide +kernel)) (by decide +kernel) (by decide +kernel) (by decide) (fun _ _ h => by rw [h.1]; rfl) (fun _ U U' hal hh h => ⟨h.1, h.2.1.mv hal hh, h.2.2.1.al hal, h.2.2.2.1.al hal, h.2.2.2.2.1.mv hal hh, h.2.2.2.2.2.1.there hal hh, h.2.2.2.2.2.2⟩) (fun r U U' V V' h1 hal h2 h => Got.mv r U U' V V' h1 hal h2 h) ?_
  intro p e s m args below meth c s₁ X0 hexec hbytes hml hret hlk hnm hown hh0 W hP
  obtain ⟨rfl, hB, f1, f2, hA, s1, hz, l0, l1, l2, hp⟩ := hP
  have a31 := hA.1.2.2.2
  have c1 : Steps p.tables e below (s₁.setTop (entryFrame m #[.ref a, .ref b, .int (Int32.ofNat o), .int (Int32.ofNat len), .null] 6)) (s₁.setTop (mkF m 0 #[.val (.ref a), .val (.ref b), .val (.int (Int32.ofNat o)), .val (.int (Int32.ofNat len)), .val .null, .unset] [])) := entry rfl
  have c2 : Steps p.tables e below (s₁.setTop (entryFrame m #[.ref a, .ref b, .int (Int32.ofNat o), .int (Int32.ofNat len), .null] 6)) (s₁.setTop (mkF m 1 #[.val (.ref a), .val (.ref b), .val (.int (Int32.ofNat o)), .val (.int (Int32.ofNat len)), .val .null, .unset] [.ref a])) := c1.trans (by
    refine XS.aloadN X0.here hexec rfl (hb hbytes d0) rfl rfl ?_
    exact Steps.refl _)
  obtain ⟨T3, X3, q3, st3⟩ := X0.oinit hexec hown (wks W (objW "java/lang/String" 1)) (g := (mkF m 1 #[.val (.ref a), .val (.ref b), .val (.int (Int32.ofNat o)), .val (.int (Int32.ofNat len)), .val .null, .unset] [.ref a])) rfl (by rw [hml]; rfl) (rest := []) rfl (hb hbytes d1) (W := 0) (by show 2 * 0 + 0 ≤ _; decide) (Nat.le_of_ble_eq_true rfl) (Nat.le_of_ble_eq_true rfl)
  have hh3 := q3.trans hh0
  have c4 : Steps p.tables e below (s₁.setTop (entryFrame m #[.ref a, .ref b, .int (Int32.ofNat o), .int (Int32.ofNat len), .null] 6)) (T3.setTop (mkF m 27 #[.val (.ref a), .val (.ref b), .val (.int (Int32.ofNat o)), .val (.int (Int32.ofNat len)), .val .null, .unset] [])) := (c2.trans (st3 _ (Steps.refl _))).trans (by
    refine XS.iloadN X3.here hexec rfl (hb hbytes d4) rfl ?_
    refine XS.ifYes X3.here hexec rfl (pc0 := 5) rfl (hb hbytes d5) rfl (i0_ne_t (nz32 (by omega) l0)) (by decide) rfl ?_
    exact Steps.refl _)
  obtain ⟨T5, X5, q5, st5⟩ := X3.sget hexec hown (wk W (.fieldLink "java/lang/String" 38 "java/lang/String" "COMPACT_STRINGS" "Z")) s1 (fun _ _ h => by rw [hh3]; exact h) (g := (mkF m 27 #[.val (.ref a), .val (.ref b), .val (.int (Int32.ofNat o)), .val (.int (Int32.ofNat len)), .val .null, .unset] [])) rfl (hb hbytes d27)
  have hh5 := q5.trans hh3
  have c6 : Steps p.tables e below (s₁.setTop (entryFrame m #[.ref a, .ref b, .int (Int32.ofNat o), .int (Int32.ofNat len), .null] 6)) (T5.setTop (mkF m 30 #[.val (.ref a), .val (.ref b), .val (.int (Int32.ofNat o)), .val (.int (Int32.ofNat len)), .val .null, .unset] [.int z])) := c4.trans (st5 _ (Steps.refl _))
  have c7 : Steps p.tables e below (s₁.setTop (entryFrame m #[.ref a, .ref b, .int (Int32.ofNat o), .int (Int32.ofNat len), .null] 6)) (T5.setTop (mkF m 36 #[.val (.ref a), .val (.ref b), .val (.int (Int32.ofNat o)), .val (.int (Int32.ofNat len)), .val .null, .unset] [.int (Int32.ofNat len), .int (Int32.ofNat o), .ref b])) := c6.trans (by
    refine XS.ifNo X5.here hexec rfl (hb hbytes d30) rfl (i0_eq_f hz) ?_
    refine XS.aloadN X5.here hexec rfl (hb hbytes d33) rfl rfl ?_
    refine XS.iloadN X5.here hexec rfl (hb hbytes d34) rfl ?_
    refine XS.iloadN X5.here hexec rfl (hb hbytes d35) rfl ?_
    exact Steps.refl _)
  obtain ⟨v8, T8, X8, E8, g8⟩ := X5.callS hexec (Cmp3.law l b A o len) hown (wks W (staticW "java/lang/String" 177 Cmp3.yN)) (wk W Cmp3.tab) (W := 0) (Nat.le_of_ble_eq_true rfl) (Nat.le_of_ble_eq_true rfl) (Nat.le_refl _) (by show 0 + len ≤ len; omega) (g := (mkF m 36 #[.val (.ref a), .val (.ref b), .val (.int (Int32.ofNat o)), .val (.int (Int32.ofNat len)), .val .null, .unset] [.int (Int32.ofNat len), .int (Int32.ofNat o), .ref b])) rfl (by rw [hml]; rfl) c7 (argsL := [.ref b, .int (Int32.ofNat o), .int (Int32.ofNat len)]) (rest := []) rfl rfl (by show 2 * 0 + 0 ≤ _; decide) (hb hbytes d36) (⟨rfl, hA.mv X5.warmed.alike hh5, l1, l2, hp⟩)
  obtain ⟨e8, z8⟩ := E8
  obtain ⟨rfl, N, n1, n2, n3, n4, n5, n6⟩ := NewArr.mv _ T5 s _ _ hh5.symm (Vm.Alike.refl _) rfl e8
  rw [hh5] at z8
  have hB1 := hB.keep X8.warmed.alike (n6 _ _ hB.1)
  have hne : s.heap.size ≠ a := (Nat.ne_of_lt (Array.getElem?_eq_some_iff.mp hB.1).1).symm
  have c9 : Steps p.tables e below (s₁.setTop (entryFrame m #[.ref a, .ref b, .int (Int32.ofNat o), .int (Int32.ofNat len), .null] 6)) (T8.setTop (mkF m 39 #[.val (.ref a), .val (.ref b), .val (.int (Int32.ofNat o)), .val (.int (Int32.ofNat len)), .val .null, .unset] [.ref s.heap.size])) := g8
  have c10 : Steps p.tables e below (s₁.setTop (entryFrame m #[.ref a, .ref b, .int (Int32.ofNat o), .int (Int32.ofNat len), .null] 6)) (T8.setTop (mkF m 45 #[.val (.ref a), .val (.ref b), .val (.int (Int32.ofNat o)), .val (.int (Int32.ofNat len)), .val .null, .val (.ref s.heap.size)] [.int (Int32.ofNat N.slots.size), .ref s.heap.size, .ref a])) := by
    have hc : Steps p.tables e below (s₁.setTop (entryFrame m #[.ref a, .ref b, .int (Int32.ofNat o), .int (Int32.ofNat len), .null] 6)) (T8.setTop (mkF m 45 #[.val (.ref a), .val (.ref b), .val (.int (Int32.ofNat o)), .val (.int (Int32.ofNat len)), .val .null, .val (.ref s.heap.size)] [.int (Int32.ofNat len), .ref s.heap.size, .ref a])) := c9.trans (by
      refine XS.astore X8.here hexec rfl (hb hbytes d39) rfl rfl rfl ?_
      refine XS.aloadN X8.here hexec rfl (hb hbytes d41) rfl rfl ?_
      refine XS.aload X8.here hexec rfl (hb hbytes d42) rfl rfl ?_
      refine XS.iloadN X8.here hexec rfl (hb hbytes d44) rfl ?_
      exact Steps.refl _)
    rw [n4]; exact hc
  obtain ⟨v11, T11, X11, E11, g11⟩ := X8.callS hexec (CodL.law l s.heap.size N) hown (wks W (staticW "java/lang/String" 47 CodL.yN)) (wk W CodL.tab) (W := 1) (Nat.le_of_ble_eq_true rfl) (Nat.le_of_ble_eq_true rfl) (Nat.le_refl _) (by show 0 + len + 0 ≤ len; omega) (g := (mkF m 45 #[.val (.ref a), .val (.ref b), .val (.int (Int32.ofNat o)), .val (.int (Int32.ofNat len)), .val .null, .val (.ref s.heap.size)] [.int (Int32.ofNat N.slots.size), .ref s.heap.size, .ref a])) rfl (by rw [hml]; rfl) c10 (argsL := [.ref s.heap.size, .int (Int32.ofNat N.slots.size)]) (rest := [.ref a]) rfl rfl (by show 2 * 0 + (1 + 0) ≤ _; decide) (hb hbytes d45) (⟨rfl, n1⟩)
  obtain ⟨rfl, q11⟩ := E11
  have hB11 := hB1.mv (X8.warmed.alike.symm.trans X11.warmed.alike) q11
  have c12 : Steps p.tables e below (s₁.setTop (entryFrame m #[.ref a, .ref b, .int (Int32.ofNat o), .int (Int32.ofNat len), .null] 6)) (T11.setTop (mkF m 48 #[.val (.ref a), .val (.ref b), .val (.int (Int32.ofNat o)), .val (.int (Int32.ofNat len)), .val .null, .val (.ref s.heap.size)] [.int 0, .ref a])) := g11
  obtain ⟨T13, X13, p13, bl13, sl13, st13⟩ := X11.finit hexec hown (wk W (.fieldLink "java/lang/String" 15 "java/lang/String" "coder" "B")) (Or.inr ⟨_, (wk W (.laysFinal "java/lang/String" "java/lang/String" "coder" "B"))⟩) (Or.inl ⟨rfl, hnm⟩) f2 (Or.inl rfl) hB11 (t := .byte) (by decide +kernel) rfl (g := (mkF m 48 #[.val (.ref a), .val (.ref b), .val (.int (Int32.ofNat o)), .val (.int (Int32.ofNat len)), .val .null, .val (.ref s.heap.size)] [.int 0, .ref a])) rfl (rest := []) rfl (hb hbytes d48)
  have c14 : Steps p.tables e below (s₁.setTop (entryFrame m #[.ref a, .ref b, .int (Int32.ofNat o), .int (Int32.ofNat len), .null] 6)) (T13.setTop (mkF m 54 #[.val (.ref a), .val (.ref b), .val (.int (Int32.ofNat o)), .val (.int (Int32.ofNat len)), .val .null, .val (.ref s.heap.size)] [.ref s.heap.size, .ref a])) := (c12.trans (st13 _ (Steps.refl _))).trans (by
    refine XS.aloadN X13.here hexec rfl (hb hbytes d51) rfl rfl ?_
    refine XS.aload X13.here hexec rfl (hb hbytes d52) rfl rfl ?_
    exact Steps.refl _)
  obtain ⟨T15, X15, p15, bl15, sl15, st15⟩ := X13.finit hexec hown (wk W (.fieldLink "java/lang/String" 9 "java/lang/String" "value" "[B")) (Or.inr ⟨_, (wk W (.laysFinal "java/lang/String" "java/lang/String" "value" "[B"))⟩) (Or.inl ⟨rfl, hnm⟩) f1 (Or.inl rfl) bl13 (t := (.array .byte)) (by decide +kernel) rfl (g := (mkF m 54 #[.val (.ref a), .val (.ref b), .val (.int (Int32.ofNat o)), .val (.int (Int32.ofNat len)), .val .null, .val (.ref s.heap.size)] [.ref s.heap.size, .ref a])) rfl (rest := []) rfl (hb hbytes d54)
  have c16 : Steps p.tables e below (s₁.setTop (entryFrame m #[.ref a, .ref b, .int (Int32.ofNat o), .int (Int32.ofNat len), .null] 6)) (T15.setTop (mkF m 57 #[.val (.ref a), .val (.ref b), .val (.int (Int32.ofNat o)), .val (.int (Int32.ofNat len)), .val .null, .val (.ref s.heap.size)] [])) := c14.trans (st15 _ (Steps.refl _))
  have ap := apart (Or.inr ⟨_, (wk W (.laysFinal "java/lang/String" "java/lang/String" "value" "[B"))⟩) (Or.inr ⟨_, (wk W (.laysFinal "java/lang/String" "java/lang/String" "coder" "B"))⟩) f1 f2 (t₁ := .array .byte) (t₂ := .byte) (by decide +kernel) (by decide +kernel) (by decide)
  have al := X8.warmed.alike.symm.trans X15.warmed.alike
  have n7 : T11.heap[s.heap.size]? = some N := by rw [q11]; exact n1.1
  exact ⟨T15, none, _, _, _, X15, by simp, rfl, by omega, (fun _ => rfl), ⟨rfl, _, N, bl15, ((Same.refl D _).set _ (by simp)).set _ (by simp), sl15, (Cell.slots_setSlot_ne _ ap).trans sl13, n1.keep al (p15.other hne (p13.other hne n7)), n2, by rw [al.findClass]; exact n3, n4, n5, fun y c h1 h2 => p15.other h1 (p13.other h1 (by rw [q11]; exact n6 y c h2)), by rw [p15.2.2, p13.2.2, q11]; exact z8⟩, fun fs hl => c16.trans (X15.returnOut hexec hret (hb hbytes d57) hl)⟩
end New4
namespace New1
def yN : MethodName := ⟨"java/lang/String", "<init>", "([C)V"⟩
abbrev yB : ByteArray := jdk_42_method_3_code
theorem d0 : decode yB 0 = .ok (.aload_n 0, 1) := by decide +kernel
theorem d1 : decode yB 1 = .ok (.aload_n 1, 1) := by decide +kernel
theorem d2 : decode yB 2 = .ok (.iconst 0, 1) := by decide +kernel
theorem d3 : decode yB 3 = .ok (.aload_n 1, 1) := by decide +kernel
theorem d4 : decode yB 4 = .ok (.arraylength, 1) := by decide +kernel
theorem d5 : decode yB 5 = .ok (.aconst_null, 1) := by decide +kernel
theorem d6 : decode yB 6 = .ok (.invokespecial 27, 3) := by decide +kernel
theorem d9 : decode yB 9 = .ok (.return_, 1) := by decide +kernel
def site : List Cond := [New4.tab] ++ initW "java/lang/String" 27 New4.yN
def tab : Cond := tabOf yN yB 2 none site
def P (a : Addr) (D : Cell) (fV fC : Field) (b : Addr) (A : Cell) (z : Int32) (args : Array Value) (s : State) : Prop := args = #[.ref a, .ref b] ∧ Blank "java/lang/String" a D s ∧ Found "java/lang/String" "value" "[B" fV s ∧ Found "java/lang/String" "coder" "B" fC s ∧ Ch b A s ∧ StaticIs s "java/lang/String" "COMPACT_STRINGS" "Z" (.int z) ∧ ¬ z = 0 ∧ 0 < A.slots.size ∧ A.slots.size ≤ 536870912 ∧ ∀ i, i < A.slots.size → ¬ 255 < cv A i
def E (a : Addr) (D : Cell) (fV fC : Field) (A : Cell) (r : Option Value) (s u : State) : Prop := Got a D fV fC A 0 A.slots.size r s u
/-- new String(chars), not empty, no char above 255: a Latin-1 String of their low bytes -/
theorem law (l : Launch) (a : Addr) (D : Cell) (fV fC : Field) (b : Addr) (A : Cell) (z : Int32) : Law l yN 2 1 3 52 yB 2 none site (P a D fV fC b A z) (E a D fV fC A) [⟨a, fC.slot⟩, ⟨a, fV.slot⟩] 1 A.slots.size := by
  refine Law.of_walk (plainFor_of_name (by decide +kernel)) (by decide +kernel) (by decide +kernel) (by decide) (fun _ _ h => by rw [h.1]; rfl) (fun _ U U' hal hh h => ⟨h.1, h.2.1.mv hal hh, h.2.2.1.al hal, h.2.2.2.1.al hal, h.2.2.2.2.1.mv hal hh, h.2.2.2.2.2.1.there hal hh, h.2.2.2.2.2.2⟩) (fun r U U' V V' h1 hal h2 h => Got.mv r U U' V V' h1 hal h2 h) ?_
  intro p e s m args below meth c s₁ X0 hexec hbytes hml hret hlk hnm hown hh0 W hP
  obtain ⟨rfl, hB, f1, f2, hA, s1, hz, l0, l2, hp⟩ := hP
  have c1 : Steps p.tables e below (s₁.setTop (entryFrame m #[.ref a, .ref b] 2)) (s₁.setTop (mkF m 0 #[.val (.ref a), .val (.ref b)] [])) := entry rfl
  have c2 : Steps p.tables e below (s₁.setTop (entryFrame m #[.ref a, .ref b] 2)) (s₁.setTop (mkF m 6 #[.val (.ref a), .val (.ref b)] [.null, .int (Int32.ofNat A.slots.size), .int 0, .ref b, .ref a])) := c1.trans (by
    refine XS.aloadN X0.here hexec rfl (hb hbytes d0) rfl rfl ?_
    refine XS.aloadN X0.here hexec rfl (hb hbytes d1) rfl rfl ?_
    refine iconstV X0.here hexec rfl 0 (hb hbytes d2) (by decide) ?_
    refine XS.aloadN X0.here hexec rfl (hb hbytes d3) rfl rfl ?_
    refine X0.alen hexec (hA.1.mv X0.warmed.alike hh0) rfl rfl (hb hbytes d4) ?_
    refine XS.aconstNull X0.here hexec rfl (hb hbytes d5) ?_
    exact Steps.refl _)
  obtain ⟨v3, T3, X3, E3, g3⟩ := X0.callN hexec (New4.law l a D fV fC b A z 0 A.slots.size) rfl hown (wks W (initW "java/lang/String" 27 New4.yN)) (W New4.tab (by simp only [site, List.mem_cons, List.mem_append, true_or, or_true])) (W := 0) (Nat.le_of_ble_eq_true rfl) (Nat.le_of_ble_eq_true rfl) (Nat.le_refl _) (by show 0 + A.slots.size ≤ A.slots.size; omega) (g := (mkF m 6 #[.val (.ref a), .val (.ref b)] [.null, .int (Int32.ofNat A.slots.size), .int (Int32.ofNat 0), .ref b, .ref a])) rfl (by rw [hml]; rfl) c2 (argsL := [.ref b, .int (Int32.ofNat 0), .int (Int32.ofNat A.slots.size), .null]) (rest := []) rfl rfl (by show 2 * 0 + 0 ≤ _; decide) (hb hbytes d6) (⟨rfl, hB.mv X0.warmed.alike hh0, f1.al X0.warmed.alike, f2.al X0.warmed.alike, hA.mv X0.warmed.alike hh0, s1.there X0.warmed.alike hh0, hz, l0, by omega, l2, fun i hi => by rw [Nat.zero_add]; exact hp i hi⟩)
  have e0 := Got.mv _ s₁ s _ _ hh0.symm (Vm.Alike.refl _) rfl E3
  obtain rfl := e0.1
  have c4 : Steps p.tables e below (s₁.setTop (entryFrame m #[.ref a, .ref b] 2)) (T3.setTop (mkF m 9 #[.val (.ref a), .val (.ref b)] [])) := g3
  exact ⟨T3, none, _, _, _, X3, by simp, rfl, by omega, (fun _ => rfl), e0, fun fs hl => c4.trans (X3.returnOut hexec hret (hb hbytes d9) hl)⟩
theorem pays {l : Launch} {R : Room} {p : Program} {e : Env} {below : List Frame} {s : State} {sargs : Array Value} {len W : Nat} (a : Addr) (D : Cell) (fV fC : Field) (b : Addr) (A : Cell) (z : Int32) (htab : tab.before sargs s = true) (hfr : 4 ≤ R.frames) (hlo : W + 65 ≤ R.locals) :
    Back l R p e below s sargs yN len W (fun A₁ a₁ => A₁.cells + 1 ≤ R.cells ∧ A₁.slots + A.slots.size ≤ R.slots ∧ P a D fV fC b A z a₁ A₁.U) (fun A₁ _ v₁ B₁ => E a D fV fC A v₁ A₁.U B₁.U ∧ B₁.locs = A₁.locs ++ [⟨a, fC.slot⟩, ⟨a, fV.slot⟩] ∧ B₁.cells = A₁.cells + 1 ∧ B₁.slots = A₁.slots + A.slots.size) :=
  (law l a D fV fC b A z).pays htab hfr (by omega)
end New1
end StrChars
namespace StrChars.Road
open Jvm Sem ClassFile Op Lib Jvm.Stand Jvm.Free Jvm.Free.XT
open Jvm.Lib.Cold (StaticIs)
abbrev ST : String := "java/lang/String"
/-- every table word that New1's law asks, flat -/
abbrev words : List Jvm.Cond := [.code New1.yN New1.yB 2 none, .initialized ST, .methodLink ST 27 New4.yN, .instanceMethod New4.yN,
  .code New4.yN New4.yB 6 none, .fieldLink ST 38 ST "COMPACT_STRINGS" "Z", .laysFinal ST ST "value" "[B", .fieldLink ST 9 ST "value" "[B", .laysFinal ST ST "coder" "B", .fieldLink ST 15 ST "coder" "B",
  .methodLink ST 1 Lib.objectInit, .instanceMethod Lib.objectInit, .code Lib.objectInit ⟨#[0xb1]⟩ 1 none, .methodLink ST 177 Cmp3.yN, .static Cmp3.yN, .methodLink ST 47 CodL.yN, .static CodL.yN,
  .code Cmp3.yN Cmp3.yB 6 (some (.array .byte)), .initialized U16, .arrayClass .byte, .methodLink U16 115 Cmp5.yN, .static Cmp5.yN, .code Cmp5.yN Cmp5.yB 7 (some .int), .code CodL.yN CodL.yB 2 (some .byte)]
theorem tab_of {a : Array Value} {s : State} (h : ∀ w ∈ words, w.before a s = true) : New1.tab.before a s = true := by
  have h5 : Cmp5.tab.before a s = true := unparts (wk h (.code Cmp5.yN Cmp5.yB 7 (some .int))) (wks h (.initialized Cmp5.yN.cls :: Cmp5.site))
  have hc : CodL.tab.before a s = true := unparts (wk h (.code CodL.yN CodL.yB 2 (some .byte))) (wks h (.initialized CodL.yN.cls :: CodL.site))
  have q5 : ∀ w ∈ Cmp5.tab :: words, w.before a s = true := fun w hw => (List.mem_cons.mp hw).elim (fun e => e ▸ h5) (h w)
  have h3 : Cmp3.tab.before a s = true := unparts (wk q5 (.code Cmp3.yN Cmp3.yB 6 (some (.array .byte)))) (wks q5 (.initialized Cmp3.yN.cls :: Cmp3.site))
  have q3 : ∀ w ∈ Cmp3.tab :: CodL.tab :: words, w.before a s = true := fun w hw => (List.mem_cons.mp hw).elim (fun e => e ▸ h3) fun hw => (List.mem_cons.mp hw).elim (fun e => e ▸ hc) (h w)
  have h4 : New4.tab.before a s = true := unparts (wk q3 (.code New4.yN New4.yB 6 none)) (wks q3 (.initialized New4.yN.cls :: New4.site))
  have q4 : ∀ w ∈ New4.tab :: words, w.before a s = true := fun w hw => (List.mem_cons.mp hw).elim (fun e => e ▸ h4) (h w)
  exact unparts (wk q4 (.code New1.yN New1.yB 2 none)) (wks q4 (.initialized New1.yN.cls :: New1.site))
/-- the words ride from the start Z to the walk's own state -/
theorem moved {Z s : State} {a0 args : Array Value} (hZ : Z.Warmed39 s.vm) (hw : ∀ d ∈ words, d.before a0 Z = true) : ∀ d ∈ words, d.before args s = true := fun d hd => by
  have q := hw d hd
  have t : ∀ d ∈ words, d = .arrayClass .byte ∨ (d.onTables && d.keepsFace) = true := by decide +kernel
  rcases t d hd with rfl | t
  · exact RoadKit.mvA hZ q
  · exact RoadKit.mv hZ q t
/-- WHAT COMES BACK, over the tables of the start Z: h the heap at the call, h' behind it -/
def Q (Z : State) (x : Addr) (A : Cell) (h : Heap) (v : Option Value) (h' : Heap) (L : List Loc) : Prop := v = none ∧ (∀ y ∈ L, y.base = x) ∧ RoadKit.Keep h h' [x] ∧ h'.size = h.size + 1 ∧ RoadKit.Exa Z h' x ST ∧ RoadKit.Fld Z h' x ST "value" "[B" (.ref h.size) ∧ RoadKit.Fld Z h' x ST "coder" "B" (.int 0) ∧
  (∃ V : Cell, RoadKit.Arr Z h' h.size V .byte ∧ V.vm = .none ∧ Z.vm.findClass "[B" = some V.cls ∧ V.slots.size = A.slots.size ∧ ∀ j, j < A.slots.size → V.slots[j]? = some (.int (lo8 (cv A j)))) ∧
  ∀ (O n d : String) (w : Value), RoadKit.Fld Z h x O n d w → RoadKit.slotOf Z O n d ≠ RoadKit.slotOf Z ST "value" "[B" → RoadKit.slotOf Z O n d ≠ RoadKit.slotOf Z ST "coder" "B" → RoadKit.Fld Z h' x O n d w
/-- **new String(chars) AT A CALL, IN THE ROAD'S FORM**: for specialBack behind newO: x the fresh String, b the char[] with the cell A -/
theorem back {p : Program} {l : Launch} {e : Env} {R : Room} {s : State} {args : Array Value} {below : List Frame} {len W : Nat} {Z : State} {a0 : Array Value} {h : Heap} (hZ : Z.Warmed39 s.vm) (hw : ∀ d ∈ words, d.before a0 Z = true) {kI : Nat} (wi : (Jvm.Cond.instantiable ST kI).before a0 Z = true)
    {x b : Addr} {A : Cell} {z : Int32} {v0 c0 : Value} (E : RoadKit.Exa Z h x ST) (V : RoadKit.Fld Z h x ST "value" "[B" v0) (C : RoadKit.Fld Z h x ST "coder" "B" c0) (K : RoadKit.Arr Z h b A .char) (hty : Typed .char A) (S : RoadKit.Sta Z h ST "COMPACT_STRINGS" "Z" (.int z)) (hz : ¬ z = 0)
    (l0 : 0 < A.slots.size) (l2 : A.slots.size ≤ 536870912) (hp : ∀ i, i < A.slots.size → ¬ 255 < cv A i) (hfr : 4 ≤ R.frames) (hlo : W + 65 ≤ R.locals) :
    Back l R p e below s args New1.yN len W (fun P a => a = #[.ref x, .ref b] ∧ P.U.heap = h ∧ P.cells + 1 ≤ R.cells ∧ P.slots + A.slots.size ≤ R.slots)
      (fun P _ v B => ∃ L, Q Z x A h v B.U.heap L ∧ B.locs = P.locs ++ L ∧ B.cells = P.cells + 1 ∧ B.slots = P.slots + A.slots.size) := by
  intro m meth c P g ig mk a X hg hsize hdg hW hn hp'
  obtain ⟨rfl, rfl, r1, r2⟩ := hp'
  have al : Z.vm.Alike P.U.vm := hZ.alike.trans X.warmed.alike
  obtain ⟨D, cfV, kV, iV, fV, hD, gV, stV, knV, obV, asV, slV⟩ := id V
  obtain ⟨D', cfC, kC, iC, fC, hD', gC, stC, -, -, asC, slC⟩ := id C
  cases hD.symm.trans hD'
  obtain ⟨D2, kD, e1, e2, e3, e4, e5⟩ := id E
  cases hD.symm.trans e1
  obtain ⟨c2, k2, i1, i2, i3, -⟩ := Cond.instantiable_spec wi
  cases e2.symm.trans i1
  cases e3.symm.trans i2
  obtain ⟨kU, u1, u2⟩ := al.2.2 _ _ e3
  have hB : Blank ST x D P.U := ⟨hD, ⟨knV, fun q hq => by rw [hq] at obV; cases obV⟩, by rw [al.findClass]; exact e2, kU, u1, by rw [u2]; exact i3, by rw [u2]; exact e5 i3⟩
  have F1 : Found ST "value" "[B" fV P.U := ⟨SBG.found_only al ⟨cfV, kV, iV, gV⟩, stV⟩
  have F2 : Found ST "coder" "B" fC P.U := ⟨SBG.found_only al ⟨cfC, kC, iC, gC⟩, stC⟩
  have hA : Ch b A P.U := ⟨⟨K.1, State.isArrayOf_alike al K.2.1, K.2.2, by omega⟩, hty⟩
  have hS : StaticIs P.U ST "COMPACT_STRINGS" "Z" (.int z) := by
    obtain ⟨cfS, iS, kS, fS, st, cS, t1, t2, t3, t4, t5, t6, t7⟩ := S
    exact StaticIs.there (s := { Z with heap := P.U.heap }) ⟨cfS, iS, kS, fS, st, cS, t1, t2, t3, t4, t5, (fun q => by rw [q] at t6; cases t6), t7⟩ al rfl
  obtain ⟨v, B, X', ⟨⟨hv, E', V', q1, q2, q3, q4, q5, q6, q7, q8, q9, q10, q11⟩, hl, hc, hs⟩, st⟩ := New1.pays x D fV fC b A z (tab_of (moved hZ hw)) hfr hlo m meth c P g ig mk _ X hg hsize hdg hW hn ⟨r1, r2, rfl, hB, F1, F2, hA, hS, hz, l0, l2, hp⟩
  have al' : Z.vm.Alike B.U.vm := hZ.alike.trans X'.warmed.alike
  have hsz : E'.slots.size = D.slots.size := by
    obtain ⟨-, -, -, kB, w1, w2, w3⟩ := q1
    obtain ⟨kB', y1, y2⟩ := al'.2.2 _ _ e3
    rw [q2.2.1] at w1
    cases w1.symm.trans y1
    rw [w3, e5 i3, y2]
  refine ⟨v, B, X', ⟨_, ⟨hv, ?_, ⟨by omega, fun y cy hy hn' => q10 y cy (by simpa using hn') hy, fun y cy hy => ?_⟩, q11, ⟨E', _, q1.1, by rw [q2.2.1]; exact e2, by rw [q2.2.1]; exact e3, by rw [q2.1]; exact obV, fun _ => by rw [hsz]; exact e5 i3⟩,
    ⟨E', cfV, kV, iV, fV, q1.1, gV, stV, by rw [q2.1]; exact knV, by rw [q2.1]; exact obV, by rw [q2.2.1]; exact asV, q3⟩, ⟨E', cfC, kC, iC, fC, q1.1, gC, stC, by rw [q2.1]; exact knV, by rw [q2.1]; exact obV, by rw [q2.2.1]; exact asC, q4⟩,
    ⟨V', ⟨q5.1, State.isArrayOf_alike al'.symm q5.2.1, q5.2.2.1⟩, q6, by rw [← al'.findClass]; exact q7, q8, fun j hj => by have := q9 j hj; rwa [Nat.zero_add] at this⟩, fun O n d w F n1 n2 => ?_⟩, hl, hc, hs⟩, st⟩
  · intro y hy
    simp only [List.mem_cons, List.not_mem_nil, or_false] at hy
    rcases hy with rfl | rfl <;> rfl
  · by_cases q : y = x
    · subst q
      cases hD.symm.trans hy
      exact ⟨E', q1.1, q2.2.1, q2.1, hsz⟩
    · exact ⟨cy, q10 y cy q hy, rfl, rfl, rfl⟩
  · obtain ⟨D3, cf, k, i, f, g1, g2, g3, g4, g5, g6, g7⟩ := F
    cases hD.symm.trans g1
    simp only [RoadKit.slotOf, g2, gV, gC, Option.map_some, Option.getD_some] at n1 n2
    exact ⟨E', cf, k, i, f, q1.1, g2, g3, by rw [q2.1]; exact g4, by rw [q2.1]; exact g5, by rw [q2.2.1]; exact g6, by rw [q2.2.2 f.slot (by simp [n1, n2])]; exact g7⟩
end StrChars.Road
namespace StrChars.Road
open Jvm Sem ClassFile Op Lib Jvm.Stand Jvm.Free Jvm.Free.XT
/-- WHAT COMES BACK, the byte[] as a list of values -/
def QA (Z : State) (x : Addr) (zn : Int32) (cs : List Int32) (h : Heap) (v : Option Value) (h' : Heap) (L : List Loc) : Prop := v = none ∧ (∀ y ∈ L, y.base = x) ∧ RoadKit.Keep h h' [x] ∧ h'.size = h.size + 1 ∧ RoadKit.Exa Z h' x ST ∧ RoadKit.Fld Z h' x ST "value" "[B" (.ref h.size) ∧ RoadKit.Fld Z h' x ST "coder" "B" (.int 0) ∧
  (∃ kb, Z.vm.findClass "[B" = some kb ∧ RoadKit.Arv Z h' h.size kb .byte zn (cs.map fun c => .int (lo8 c)) (.int 0)) ∧
  ∀ (O n d : String) (w : Value), RoadKit.Fld Z h x O n d w → RoadKit.slotOf Z O n d ≠ RoadKit.slotOf Z ST "value" "[B" → RoadKit.slotOf Z O n d ≠ RoadKit.slotOf Z ST "coder" "B" → RoadKit.Fld Z h' x O n d w
/-- **new String(chars) AT A CALL, THE ARRAYS AS LISTS**: the char[] at b holds cs, not empty, no char above 255 -/
theorem backArv {p : Program} {l : Launch} {e : Env} {R : Room} {s : State} {args : Array Value} {below : List Frame} {len W : Nat} {Z : State} {a0 : Array Value} {h : Heap} (hZ : Z.Warmed39 s.vm) (hw : ∀ d ∈ words, d.before a0 Z = true) {kI : Nat} (wi : (Jvm.Cond.instantiable ST kI).before a0 Z = true)
    {x b : Addr} {k : ClassId} {zn z : Int32} {cs : List Int32} {dv v0 c0 : Value} (E : RoadKit.Exa Z h x ST) (V : RoadKit.Fld Z h x ST "value" "[B" v0) (C : RoadKit.Fld Z h x ST "coder" "B" c0) (K : RoadKit.Arv Z h b k .char zn (cs.map Value.int) dv) (S : RoadKit.Sta Z h ST "COMPACT_STRINGS" "Z" (.int z)) (hz : ¬ z = 0)
    (hlen : zn.toNatClampNeg = cs.length) (h0 : 0 < cs.length) (hbig : cs.length ≤ 536870912) (hall : ∀ c ∈ cs, ¬ 255 < c) (hfr : 4 ≤ R.frames) (hlo : W + 65 ≤ R.locals) :
    Back l R p e below s args New1.yN len W (fun P a => a = #[.ref x, .ref b] ∧ P.U.heap = h ∧ P.cells + 1 ≤ R.cells ∧ P.slots + cs.length ≤ R.slots)
      (fun P _ v B => ∃ L, QA Z x zn cs h v B.U.heap L ∧ B.locs = P.locs ++ L ∧ B.cells = P.cells + 1 ∧ B.slots = P.slots + cs.length) := by
  obtain ⟨A, K1, K2, K3, K4, K5, K6⟩ := K
  have e : A.slots.size = cs.length := K3.trans hlen
  have hat : ∀ (i : Nat) (hi : i < cs.length), A.slots[i]? = some (.int cs[i]) := fun i hi => by rw [K5 i (by omega)]; simp [List.getD_eq_getElem?_getD, hi]
  have hcv : ∀ (i : Nat) (hi : i < cs.length), cv A i = cs[i] := fun i hi => by unfold cv; rw [hat i hi]
  have hty : Typed .char A := fun i v hv => by
    have hi : i < A.slots.size := (Array.getElem?_eq_some_iff.mp hv).1
    have q := K5 i hi
    rw [hv] at q
    rw [Option.some.inj q]
    exact K6 i hi
  refine Back.mono (back hZ hw wi E V C K1 hty S hz (by omega) (by omega) (fun i hi => by rw [hcv i (by omega)]; exact hall _ (List.getElem_mem _)) hfr hlo) (fun P a hp => ⟨hp.1, hp.2.1, hp.2.2.1, by rw [e]; exact hp.2.2.2⟩) (fun P a v B hp hq => ?_)
  obtain ⟨L, ⟨q1, q2, q3, q4, q5, q6, q7, ⟨V', v1, v2, v3, v4, v5⟩, q9⟩, hl, hc, hs⟩ := hq
  refine ⟨L, ⟨q1, q2, q3, q4, q5, q6, q7, ⟨V'.cls, v3, V', v1, rfl, by rw [v4, e, hlen], K4, fun i hi => ?_, fun i hi => ?_⟩, q9⟩, hl, hc, by rw [hs, e]⟩
  · have hi' : i < cs.length := by omega
    rw [v5 i (by omega), hcv i hi']; simp [List.getD_eq_getElem?_getD, hi']
  · have hi' : i < cs.length := by omega
    simp only [List.getD_eq_getElem?_getD, List.getElem?_map, List.getElem?_eq_getElem hi', Option.map_some, Option.getD_some]
    exact fits_lo8 _
end StrChars.Road
namespace StrChars.Road
open Jvm Sem ClassFile Op Lib Jvm.Stand Jvm.Free Jvm.Free.XT
/-- WHAT COMES BACK, in the writer's own shape -/
def QV (Z : State) (x : Addr) (N : Int32) (bs : List Int32) (h : Heap) (n0 : Nat) (v : Option Value) (h' : Heap) (L : List Loc) : Prop := v = none ∧ RoadKit.Fr n0 L ∧ RoadKit.Keep h h' [x] ∧ RoadKit.Exa Z h' x ST ∧ RoadKit.Fld Z h' x ST "coder" "B" (.int 0) ∧
  ∃ (t : Addr) (kb : ClassId), n0 ≤ t ∧ h.size ≤ t ∧ ¬ t = x ∧ RoadKit.Fld Z h' x ST "value" "[B" (.ref t) ∧ RoadKit.Arv Z h' t kb .byte N (bs.map Value.int) (.int 0)
/-- **new String(chars) AT A CALL, FOR THE WRITER**: a char[] of n known ints, each 0 to 255 -/
theorem backV {p : Program} {l : Launch} {e : Env} {R : Room} {s : State} {args : Array Value} {below : List Frame} {len W : Nat} {Z : State} {a0 : Array Value} {h : Heap} (hZ : Z.Warmed39 s.vm) (hw : ∀ d ∈ words, d.before a0 Z = true) {kI : Nat} (wi : (Jvm.Cond.instantiable ST kI).before a0 Z = true)
    {x b : Addr} {kC : ClassId} {cs bs : List Int32} {d v0 c0 : Value} {z N : Int32} {n n0 : Nat} (hx0 : n0 ≤ x) (hh0 : n0 ≤ h.size) (E : RoadKit.Exa Z h x ST) (V : RoadKit.Fld Z h x ST "value" "[B" v0) (C : RoadKit.Fld Z h x ST "coder" "B" c0) (K : RoadKit.Arv Z h b kC .char N (cs.map Value.int) d) (S : RoadKit.Sta Z h ST "COMPACT_STRINGS" "Z" (.int z)) (hz : ¬ z = 0)
    (hn : cs.length = n) (hN : N = Int32.ofNat n) (l0 : 0 < n) (l2 : n ≤ 4000) (hp : ∀ c ∈ cs, ¬ c < 0 ∧ ¬ (255 : Int32) < c) (hb : bs = cs.map (fun c => c.toInt8.toInt32)) (hfr : 4 ≤ R.frames) (hlo : W + 65 ≤ R.locals) :
    Back l R p e below s args (⟨"java/lang/String", "<init>", "([C)V"⟩ : MethodName) len W (fun P a => a = #[.ref x, .ref b] ∧ P.U.heap = h ∧ P.cells + 1 ≤ R.cells ∧ P.slots + n ≤ R.slots)
      (fun P _ v B => ∃ L, QV Z x N bs h n0 v B.U.heap L ∧ B.locs = P.locs ++ L ∧ B.cells = P.cells + 1 ∧ B.slots = P.slots + n) := by
  subst hn hN hb
  refine Back.mono (backArv hZ hw wi E V C K S hz (n32 (by omega)) l0 (by omega) (fun c hc => (hp c hc).2) hfr hlo) (fun P a hp => hp) (fun P a v B hp hq => ?_)
  obtain ⟨L, ⟨q1, q2, q3, q4, q5, q6, q7, ⟨kb, v1, v2⟩, q9⟩, hl, hc, hs⟩ := hq
  exact ⟨L, ⟨q1, fun y hy => by rw [q2 y hy]; exact hx0, q3, q5, q7, h.size, kb, hh0, Nat.le_refl _, Nat.ne_of_gt E.lt, q6, by rw [List.map_map]; exact v2⟩, hl, hc, hs⟩
end StrChars.Road
namespace StrChars
open Jvm Sem ClassFile Op Lib Jvm.Stand Jvm.Free.XT Jvm.Free.ALB Jvm.Free.JM Jvm.Free
open Jvm.Lib.Cold (StaticIs)
def hi8 (x : Int32) : Int32 := lo8 (x >>> ((8 : Int32) &&& 31))
/-- what StringUTF16.getChar makes of two bytes -/
def pairCh (u v : Int32) : Int32 := (((u &&& 255) <<< ((0 : Int32) &&& 31)) ||| ((v &&& 255) <<< ((8 : Int32) &&& 31))).toUInt32.toUInt16.toUInt32.toInt32
theorem shr0 (c : Int32) : c >>> ((0 : Int32) &&& 31) = c := by
  have e : ((0 : Int32) &&& 31) = 0 := by decide
  rw [e]
  apply Int32.toBitVec_inj.mp
  rw [Int32.toBitVec_shiftRight]
  have e1 : ((0 : Int32).toBitVec.smod 32) = 0#32 := by decide
  rw [e1, BitVec.sshiftRight_eq']
  exact BitVec.sshiftRight_zero
theorem lo8_and (x : Int32) : (lo8 x &&& 255).toBitVec.toNat = x.toBitVec.toNat % 256 := by
  have h : (lo8 x).toBitVec = (x.toBitVec.signExtend 8).signExtend 32 := by rw [lo8, Int8.toBitVec_toInt32, Int32.toBitVec_toInt8]
  rw [Int32.toBitVec_and, BitVec.toNat_and, h]
  have e : ((x.toBitVec.signExtend 8).signExtend 32).toNat % 256 = x.toBitVec.toNat % 256 := by
    rw [BitVec.toNat_signExtend]
    have hlt := x.toBitVec.isLt
    simp only [BitVec.toNat_setWidth, BitVec.toNat_signExtend]
    split <;> split <;> omega
  rw [← e]
  exact Nat.and_two_pow_sub_one_eq_mod _ 8
theorem pair_says {c : Int32} (h0 : ¬ c < 0) (h1 : ¬ 65535 < c) : pairCh (lo8 c) (hi8 c) = c := by
  rw [Int32.lt_iff_toInt_lt] at h0 h1
  have e0 : (0 : Int32).toInt = 0 := rfl
  have e1 : (65535 : Int32).toInt = 65535 := rfl
  have hc : c.toInt = c.toBitVec.toNat := by
    have := c.toBitVec.isLt
    have e : c.toInt = c.toBitVec.toInt := rfl
    rw [e] at h0 h1
    rw [e]
    rw [BitVec.toInt_eq_toNat_cond] at h0 h1 ⊢
    split at h0 <;> split <;> omega
  have hn : c.toBitVec.toNat < 65536 := by omega
  have a1 := lo8_and c
  have a2 : (hi8 c &&& 255).toBitVec.toNat = c.toBitVec.toNat / 256 := by
    rw [hi8, lo8_and]
    have e : ((8 : Int32) &&& 31) = 8 := by decide
    rw [e, Int32.toBitVec_shiftRight]
    have e2 : ((8 : Int32).toBitVec.smod 32) = 8#32 := by decide
    rw [e2, BitVec.sshiftRight_eq', BitVec.toNat_sshiftRight_of_msb_false (by rw [BitVec.msb_eq_false_iff_two_mul_lt]; omega)]
    show c.toBitVec.toNat >>> 8 % 256 = _
    rw [Nat.shiftRight_eq_div_pow]
    omega
  unfold pairCh
  apply Int32.toBitVec_inj.mp
  apply BitVec.eq_of_toNat_eq
  have f0 : ((0 : Int32) &&& 31) = 0 := by decide
  have f8 : ((8 : Int32) &&& 31) = 8 := by decide
  rw [f0, f8]
  have g : (((lo8 c &&& 255) <<< (0 : Int32)) ||| ((hi8 c &&& 255) <<< (8 : Int32))).toBitVec.toNat = c.toBitVec.toNat := by
    rw [Int32.toBitVec_or, Int32.toBitVec_shiftLeft, Int32.toBitVec_shiftLeft]
    have s0 : ((0 : Int32).toBitVec.smod 32) = 0#32 := by decide
    have s8 : ((8 : Int32).toBitVec.smod 32) = 8#32 := by decide
    rw [s0, s8, BitVec.toNat_or]
    simp only [BitVec.shiftLeft_eq', BitVec.toNat_shiftLeft, a1, a2]
    show (c.toBitVec.toNat % 256) <<< 0 % 2 ^ 32 ||| (c.toBitVec.toNat / 256) <<< 8 % 2 ^ 32 = _
    rw [Nat.shiftLeft_zero, Nat.mod_eq_of_lt (show c.toBitVec.toNat % 256 < 2 ^ 32 by omega), Nat.mod_eq_of_lt (show (c.toBitVec.toNat / 256) <<< 8 < 2 ^ 32 by rw [Nat.shiftLeft_eq]; omega), Nat.or_comm, ← Nat.shiftLeft_add_eq_or_of_lt (by omega), Nat.shiftLeft_eq]
    omega
  show BitVec.toNat (((((lo8 c &&& 255) <<< (0 : Int32)) ||| ((hi8 c &&& 255) <<< (8 : Int32))).toBitVec.setWidth 16).setWidth 32) = _
  rw [BitVec.toNat_setWidth, BitVec.toNat_setWidth, g]
  omega
end StrChars
namespace StrChars
open Jvm Sem ClassFile Op Lib Jvm.Stand Jvm.Free.XT Jvm.Free.ALB Jvm.Free.JM Jvm.Free
open Jvm.Lib.Cold (StaticIs)
theorem shr1 {n : Nat} (h : 2 * n < 2 ^ 31) : Int32.ofNat (2 * n) >>> ((1 : Int32) &&& 31) = Int32.ofNat n := by
  have e : ((1 : Int32) &&& 31) = 1 := by decide
  rw [e]
  apply Int32.toBitVec_inj.mp
  rw [Int32.toBitVec_shiftRight]
  have e1 : ((1 : Int32).toBitVec.smod 32) = 1#32 := by decide
  have hm : (BitVec.ofNat 32 (2 * n)).toNat = 2 * n := by rw [BitVec.toNat_ofNat, Nat.mod_eq_of_lt (by omega)]
  rw [e1, BitVec.sshiftRight_eq']
  apply BitVec.eq_of_toNat_eq
  show ((BitVec.ofNat 32 (2 * n)).sshiftRight 1).toNat = (BitVec.ofNat 32 n).toNat
  rw [BitVec.toNat_sshiftRight_of_msb_false (by rw [BitVec.msb_eq_false_iff_two_mul_lt, hm]; omega), hm, BitVec.toNat_ofNat, Nat.shiftRight_eq_div_pow]
  omega
theorem narrow_ch {c : Int32} (h0 : ¬ c < 0) (h1 : ¬ 65535 < c) : narrow .char (.int c) = .int c := by
  have q : narrow .char (.int (pairCh (lo8 c) (hi8 c))) = .int (pairCh (lo8 c) (hi8 c)) := narrow_c _
  rwa [pair_says h0 h1] at q
/-- the array's cell V codes the n chars f 0 .. f (n - 1) by the coder cd, as the JDK does: coder 1 just where some char is above 255 -/
def Cod (cd : Int32) (n : Nat) (f : Nat → Int32) (V : Cell) : Prop := (cd = 0 ∧ V.slots.size = n ∧ ∀ j, j < n → V.slots[j]? = some (.int (lo8 (f j))) ∧ ¬ 255 < f j) ∨ (cd = 1 ∧ V.slots.size = 2 * n ∧ (∀ j, j < n → V.slots[2 * j]? = some (.int (lo8 (f j))) ∧ V.slots[2 * j + 1]? = some (.int (hi8 (f j)))) ∧ ∃ j, j < n ∧ 255 < f j)
theorem Cod.cd {cd : Int32} {n : Nat} {f : Nat → Int32} {V : Cell} (h : Cod cd n f V) : cd = 0 ∨ cd = 1 := h.imp (fun q => q.1) fun q => q.1
theorem Cod.len {cd : Int32} {n : Nat} {f : Nat → Int32} {V : Cell} (h : Cod cd n f V) (hs : V.slots.size < 2 ^ 31) : Int32.ofNat V.slots.size >>> (cd &&& 31) = Int32.ofNat n := by
  rcases h with ⟨rfl, h, -⟩ | ⟨rfl, h, -⟩
  · rw [shr0, h]
  · rw [h, shr1 (by omega)]
/-- **x is a String of the n chars f 0 .. f (n - 1)**, Latin-1 or UTF-16; its array at t has the cell V -/
def Txt (x t : Addr) (V : Cell) (cd : Int32) (n : Nat) (f : Nat → Int32) (U : State) : Prop := Exact "java/lang/String" x U ∧ Has x "java/lang/String" "value" "[B" (.ref t) U ∧ Has x "java/lang/String" "coder" "B" (.int cd) U ∧ XT.Arr .byte t V U ∧ Cod cd n f V ∧ ∀ j, j < n → ¬ f j < 0 ∧ ¬ 65535 < f j
theorem Txt.mv {x t : Addr} {V : Cell} {cd : Int32} {n : Nat} {f : Nat → Int32} {U U' : State} (h : Txt x t V cd n f U) (hal : U.vm.Alike U'.vm) (hh : U'.heap = U.heap) : Txt x t V cd n f U' := ⟨h.1.mv hal hh, h.2.1.mv hal hh, h.2.2.1.mv hal hh, h.2.2.2.1.mv hal hh, h.2.2.2.2⟩
namespace Cdr
def yN : MethodName := ⟨"java/lang/String", "coder", "()B"⟩
abbrev yB : ByteArray := jdk_42_method_152_code
theorem d0 : decode yB 0 = .ok (.getstatic 38, 3) := by decide +kernel
theorem d3 : decode yB 3 = .ok (.ifCond (.eq) 10, 3) := by decide +kernel
theorem d6 : decode yB 6 = .ok (.aload_n 0, 1) := by decide +kernel
theorem d7 : decode yB 7 = .ok (.getfield 15, 3) := by decide +kernel
theorem d10 : decode yB 10 = .ok (.goto 4, 3) := by decide +kernel
theorem d14 : decode yB 14 = .ok (.ireturn, 1) := by decide +kernel
def site : List Cond := [.fieldLink "java/lang/String" 38 "java/lang/String" "COMPACT_STRINGS" "Z", .fieldLink "java/lang/String" 15 "java/lang/String" "coder" "B"]
def tab : Cond := tabOf yN yB 1 (some .byte) site
def P (x : Addr) (cd z : Int32) (args : Array Value) (s : State) : Prop := args = #[.ref x] ∧ Has x "java/lang/String" "coder" "B" (.int cd) s ∧ (cd = 0 ∨ cd = 1) ∧ StaticIs s "java/lang/String" "COMPACT_STRINGS" "Z" (.int z) ∧ ¬ z = 0
def E (cd : Int32) (r : Option Value) (s u : State) : Prop := XT.PureE (some (.int cd)) r s u
theorem law (l : Launch) (x : Addr) (cd z : Int32) : Law l yN 1 0 0 0 yB 1 (some .byte) site (P x cd z) (E cd) [] 0 0 := by
  refine Law.of_walk (plainFor_of_name (by decide +kernel)) (by decide +kernel) (by decide +kernel) (by decide) (fun _ _ h => by rw [h.1]; rfl) (fun _ U U' hal hh h => ⟨h.1, h.2.1.mv hal hh, h.2.2.1, h.2.2.2.1.there hal hh, h.2.2.2.2⟩) (fun r U U' V V' h1 hal h2 h => XT.PureE.mv r U U' V V' h1 hal h2 h) ?_
  intro p e s m args below meth c s₁ X0 hexec hbytes hml hret hlk hnm hown hh0 W hP
  obtain ⟨rfl, hx, hc, s1, hz⟩ := hP
  have c1 : Steps p.tables e below (s₁.setTop (entryFrame m #[.ref x] 1)) (s₁.setTop (mkF m 0 #[.val (.ref x)] [])) := entry rfl
  obtain ⟨T2, X2, q2, st2⟩ := X0.sget hexec hown (wk W (.fieldLink "java/lang/String" 38 "java/lang/String" "COMPACT_STRINGS" "Z")) s1 (fun _ _ h => by rw [hh0]; exact h) (g := (mkF m 0 #[.val (.ref x)] [])) rfl (hb hbytes d0)
  have hh2 := q2.trans hh0
  have c3 : Steps p.tables e below (s₁.setTop (entryFrame m #[.ref x] 1)) (T2.setTop (mkF m 7 #[.val (.ref x)] [.ref x])) := (c1.trans (st2 _ (Steps.refl _))).trans (by
    refine XS.ifNo X2.here hexec rfl (hb hbytes d3) rfl (i0_eq_f hz) ?_
    refine XS.aloadN X2.here hexec rfl (hb hbytes d6) rfl rfl ?_
    exact Steps.refl _)
  obtain ⟨T4, X4, q4, st4⟩ := X2.hget hexec hown (wk W (.fieldLink "java/lang/String" 15 "java/lang/String" "coder" "B")) (hx.mv X2.warmed.alike hh2) (g := (mkF m 7 #[.val (.ref x)] [.ref x])) rfl (rest := []) rfl (hb hbytes d7)
  have c5 : Steps p.tables e below (s₁.setTop (entryFrame m #[.ref x] 1)) (T4.setTop (mkF m 14 #[.val (.ref x)] [.int cd])) := (c3.trans (st4 _ (Steps.refl _))).trans (by
    refine XS.goto X4.here hexec rfl (pc0 := 10) rfl (hb hbytes d10) (by decide) rfl ?_
    exact Steps.refl _)
  exact ⟨T4, some (.int cd), _, _, _, X4, rfl, rfl, rfl, (fun h => by cases h), ⟨rfl, q4.trans hh2⟩, fun fs hl => c5.trans (X4.ireturnOut hexec hret (by rcases hc with rfl | rfl <;> rfl) (Or.inr (Or.inr (Or.inl rfl))) (hb hbytes d14) hl)⟩
end Cdr
namespace Len
def yN : MethodName := ⟨"java/lang/String", "length", "()I"⟩
abbrev yB : ByteArray := jdk_42_method_54_code
theorem d0 : decode yB 0 = .ok (.aload_n 0, 1) := by decide +kernel
theorem d1 : decode yB 1 = .ok (.getfield 9, 3) := by decide +kernel
theorem d4 : decode yB 4 = .ok (.arraylength, 1) := by decide +kernel
theorem d5 : decode yB 5 = .ok (.aload_n 0, 1) := by decide +kernel
theorem d6 : decode yB 6 = .ok (.invokevirtual 335, 3) := by decide +kernel
theorem d9 : decode yB 9 = .ok (.ishr, 1) := by decide +kernel
theorem d10 : decode yB 10 = .ok (.ireturn, 1) := by decide +kernel
def site : List Cond := [.fieldLink "java/lang/String" 9 "java/lang/String" "value" "[B", Cdr.tab] ++ virtW "java/lang/String" 335 "java/lang/String" Cdr.yN Cdr.yN
def tab : Cond := tabOf yN yB 1 (some .int) site
def P (x t : Addr) (V : Cell) (cd : Int32) (n : Nat) (f : Nat → Int32) (z : Int32) (args : Array Value) (s : State) : Prop := args = #[.ref x] ∧ Txt x t V cd n f s ∧ StaticIs s "java/lang/String" "COMPACT_STRINGS" "Z" (.int z) ∧ ¬ z = 0
def E (n : Nat) (r : Option Value) (s u : State) : Prop := XT.PureE (some (.int (Int32.ofNat n))) r s u
/-- length() of a String of n chars, in either coding -/
theorem law (l : Launch) (x t : Addr) (V : Cell) (cd : Int32) (n : Nat) (f : Nat → Int32) (z : Int32) : Law l yN 1 0 1 13 yB 1 (some .int) site (P x t V cd n f z) (E n) [] 0 0 := by
  refine Law.of_walk (plainFor_of_name (by decide +kernel)) (by decide +kernel) (by decide +kernel) (by decide) (fun _ _ h => by rw [h.1]; rfl) (fun _ U U' hal hh h => ⟨h.1, h.2.1.mv hal hh, h.2.2.1.there hal hh, h.2.2.2⟩) (fun r U U' V V' h1 hal h2 h => XT.PureE.mv r U U' V V' h1 hal h2 h) ?_
  intro p e s m args below meth c s₁ X0 hexec hbytes hml hret hlk hnm hown hh0 W hP
  obtain ⟨rfl, hx, s1, hz⟩ := hP
  have v31 := hx.2.2.2.1.2.2.2
  have c1 : Steps p.tables e below (s₁.setTop (entryFrame m #[.ref x] 1)) (s₁.setTop (mkF m 1 #[.val (.ref x)] [.ref x])) := Steps.trans (entry rfl) (by
    show Steps p.tables e below (s₁.setTop (mkF m 0 #[.val (.ref x)] [])) _
    refine XS.aloadN X0.here hexec rfl (hb hbytes d0) rfl rfl ?_
    exact Steps.refl _)
  obtain ⟨T2, X2, q2, st2⟩ := X0.hget hexec hown (wk W (.fieldLink "java/lang/String" 9 "java/lang/String" "value" "[B")) (hx.mv X0.warmed.alike hh0).2.1 (g := (mkF m 1 #[.val (.ref x)] [.ref x])) rfl (rest := []) rfl (hb hbytes d1)
  have hh2 := q2.trans hh0
  have hx2 := hx.mv X2.warmed.alike hh2
  have c3 : Steps p.tables e below (s₁.setTop (entryFrame m #[.ref x] 1)) (T2.setTop (mkF m 6 #[.val (.ref x)] [.ref x, .int (Int32.ofNat V.slots.size)])) := (c1.trans (st2 _ (Steps.refl _))).trans (by
    refine X2.alen hexec hx2.2.2.2.1 rfl rfl (hb hbytes d4) ?_
    refine XS.aloadN X2.here hexec rfl (hb hbytes d5) rfl rfl ?_
    exact Steps.refl _)
  obtain ⟨v4, T4, X4, E4, g4⟩ := X2.callV hexec (Cdr.law l x cd z) hown (wks W (virtW "java/lang/String" 335 "java/lang/String" Cdr.yN Cdr.yN)) rfl (by decide) (wk W Cdr.tab) (W := 1) (Nat.le_of_ble_eq_true rfl) (Nat.le_of_ble_eq_true rfl) (Nat.le_refl _) (Nat.le_refl _) (hx2.1.fc X2.warmed.alike) hx2.1.is (g := (mkF m 6 #[.val (.ref x)] [.ref x, .int (Int32.ofNat V.slots.size)])) rfl (by rw [hml]; rfl) c3 (argsL := []) (rest := [.int (Int32.ofNat V.slots.size)]) rfl rfl (by show 2 * 0 + (1 + 0) ≤ _; decide) (hb hbytes d6) (⟨rfl, hx2.2.2.1, hx.2.2.2.2.1.cd, s1.there X2.warmed.alike hh2, hz⟩)
  obtain ⟨rfl, q4⟩ := E4
  have c5 : Steps p.tables e below (s₁.setTop (entryFrame m #[.ref x] 1)) (T4.setTop (mkF m 10 #[.val (.ref x)] [.int (Int32.ofNat V.slots.size >>> (cd &&& 31))])) := Steps.trans g4 (by
    refine ishr X4.here hexec rfl (hb hbytes d9) rfl ?_
    exact Steps.refl _)
  rw [hx.2.2.2.2.1.len v31] at c5
  exact ⟨T4, some (.int (Int32.ofNat n)), _, _, _, X4, rfl, rfl, rfl, (fun h => by cases h), ⟨rfl, q4.trans hh2⟩, fun fs hl => c5.trans (X4.ireturnOut hexec hret rfl (Or.inl rfl) (hb hbytes d10) hl)⟩
theorem pays {l : Launch} {R : Room} {p : Program} {e : Env} {below : List Frame} {s : State} {sargs : Array Value} {len W : Nat} (x t : Addr) (V : Cell) (cd : Int32) (n : Nat) (f : Nat → Int32) (z : Int32) (htab : tab.before sargs s = true) (hfr : 2 ≤ R.frames) (hlo : W + 25 ≤ R.locals) :
    Back l R p e below s sargs yN len W (fun A₁ a₁ => A₁.cells + 0 ≤ R.cells ∧ A₁.slots + 0 ≤ R.slots ∧ P x t V cd n f z a₁ A₁.U) (fun A₁ _ v₁ B₁ => E n v₁ A₁.U B₁.U ∧ B₁.locs = A₁.locs ++ [] ∧ B₁.cells = A₁.cells + 0 ∧ B₁.slots = A₁.slots + 0) :=
  (law l x t V cd n f z).pays htab hfr (by omega)
end Len
end StrChars
namespace StrChars.Road
open Jvm Sem ClassFile Op Lib Jvm.Stand Jvm.Free Jvm.Free.XT
open Jvm.Lib.Cold (StaticIs)
theorem consq {a : Array Value} {s : State} {c : Jvm.Cond} {L : List Jvm.Cond} (h0 : c.before a s = true) (h : ∀ w ∈ L, w.before a s = true) : ∀ w ∈ c :: L, w.before a s = true := fun w hw => (List.mem_cons.mp hw).elim (fun e => e ▸ h0) (h w)
/-- the words of String.length(), either coding -/
abbrev wordsLen : List Jvm.Cond := [.code Len.yN Len.yB 1 (some .int), .initialized ST, .fieldLink ST 9 ST "value" "[B", .fieldLink ST 38 ST "COMPACT_STRINGS" "Z", .fieldLink ST 15 ST "coder" "B", .code Cdr.yN Cdr.yB 1 (some .byte), .methodLink ST 335 Cdr.yN, .declares Cdr.yN, .selects ST Cdr.yN Cdr.yN, .instanceMethod Cdr.yN]
theorem tabLen_of {a : Array Value} {s : State} (h : ∀ w ∈ wordsLen, w.before a s = true) : Len.tab.before a s = true := by
  have hc : Cdr.tab.before a s = true := unparts (wk h (.code Cdr.yN Cdr.yB 1 (some .byte))) (wks h (.initialized Cdr.yN.cls :: Cdr.site))
  have q := consq hc h
  exact unparts (wk q (.code Len.yN Len.yB 1 (some .int))) (wks q (.initialized Len.yN.cls :: Len.site))
theorem movedLen {Z s : State} {a0 args : Array Value} (hZ : Z.Warmed39 s.vm) (hw : ∀ d ∈ wordsLen, d.before a0 Z = true) : ∀ d ∈ wordsLen, d.before args s = true := fun d hd => by
  have q := hw d hd
  have t : ∀ d ∈ wordsLen, d = .arrayClass .byte ∨ (d.onTables && d.keepsFace) = true := by decide +kernel
  rcases t d hd with rfl | t
  · exact RoadKit.mvA hZ q
  · exact RoadKit.mv hZ q t
/-- the bytes of the chars cs, low before high -/
def wideBytes : List Int32 → List Value
  | [] => []
  | c :: cs => .int (lo8 c) :: .int (hi8 c) :: wideBytes cs
theorem wide_lo (d : Value) : ∀ (cs : List Int32) (j : Nat), j < cs.length → (wideBytes cs).getD (2 * j) d = .int (lo8 (cs.getD j 0))
  | [], j, h => absurd h (Nat.not_lt_zero j)
  | c :: cs, 0, _ => rfl
  | c :: cs, j + 1, h => by
    have q := wide_lo d cs j (by simpa using h)
    rw [show 2 * (j + 1) = 2 * j + 1 + 1 from by omega]
    simpa [wideBytes] using q
theorem wide_hi (d : Value) : ∀ (cs : List Int32) (j : Nat), j < cs.length → (wideBytes cs).getD (2 * j + 1) d = .int (hi8 (cs.getD j 0))
  | [], j, h => absurd h (Nat.not_lt_zero j)
  | c :: cs, 0, _ => rfl
  | c :: cs, j + 1, h => by
    have q := wide_hi d cs j (by simpa using h)
    rw [show 2 * (j + 1) + 1 = 2 * j + 1 + 1 + 1 from by omega]
    simpa [wideBytes] using q
theorem low_at (d : Value) (cs : List Int32) (j : Nat) (h : j < cs.length) : (cs.map fun c => Value.int (lo8 c)).getD j d = .int (lo8 (cs.getD j 0)) := by
  simp [List.getD_eq_getElem?_getD, h]
/-- an array of N2 bytes vs codes the chars cs by the coder cd -/
def CodA (cs : List Int32) (cd N2 : Int32) (vs : List Value) : Prop := (cd = 0 ∧ N2 = Int32.ofNat cs.length ∧ vs = (cs.map fun c => Value.int (lo8 c)) ∧ ∀ c ∈ cs, ¬ 255 < c) ∨ (cd = 1 ∧ N2 = Int32.ofNat (2 * cs.length) ∧ vs = wideBytes cs ∧ ∃ c ∈ cs, 255 < c)
theorem CodA.cod {cs : List Int32} {cd N2 : Int32} {vs : List Value} {V : Cell} (h : CodA cs cd N2 vs) (hn : 2 * cs.length < 2 ^ 31) (hs : V.slots.size = N2.toNatClampNeg) (hv : RoadKit.Has V vs (.int 0)) : Cod cd cs.length (fun j => cs.getD j 0) V := by
  rcases h with ⟨rfl, rfl, rfl, h⟩ | ⟨rfl, rfl, rfl, c, hc, hw⟩
  · rw [n32 (by omega)] at hs
    exact Or.inl ⟨rfl, hs, fun j hj => ⟨by rw [hv j (by omega), low_at _ _ _ hj], by
      have e : cs.getD j 0 = cs[j] := by simp [List.getD_eq_getElem?_getD, hj]
      show ¬ 255 < cs.getD j 0
      rw [e]; exact h _ (List.getElem_mem _)⟩⟩
  · rw [n32 (by omega)] at hs
    obtain ⟨j, hj, rfl⟩ := List.getElem_of_mem hc
    exact Or.inr ⟨rfl, hs, fun j hj => ⟨by rw [hv _ (by omega), wide_lo _ _ _ hj], by rw [hv _ (by omega), wide_hi _ _ _ hj]⟩, j, hj, by
      have e : cs.getD j 0 = cs[j] := by simp [List.getD_eq_getElem?_getD, hj]
      show 255 < cs.getD j 0
      rw [e]; exact hw⟩
/-- an object of exactly java/lang/String, its two fields found: as the laws ask it -/
theorem strObj {Z U : State} {a0 : Array Value} {kI : Nat} (wi : (Jvm.Cond.instantiable ST kI).before a0 Z = true) (al : Z.vm.Alike U.vm) {x : Addr} {v0 c0 : Value} (E : RoadKit.Exa Z U.heap x ST) (V : RoadKit.Fld Z U.heap x ST "value" "[B" v0) (C : RoadKit.Fld Z U.heap x ST "coder" "B" c0) :
    ∃ (D : Cell) (fV fC : Field), Blank ST x D U ∧ Found ST "value" "[B" fV U ∧ Found ST "coder" "B" fC U ∧ D.slots[fV.slot]? = some v0 ∧ D.slots[fC.slot]? = some c0 ∧ RoadKit.slotOf Z ST "value" "[B" = fV.slot ∧ RoadKit.slotOf Z ST "coder" "B" = fC.slot := by
  obtain ⟨D, cfV, kV, iV, fV, hD, gV, stV, knV, obV, asV, slV⟩ := V
  obtain ⟨D', cfC, kC, iC, fC, hD', gC, stC, -, -, asC, slC⟩ := C
  cases hD.symm.trans hD'
  obtain ⟨D2, kD, e1, e2, e3, e4, e5⟩ := E
  cases hD.symm.trans e1
  obtain ⟨c2, k2, i1, i2, i3, -⟩ := Cond.instantiable_spec wi
  cases e2.symm.trans i1
  cases e3.symm.trans i2
  obtain ⟨kU, u1, u2⟩ := al.2.2 _ _ e3
  exact ⟨D, fV, fC, ⟨hD, ⟨knV, fun q hq => by rw [hq] at obV; cases obV⟩, by rw [al.findClass]; exact e2, kU, u1, by rw [u2]; exact i3, by rw [u2]; exact e5 i3⟩, ⟨SBG.found_only al ⟨cfV, kV, iV, gV⟩, stV⟩, ⟨SBG.found_only al ⟨cfC, kC, iC, gC⟩, stC⟩, slV, slC, by simp [RoadKit.slotOf, gV], by simp [RoadKit.slotOf, gC]⟩
theorem sta_is {Z U : State} (al : Z.vm.Alike U.vm) {C n d : String} {v : Value} (S : RoadKit.Sta Z U.heap C n d v) : StaticIs U C n d v := by
  obtain ⟨cfS, iS, kS, fS, st, cS, t1, t2, t3, t4, t5, t6, t7⟩ := S
  exact StaticIs.there (s := { Z with heap := U.heap }) ⟨cfS, iS, kS, fS, st, cS, t1, t2, t3, t4, t5, (fun q => by rw [q] at t6; cases t6), t7⟩ al rfl
/-- **length() OF SUCH A STRING** -/
theorem lenW {p : Program} {l : Launch} {e : Env} {R : Room} {s : State} {args : Array Value} {below : List Frame} {len W : Nat} {Z : State} {a0 : Array Value} {h : Heap} (hZ : Z.Warmed39 s.vm) (hw : ∀ d ∈ wordsLen, d.before a0 Z = true) {kI : Nat} (wi : (Jvm.Cond.instantiable ST kI).before a0 Z = true)
    {x t : Addr} {kb : ClassId} {cs : List Int32} {cd N2 z : Int32} {vs : List Value} (E : RoadKit.Exa Z h x ST) (V : RoadKit.Fld Z h x ST "value" "[B" (.ref t)) (C : RoadKit.Fld Z h x ST "coder" "B" (.int cd)) (K : RoadKit.Arv Z h t kb .byte N2 vs (.int 0)) (hc : CodA cs cd N2 vs) (hb : ∀ c ∈ cs, ¬ c < 0 ∧ ¬ (65535 : Int32) < c)
    (S : RoadKit.Sta Z h ST "COMPACT_STRINGS" "Z" (.int z)) (hz : ¬ z = 0) (l2 : cs.length ≤ 4000) (hfr : 2 ≤ R.frames) (hlo : W + 25 ≤ R.locals) :
    Back l R p e below s args (⟨"java/lang/String", "length", "()I"⟩ : MethodName) len W (fun P a => a = #[.ref x] ∧ P.U.heap = h ∧ P.cells + 0 ≤ R.cells ∧ P.slots + 0 ≤ R.slots)
      (fun P _ v B => ∃ L, (v = some (.int (Int32.ofNat cs.length)) ∧ L = [] ∧ B.U.heap = h) ∧ B.locs = P.locs ++ L ∧ B.cells = P.cells + 0 ∧ B.slots = P.slots + 0) := by
  obtain ⟨A, K1, K2, K3, K4, K5, K6⟩ := K
  have hcod := hc.cod (by omega) K3 K5
  intro m meth c P g ig mk a X hg hsize hdg hW hn hp'
  obtain ⟨rfl, rfl, r1, r2⟩ := hp'
  have al : Z.vm.Alike P.U.vm := hZ.alike.trans X.warmed.alike
  obtain ⟨D, fV, fC, hB, F1, F2, g1, g2, -, -⟩ := strObj wi al E V C
  have hx : Txt x t A cd cs.length (fun j => cs.getD j 0) P.U := ⟨⟨_, hB.2.2.1, D, hB.1, rfl, by cases q : D.vm <;> first | rfl | exact absurd q (hB.2.1.2 _)⟩, Has.of hB F1 g1, Has.of hB F2 g2, ⟨K1.1, State.isArrayOf_alike al K1.2.1, K1.2.2, by rcases hcod with ⟨-, q, -⟩ | ⟨-, q, -⟩ <;> omega⟩, hcod, fun j hj => by
    have e : cs.getD j 0 = cs[j] := by simp [List.getD_eq_getElem?_getD, hj]
    show ¬ cs.getD j 0 < 0 ∧ ¬ 65535 < cs.getD j 0
    rw [e]; exact hb _ (List.getElem_mem _)⟩
  obtain ⟨v, B, X', ⟨⟨hv, hh⟩, hl, hk, hs⟩, st⟩ := Len.pays x t A cd cs.length (fun j => cs.getD j 0) z (tabLen_of (movedLen hZ hw)) hfr hlo m meth c P g ig mk _ X hg hsize hdg hW hn ⟨r1, r2, rfl, hx, sta_is al S, hz⟩
  exact ⟨v, B, X', ⟨[], ⟨hv, rfl, hh⟩, hl, hk, hs⟩, st⟩
end StrChars.Road
end Jvm.Pilot.@@N@@
namespace Jvm.Pilot.@@N@@
namespace StrChars
open Jvm Sem ClassFile Op Lib Jvm.Stand Jvm.Free.XT Jvm.Free.ALB Jvm.Free.JM Jvm.Free
open Jvm.Lib.Cold (StaticIs)
/-- a static whose cell is a class's own -/
def StS (s : State) (C n d : String) (v : Value) : Prop := ∃ (cf i : Nat) (k : Class) (f : Field) (a₁ : Addr) (cell₁ : Cell), s.fieldFound? C n d = some (cf, k, i, f) ∧ f.isStatic = true ∧ k.init = .initialized ∧ k.statics = some a₁ ∧ s.heap[a₁]? = some cell₁ ∧ cell₁.vm.isStatics = true ∧ cell₁.slots[f.slot]? = some v
/-- the cells that hold statics stand -/
def StK (s u : State) : Prop := ∀ (a : Addr) (c : Cell), s.heap[a]? = some c → c.vm.isStatics = true → u.heap[a]? = some c
theorem StK.of_eq {s u : State} (h : u.heap = s.heap) : StK s u := fun _ _ q _ => by rw [h]; exact q
theorem StK.trans {s t u : State} (h : StK s t) (h' : StK t u) : StK s u := fun a c q r => h' a c (h a c q r) r
theorem StK.kept {s u : State} (h : XT.Kept s u) : StK s u := fun a c q _ => h a c q
theorem StK.put {s u : State} {d : Addr} {B B' : Cell} {t : FieldType} (hB : XT.Arr t d B s) (hp : XT.Put d B' s u) : StK s u := fun a c q r => hp.other (fun e => by
  subst e
  have e1 := hB.1.symm.trans q
  rw [Option.some.injEq] at e1
  subst e1
  obtain ⟨ho, -⟩ := hB.2.1
  cases hv : B.vm with
  | statics z => exact ho z hv
  | _ => rw [hv] at r; cases r) q
theorem StS.keep {s u : State} {C n d : String} {v : Value} (h : StS s C n d v) (hal : s.vm.Alike u.vm) (hk : StK s u) : StS u C n d v := by
  obtain ⟨cf, i, k, f, a₁, cell₁, h1, h2, h3, h4, h5, h6, h7⟩ := h
  obtain ⟨k', hk', he⟩ := State.fieldFound?_setVm hal h1
  exact ⟨cf, i, k', f, a₁, cell₁, hk', h2, by rw [he]; exact h3, by rw [he]; exact h4, hk _ _ h5 h6, h6, h7⟩
theorem StS.mv {s u : State} {C n d : String} {v : Value} (h : StS s C n d v) (hal : s.vm.Alike u.vm) (hh : u.heap = s.heap) : StS u C n d v := h.keep hal (StK.of_eq hh)
theorem sgetS {p : Program} {l : Launch} {e : Env} {R : Room} {s : State} {m : MethodId} {args : Array Value} {below : List Frame} {meth : Method} {c : Code} {T : State} {locs : List Loc} {cells slots : Nat} (X : Stand p l e R s m args below meth c T locs cells slots) (hexec : p.tables.exec = Jvm.exec) {own C name desc : String} {index : Nat} (hown : s.vm.findClass own = some m.cls) (hlink : (Cond.fieldLink own index C name desc).before args s = true) {v : Value}
    (hS : StS s C name desc v) (hk : StK s T) {g : JFrame} (hg : g.method = m) (hdg : decode c.code g.pc = .ok (.getstatic index, 3)) :
    ∃ T', Stand p l e R s m args below meth c T' locs cells slots ∧ T'.heap = T.heap ∧ ∀ target, Steps p.tables e below (T'.setTop { g with pc := g.pc + 3, stack := v :: g.stack }) target → Steps p.tables e below (T.setTop g) target := by
  obtain ⟨cf, i, k, f, a₁, cell₁, h1, h2, h3, h4, h5, h6, h7⟩ := hS
  obtain ⟨vm', X', st⟩ := X.getstatic hexec hown hlink h1 h2 h3 h4 (hk _ _ h5 h6) (fun q => by rw [q] at h6; cases h6) h7 hg hdg
  exact ⟨_, X', rfl, st⟩
/-- the three statics of StringUTF16 -/
def U3 (s : State) : Prop := StS s U16 "$assertionsDisabled" "Z" (.int 1) ∧ StS s U16 "HI_BYTE_SHIFT" "I" (.int 0) ∧ StS s U16 "LO_BYTE_SHIFT" "I" (.int 8)
theorem U3.keep {s u : State} (h : U3 s) (hal : s.vm.Alike u.vm) (hk : StK s u) : U3 u := ⟨h.1.keep hal hk, h.2.1.keep hal hk, h.2.2.keep hal hk⟩
theorem U3.mv {s u : State} (h : U3 s) (hal : s.vm.Alike u.vm) (hh : u.heap = s.heap) : U3 u := h.keep hal (StK.of_eq hh)
def stat3 : List Cond := [.fieldLink U16 44 U16 "$assertionsDisabled" "Z", .fieldLink U16 59 U16 "HI_BYTE_SHIFT" "I", .fieldLink U16 63 U16 "LO_BYTE_SHIFT" "I"]
theorem shl1 (n : Nat) : Int32.ofNat n <<< ((1 : Int32) &&& 31) = Int32.ofNat (2 * n) := by
  have e : ((1 : Int32) &&& 31) = 1 := by decide
  rw [e]
  apply Int32.toBitVec_inj.mp
  rw [Int32.toBitVec_shiftLeft]
  have e1 : ((1 : Int32).toBitVec.smod 32) = 1#32 := by decide
  rw [e1, BitVec.shiftLeft_eq']
  apply BitVec.eq_of_toNat_eq
  show ((BitVec.ofNat 32 n) <<< 1).toNat = (BitVec.ofNat 32 (2 * n)).toNat
  rw [BitVec.toNat_shiftLeft, BitVec.toNat_ofNat, BitVec.toNat_ofNat, Nat.shiftLeft_eq]
  omega
theorem Ch.rng {a : Addr} {A : Cell} {U : State} (h : Ch a A U) {i : Nat} (hi : i < A.slots.size) : ¬ cv A i < 0 ∧ ¬ 65535 < cv A i := by
  have f := h.2 i _ (h.get hi)
  simp only [fits, Bool.and_eq_true, decide_eq_true_eq] at f
  exact ⟨Int32.not_lt.mpr f.1, Int32.not_lt.mpr f.2⟩
theorem lo8_shr0 (c : Int32) : (c >>> ((0 : Int32) &&& 31)).toInt8.toInt32 = lo8 c := by rw [shr0]; rfl
namespace NBL
def yN : MethodName := ⟨"java/lang/StringUTF16", "newBytesLength", "(I)I"⟩
abbrev yB : ByteArray := jdk_52_method_3_code
theorem d0 : decode yB 0 = .ok (.iload_n 0, 1) := by decide +kernel
theorem d1 : decode yB 1 = .ok (.ifCond .ge 11, 3) := by decide +kernel
theorem d12 : decode yB 12 = .ok (.iload_n 0, 1) := by decide +kernel
theorem d13 : decode yB 13 = .ok (.ldc 20, 2) := by decide +kernel
theorem d15 : decode yB 15 = .ok (.if_icmp .lt 40, 3) := by decide +kernel
theorem d55 : decode yB 55 = .ok (.iload_n 0, 1) := by decide +kernel
theorem d56 : decode yB 56 = .ok (.iconst 1, 1) := by decide +kernel
theorem d57 : decode yB 57 = .ok (.ishl, 1) := by decide +kernel
theorem d58 : decode yB 58 = .ok (.ireturn, 1) := by decide +kernel
def site : List Cond := [.constant U16 20 1073741823]
def tab : Cond := tabOf yN yB 1 (some .int) site
def P (n : Nat) (args : Array Value) (s : State) : Prop := args = #[.int (Int32.ofNat n)] ∧ n < 1073741823
def E (n : Nat) (r : Option Value) (s u : State) : Prop := XT.PureE (some (.int (Int32.ofNat (2 * n)))) r s u
theorem law (l : Launch) (n : Nat) : Law l yN 1 1 0 0 yB 1 (some .int) site (P n) (E n) [] 0 0 := by
  refine Law.of_walk (plainFor_of_name (by decide +kernel)) (by decide +kernel) (by decide +kernel) (by decide) (fun _ _ h => by rw [h.1]; rfl) (fun _ U U' hal hh h => h) (fun r U U' V V' h1 hal h2 h => XT.PureE.mv r U U' V V' h1 hal h2 h) ?_
  intro p e s m args below meth c s₁ X0 hexec hbytes hml hret hlk hnm hown hh0 W hP
  obtain ⟨rfl, hn⟩ := hP
  have c0 : Steps p.tables e below (s₁.setTop (entryFrame m #[(.int (Int32.ofNat n))] 1)) (s₁.setTop (mkF m 0 #[.val (.int (Int32.ofNat n))] [])) := entry rfl
  have cc1 : Steps p.tables e below (s₁.setTop (entryFrame m #[(.int (Int32.ofNat n))] 1)) (s₁.setTop (mkF m 58 #[.val (.int (Int32.ofNat n))] [(.int ((Int32.ofNat n) <<< ((1 : Int32) &&& 31)))])) := Steps.trans c0 (by
    refine XS.iloadN X0.here hexec rfl (hb hbytes d0) rfl ?_
    refine XS.ifYes X0.here hexec rfl (pc0 := 1) rfl (hb hbytes d1) rfl (i0_ge_t (Int32.ofNat_not_neg (by omega))) (by decide) rfl ?_
    refine XS.iloadN X0.here hexec rfl (hb hbytes d12) rfl ?_
    refine X0.ldcI hexec hown (wk W (.constant U16 20 1073741823)) rfl (hb hbytes d13) ?_
    refine XS.icmpYes X0.here hexec rfl (pc0 := 15) rfl (hb hbytes d15) rfl (ii_lt_t (lt32 (b := 1073741823) (by decide) hn)) (by decide) rfl ?_
    refine XS.iloadN X0.here hexec rfl (hb hbytes d55) rfl ?_
    refine iconstV X0.here hexec rfl 1 (hb hbytes d56) (by decide) ?_
    refine XT.ishl X0.here hexec rfl (hb hbytes d57) rfl ?_
    exact Steps.refl _)
  rw [shl1] at cc1
  exact ⟨s₁, some (.int (Int32.ofNat (2 * n))), _, _, _, X0, rfl, rfl, rfl, (fun h => by cases h), ⟨rfl, hh0⟩, fun fs hl => cc1.trans (X0.ireturnOut hexec hret rfl (Or.inl rfl) (hb hbytes d58) hl)⟩
end NBL
namespace NBF
def yN : MethodName := ⟨"java/lang/StringUTF16", "newBytesFor", "(I)[B"⟩
abbrev yB : ByteArray := jdk_52_method_2_code
theorem d0 : decode yB 0 = .ok (.iload_n 0, 1) := by decide +kernel
theorem d1 : decode yB 1 = .ok (.invokestatic 11, 3) := by decide +kernel
theorem d4 : decode yB 4 = .ok (.newarray .byte, 2) := by decide +kernel
theorem d6 : decode yB 6 = .ok (.areturn, 1) := by decide +kernel
def site : List Cond := [.arrayClass .byte, NBL.tab] ++ staticW U16 11 NBL.yN
def tab : Cond := tabOf yN yB 1 (some (.array .byte)) site
def P (n : Nat) (args : Array Value) (s : State) : Prop := args = #[.int (Int32.ofNat n)] ∧ 2 * n ≤ 536870912
def E (n : Nat) (r : Option Value) (s u : State) : Prop := NewArr .byte "[B" (2 * n) (fun _ => .int 0) r s u ∧ u.heap.size = s.heap.size + 1
theorem law (l : Launch) (n : Nat) : Law l yN 1 1 1 12 yB 1 (some (.array .byte)) site (P n) (E n) [] 1 (2 * n) := by
  refine Law.of_walk (plainFor_of_name (by decide +kernel)) (by decide +kernel) (by decide +kernel) (by decide) (fun _ _ h => by rw [h.1]; rfl) (fun _ U U' hal hh h => h) (fun r U U' V V' h1 hal h2 h => ⟨NewArr.mv r U U' V V' h1 hal h2 h.1, by rw [h1, h2]; exact h.2⟩) ?_
  intro p e s m args below meth c s₁ X0 hexec hbytes hml hret hlk hnm hown hh0 W hP
  obtain ⟨rfl, hn⟩ := hP
  have c0 : Steps p.tables e below (s₁.setTop (entryFrame m #[(.int (Int32.ofNat n))] 1)) (s₁.setTop (mkF m 0 #[.val (.int (Int32.ofNat n))] [])) := entry rfl
  have cc1 : Steps p.tables e below (s₁.setTop (entryFrame m #[(.int (Int32.ofNat n))] 1)) (s₁.setTop (mkF m 1 #[.val (.int (Int32.ofNat n))] [(.int (Int32.ofNat n))])) := Steps.trans c0 (by
    refine XS.iloadN X0.here hexec rfl (hb hbytes d0) rfl ?_
    exact Steps.refl _)
  obtain ⟨v2, T2, X2, E2, g2⟩ := X0.callS hexec (NBL.law l n) hown (wks W (staticW U16 11 NBL.yN)) (wk W NBL.tab) (W := 0) (Nat.le_of_ble_eq_true rfl) (Nat.le_of_ble_eq_true rfl) (Nat.zero_le _) (Nat.zero_le _) (g := (mkF m 1 #[.val (.int (Int32.ofNat n))] [(.int (Int32.ofNat n))])) rfl (by rw [hml]; rfl) cc1 (argsL := [.int (Int32.ofNat n)]) (rest := []) rfl rfl (by show 2 * 0 + 0 ≤ _; decide) (hb hbytes d1) (⟨rfl, by omega⟩)
  obtain ⟨rfl, q2⟩ := E2
  have hh2 := q2.trans hh0
  have cc2 : Steps p.tables e below (s₁.setTop (entryFrame m #[(.int (Int32.ofNat n))] 1)) (T2.setTop (mkF m 4 #[.val (.int (Int32.ofNat n))] [(.int (Int32.ofNat (2 * n)))])) := g2
  obtain ⟨T3, B3, X3, ba3, bs3, bv3, bh3, bf3, st3⟩ := X2.anew hexec (atype := .byte) (wk W (.arrayClass .byte)) (n := 2 * n) rfl (by show 2 * n * 1 ≤ _; omega) (by omega) (g := (mkF m 4 #[.val (.int (Int32.ofNat n))] [(.int (Int32.ofNat (2 * n)))])) rfl (hb hbytes d4) (rest := []) rfl (Nat.le_refl _) (by show 0 + 0 + 2 * n ≤ 2 * n; omega)
  rw [hh2] at ba3 st3
  have kp3 : XT.Kept s T3 := (XT.Kept.of_eq hh2).push bh3
  have cc3 : Steps p.tables e below (s₁.setTop (entryFrame m #[(.int (Int32.ofNat n))] 1)) (T3.setTop (mkF m 6 #[.val (.int (Int32.ofNat n))] [(.ref s.heap.size)])) := (cc2.trans (st3 _ (Steps.refl _)))
  have X4 := X3.wide (L' := []) (cells' := 1) (slots' := 2 * n) (fun x hx hlt => hx) (Nat.le_refl _) (by omega)
  exact ⟨T3, some (.ref s.heap.size), _, _, _, X4, rfl, rfl, rfl, (fun h => by cases h), ⟨⟨rfl, B3, ba3, bv3, by rw [X3.warmed.alike.findClass]; exact bf3, by rw [bs3]; simp, fun j hj => by rw [bs3]; simp [hj]; rfl, kp3⟩, by rw [bh3, hh2]; simp⟩, fun fs hl => cc3.trans (X4.areturnOut hexec rfl hret rfl (hb hbytes d6) hl)⟩
end NBF
namespace PutC
def yN : MethodName := ⟨"java/lang/StringUTF16", "putChar", "([BII)V"⟩
abbrev yB : ByteArray := jdk_52_method_4_code
theorem d0 : decode yB 0 = .ok (.getstatic 44, 3) := by decide +kernel
theorem d3 : decode yB 3 = .ok (.ifCond .ne 25, 3) := by decide +kernel
theorem d28 : decode yB 28 = .ok (.iload_n 1, 1) := by decide +kernel
theorem d29 : decode yB 29 = .ok (.iconst 1, 1) := by decide +kernel
theorem d30 : decode yB 30 = .ok (.ishl, 1) := by decide +kernel
theorem d31 : decode yB 31 = .ok (.istore_n 1, 1) := by decide +kernel
theorem d32 : decode yB 32 = .ok (.aload_n 0, 1) := by decide +kernel
theorem d33 : decode yB 33 = .ok (.iload_n 1, 1) := by decide +kernel
theorem d34 : decode yB 34 = .ok (.iinc 1 1, 3) := by decide +kernel
theorem d37 : decode yB 37 = .ok (.iload_n 2, 1) := by decide +kernel
theorem d38 : decode yB 38 = .ok (.getstatic 59, 3) := by decide +kernel
theorem d41 : decode yB 41 = .ok (.ishr, 1) := by decide +kernel
theorem d42 : decode yB 42 = .ok (.i2b, 1) := by decide +kernel
theorem d43 : decode yB 43 = .ok (.bastore, 1) := by decide +kernel
theorem d44 : decode yB 44 = .ok (.aload_n 0, 1) := by decide +kernel
theorem d45 : decode yB 45 = .ok (.iload_n 1, 1) := by decide +kernel
theorem d46 : decode yB 46 = .ok (.iload_n 2, 1) := by decide +kernel
theorem d47 : decode yB 47 = .ok (.getstatic 63, 3) := by decide +kernel
theorem d50 : decode yB 50 = .ok (.ishr, 1) := by decide +kernel
theorem d51 : decode yB 51 = .ok (.i2b, 1) := by decide +kernel
theorem d52 : decode yB 52 = .ok (.bastore, 1) := by decide +kernel
theorem d53 : decode yB 53 = .ok (.return_, 1) := by decide +kernel
def site : List Cond := stat3
def tab : Cond := tabOf yN yB 3 none site
def P (d : Addr) (B : Cell) (i : Nat) (ch : Int32) (args : Array Value) (s : State) : Prop := args = #[.ref d, .int (Int32.ofNat i), .int ch] ∧ XT.Arr .byte d B s ∧ 2 * i + 1 < B.slots.size ∧ U3 s
def E (d : Addr) (B : Cell) (i : Nat) (ch : Int32) (r : Option Value) (s u : State) : Prop := r = none ∧ XT.Put d ((B.setSlot (2 * i) (.int (lo8 ch))).setSlot (2 * i + 1) (.int (hi8 ch))) s u
theorem law (l : Launch) (d : Addr) (B : Cell) (i : Nat) (ch : Int32) : Law l yN 3 3 0 0 yB 3 none site (P d B i ch) (E d B i ch) [⟨d, 2 * i⟩, ⟨d, 2 * i + 1⟩] 0 0 := by
  refine Law.of_walk (plainFor_of_name (by decide +kernel)) (by decide +kernel) (by decide +kernel) (by decide) (fun _ _ h => by rw [h.1]; rfl) (fun _ U U' hal hh h => ⟨h.1, h.2.1.mv hal hh, h.2.2.1, h.2.2.2.mv hal hh⟩) (fun r U U' V V' h1 hal h2 h => ⟨h.1, h.2.mv h1 h2⟩) ?_
  intro p e s m args below meth c s₁ X0 hexec hbytes hml hret hlk hnm hown hh0 W hP
  obtain ⟨rfl, hB, hi, s1, s2, s3⟩ := hP
  have c0 : Steps p.tables e below (s₁.setTop (entryFrame m #[(.ref d), (.int (Int32.ofNat i)), (.int ch)] 3)) (s₁.setTop (mkF m 0 #[.val (.ref d), .val (.int (Int32.ofNat i)), .val (.int ch)] [])) := entry rfl
  have b31 := hB.2.2.2
  have hB0 := hB.mv X0.warmed.alike hh0
  obtain ⟨Tg1, Xg1, qg1, stg1⟩ := sgetS X0 hexec hown (wk W (.fieldLink U16 44 U16 "$assertionsDisabled" "Z")) s1 (StK.of_eq hh0) (g := (mkF m 0 #[.val (.ref d), .val (.int (Int32.ofNat i)), .val (.int ch)] [])) rfl (hb hbytes d0)
  have hhg1 := qg1.trans hh0
  have cc2 : Steps p.tables e below (s₁.setTop (entryFrame m #[(.ref d), (.int (Int32.ofNat i)), (.int ch)] 3)) (Tg1.setTop (mkF m 31 #[.val (.ref d), .val (.int (Int32.ofNat i)), .val (.int ch)] [(.int ((Int32.ofNat i) <<< ((1 : Int32) &&& 31)))])) := Steps.trans (c0.trans (stg1 _ (Steps.refl _))) (by
    refine XS.ifYes Xg1.here hexec rfl (pc0 := 3) rfl (hb hbytes d3) rfl (i0_ne_t (by decide)) (by decide) rfl ?_
    refine XS.iloadN Xg1.here hexec rfl (hb hbytes d28) rfl ?_
    refine iconstV Xg1.here hexec rfl 1 (hb hbytes d29) (by decide) ?_
    refine XT.ishl Xg1.here hexec rfl (hb hbytes d30) rfl ?_
    exact Steps.refl _)
  rw [shl1] at cc2
  have cc3 : Steps p.tables e below (s₁.setTop (entryFrame m #[(.ref d), (.int (Int32.ofNat i)), (.int ch)] 3)) (Tg1.setTop (mkF m 38 #[.val (.ref d), .val (.int ((Int32.ofNat (2 * i)) + 1)), .val (.int ch)] [(.int ch), (.int (Int32.ofNat (2 * i))), (.ref d)])) := Steps.trans cc2 (by
    refine XS.istoreN Xg1.here hexec rfl (hb hbytes d31) rfl rfl ?_
    refine XS.aloadN Xg1.here hexec rfl (hb hbytes d32) rfl rfl ?_
    refine XS.iloadN Xg1.here hexec rfl (hb hbytes d33) rfl ?_
    refine iincV Xg1.here hexec rfl 1 (hb hbytes d34) (by decide) rfl rfl ?_
    refine XS.iloadN Xg1.here hexec rfl (hb hbytes d37) rfl ?_
    exact Steps.refl _)
  obtain ⟨Tg4, Xg4, qg4, stg4⟩ := sgetS Xg1 hexec hown (wk W (.fieldLink U16 59 U16 "HI_BYTE_SHIFT" "I")) s2 (StK.of_eq hhg1) (g := (mkF m 38 #[.val (.ref d), .val (.int ((Int32.ofNat (2 * i)) + 1)), .val (.int ch)] [(.int ch), (.int (Int32.ofNat (2 * i))), (.ref d)])) rfl (hb hbytes d38)
  have hhg4 := qg4.trans hhg1
  have cc5 : Steps p.tables e below (s₁.setTop (entryFrame m #[(.ref d), (.int (Int32.ofNat i)), (.int ch)] 3)) (Tg4.setTop (mkF m 43 #[.val (.ref d), .val (.int ((Int32.ofNat (2 * i)) + 1)), .val (.int ch)] [(.int ((ch >>> ((0 : Int32) &&& 31)).toInt8.toInt32)), (.int (Int32.ofNat (2 * i))), (.ref d)])) := Steps.trans (cc3.trans (stg4 _ (Steps.refl _))) (by
    refine XT.ishr Xg4.here hexec rfl (hb hbytes d41) rfl ?_
    refine XT.i2b Xg4.here hexec rfl (hb hbytes d42) rfl ?_
    exact Steps.refl _)
  have cz : Steps p.tables e below (s₁.setTop (entryFrame m #[(.ref d), (.int (Int32.ofNat i)), (.int ch)] 3)) (Tg4.setTop (mkF m 43 #[.val (.ref d), .val (.int ((Int32.ofNat (2 * i)) + 1)), .val (.int ch)] [(.int (lo8 ch)), (.int (Int32.ofNat (2 * i))), (.ref d)])) := by
    have := cc5
    rw [lo8_shr0] at this
    exact this
  have hB1 := hB.mv Xg4.warmed.alike hhg4
  obtain ⟨T7, X7, p7, st7⟩ := Xg4.aput hexec hB1 (k := 2 * i) rfl (by omega) rfl (fits_lo8 ch) (g := (mkF m 43 #[.val (.ref d), .val (.int ((Int32.ofNat (2 * i)) + 1)), .val (.int ch)] [(.int (lo8 ch)), (.int (Int32.ofNat (2 * i))), (.ref d)])) rfl (rest := []) rfl (hb hbytes d43)
  have p7' := p7.from hhg4
  have hB7 : XT.Arr .byte d (B.setSlot (2 * i) (.int (lo8 ch))) T7 := hB.like X7.warmed.alike p7.1 rfl rfl (by simp [Cell.setSlot])
  have cc6 : Steps p.tables e below (s₁.setTop (entryFrame m #[(.ref d), (.int (Int32.ofNat i)), (.int ch)] 3)) (T7.setTop (mkF m 47 #[.val (.ref d), .val (.int ((Int32.ofNat (2 * i)) + 1)), .val (.int ch)] [(.int ch), (.int ((Int32.ofNat (2 * i)) + 1)), (.ref d)])) := Steps.trans (cz.trans (st7 _ (Steps.refl _))) (by
    refine XS.aloadN X7.here hexec rfl (hb hbytes d44) rfl rfl ?_
    refine XS.iloadN X7.here hexec rfl (hb hbytes d45) rfl ?_
    refine XS.iloadN X7.here hexec rfl (hb hbytes d46) rfl ?_
    exact Steps.refl _)
  obtain ⟨Tg7, Xg7, qg7, stg7⟩ := sgetS X7 hexec hown (wk W (.fieldLink U16 63 U16 "LO_BYTE_SHIFT" "I")) s3 (StK.put hB p7') (g := (mkF m 47 #[.val (.ref d), .val (.int ((Int32.ofNat (2 * i)) + 1)), .val (.int ch)] [(.int ch), (.int ((Int32.ofNat (2 * i)) + 1)), (.ref d)])) rfl (hb hbytes d47)
  have cc8 : Steps p.tables e below (s₁.setTop (entryFrame m #[(.ref d), (.int (Int32.ofNat i)), (.int ch)] 3)) (Tg7.setTop (mkF m 52 #[.val (.ref d), .val (.int ((Int32.ofNat (2 * i)) + 1)), .val (.int ch)] [(.int ((ch >>> ((8 : Int32) &&& 31)).toInt8.toInt32)), (.int ((Int32.ofNat (2 * i)) + 1)), (.ref d)])) := Steps.trans (cc6.trans (stg7 _ (Steps.refl _))) (by
    refine XT.ishr Xg7.here hexec rfl (hb hbytes d50) rfl ?_
    refine XT.i2b Xg7.here hexec rfl (hb hbytes d51) rfl ?_
    exact Steps.refl _)
  have hB9 := hB7.mv (X7.warmed.alike.symm.trans Xg7.warmed.alike) qg7
  have cy : Steps p.tables e below (s₁.setTop (entryFrame m #[(.ref d), (.int (Int32.ofNat i)), (.int ch)] 3)) (Tg7.setTop (mkF m 52 #[.val (.ref d), .val (.int (Int32.ofNat (2 * i + 1))), .val (.int ch)] [(.int (hi8 ch)), (.int (Int32.ofNat (2 * i + 1))), (.ref d)])) := by
    have := cc8
    rw [succ32] at this
    exact this
  obtain ⟨T11, X11, p11, st11⟩ := Xg7.aput hexec hB9 (k := 2 * i + 1) rfl (by simpa [Cell.setSlot] using hi) rfl (fits_lo8 (ch >>> ((8 : Int32) &&& 31))) (g := (mkF m 52 #[.val (.ref d), .val (.int (Int32.ofNat (2 * i + 1))), .val (.int ch)] [(.int (hi8 ch)), (.int (Int32.ofNat (2 * i + 1))), (.ref d)])) rfl (rest := []) rfl (hb hbytes d52)
  have cc9 : Steps p.tables e below (s₁.setTop (entryFrame m #[(.ref d), (.int (Int32.ofNat i)), (.int ch)] 3)) (T11.setTop (mkF m 53 #[.val (.ref d), .val (.int (Int32.ofNat (2 * i + 1))), .val (.int ch)] [])) := (cy.trans (st11 _ (Steps.refl _)))
  exact ⟨T11, none, _, _, _, X11, by simp, rfl, rfl, (fun _ => rfl), ⟨rfl, (p7'.trans (p11.from qg7))⟩, fun fs hl => cc9.trans (X11.returnOut hexec hret (hb hbytes d53) hl)⟩
end PutC
namespace GetC
def yN : MethodName := ⟨"java/lang/StringUTF16", "getChar", "([BI)C"⟩
abbrev yB : ByteArray := jdk_52_method_5_code
theorem d0 : decode yB 0 = .ok (.getstatic 44, 3) := by decide +kernel
theorem d3 : decode yB 3 = .ok (.ifCond .ne 25, 3) := by decide +kernel
theorem d28 : decode yB 28 = .ok (.iload_n 1, 1) := by decide +kernel
theorem d29 : decode yB 29 = .ok (.iconst 1, 1) := by decide +kernel
theorem d30 : decode yB 30 = .ok (.ishl, 1) := by decide +kernel
theorem d31 : decode yB 31 = .ok (.istore_n 1, 1) := by decide +kernel
theorem d32 : decode yB 32 = .ok (.aload_n 0, 1) := by decide +kernel
theorem d33 : decode yB 33 = .ok (.iload_n 1, 1) := by decide +kernel
theorem d34 : decode yB 34 = .ok (.iinc 1 1, 3) := by decide +kernel
theorem d37 : decode yB 37 = .ok (.baload, 1) := by decide +kernel
theorem d38 : decode yB 38 = .ok (.sipush 255, 3) := by decide +kernel
theorem d41 : decode yB 41 = .ok (.iand, 1) := by decide +kernel
theorem d42 : decode yB 42 = .ok (.getstatic 59, 3) := by decide +kernel
theorem d45 : decode yB 45 = .ok (.ishl, 1) := by decide +kernel
theorem d46 : decode yB 46 = .ok (.aload_n 0, 1) := by decide +kernel
theorem d47 : decode yB 47 = .ok (.iload_n 1, 1) := by decide +kernel
theorem d48 : decode yB 48 = .ok (.baload, 1) := by decide +kernel
theorem d49 : decode yB 49 = .ok (.sipush 255, 3) := by decide +kernel
theorem d52 : decode yB 52 = .ok (.iand, 1) := by decide +kernel
theorem d53 : decode yB 53 = .ok (.getstatic 63, 3) := by decide +kernel
theorem d56 : decode yB 56 = .ok (.ishl, 1) := by decide +kernel
theorem d57 : decode yB 57 = .ok (.ior, 1) := by decide +kernel
theorem d58 : decode yB 58 = .ok (.i2c, 1) := by decide +kernel
theorem d59 : decode yB 59 = .ok (.ireturn, 1) := by decide +kernel
def site : List Cond := stat3
def tab : Cond := tabOf yN yB 2 (some .char) site
def P (d : Addr) (V : Cell) (i : Nat) (u w : Int32) (args : Array Value) (s : State) : Prop := args = #[.ref d, .int (Int32.ofNat i)] ∧ XT.Arr .byte d V s ∧ V.slots[2 * i]? = some (.int u) ∧ V.slots[2 * i + 1]? = some (.int w) ∧ U3 s
def E (u w : Int32) (r : Option Value) (s t : State) : Prop := XT.PureE (some (.int (pairCh u w))) r s t
theorem law (l : Launch) (d : Addr) (V : Cell) (i : Nat) (u w : Int32) : Law l yN 2 2 0 0 yB 2 (some .char) site (P d V i u w) (E u w) [] 0 0 := by
  refine Law.of_walk (plainFor_of_name (by decide +kernel)) (by decide +kernel) (by decide +kernel) (by decide) (fun _ _ h => by rw [h.1]; rfl) (fun _ U U' hal hh h => ⟨h.1, h.2.1.mv hal hh, h.2.2.1, h.2.2.2.1, h.2.2.2.2.mv hal hh⟩) (fun r U U' V V' h1 hal h2 h => XT.PureE.mv r U U' V V' h1 hal h2 h) ?_
  intro p e s m args below meth c s₁ X0 hexec hbytes hml hret hlk hnm hown hh0 W hP
  obtain ⟨rfl, hV, hu, hw, s1, s2, s3⟩ := hP
  have c0 : Steps p.tables e below (s₁.setTop (entryFrame m #[(.ref d), (.int (Int32.ofNat i))] 2)) (s₁.setTop (mkF m 0 #[.val (.ref d), .val (.int (Int32.ofNat i))] [])) := entry rfl
  have v31 := hV.2.2.2
  have hi : 2 * i + 1 < V.slots.size := (Array.getElem?_eq_some_iff.mp hw).1
  obtain ⟨Tg1, Xg1, qg1, stg1⟩ := sgetS X0 hexec hown (wk W (.fieldLink U16 44 U16 "$assertionsDisabled" "Z")) s1 (StK.of_eq hh0) (g := (mkF m 0 #[.val (.ref d), .val (.int (Int32.ofNat i))] [])) rfl (hb hbytes d0)
  have hhg1 := qg1.trans hh0
  have cc2 : Steps p.tables e below (s₁.setTop (entryFrame m #[(.ref d), (.int (Int32.ofNat i))] 2)) (Tg1.setTop (mkF m 31 #[.val (.ref d), .val (.int (Int32.ofNat i))] [(.int ((Int32.ofNat i) <<< ((1 : Int32) &&& 31)))])) := Steps.trans (c0.trans (stg1 _ (Steps.refl _))) (by
    refine XS.ifYes Xg1.here hexec rfl (pc0 := 3) rfl (hb hbytes d3) rfl (i0_ne_t (by decide)) (by decide) rfl ?_
    refine XS.iloadN Xg1.here hexec rfl (hb hbytes d28) rfl ?_
    refine iconstV Xg1.here hexec rfl 1 (hb hbytes d29) (by decide) ?_
    refine XT.ishl Xg1.here hexec rfl (hb hbytes d30) rfl ?_
    exact Steps.refl _)
  rw [shl1] at cc2
  have cc3 : Steps p.tables e below (s₁.setTop (entryFrame m #[(.ref d), (.int (Int32.ofNat i))] 2)) (Tg1.setTop (mkF m 42 #[.val (.ref d), .val (.int ((Int32.ofNat (2 * i)) + 1))] [(.int (u &&& (255 : Int32)))])) := Steps.trans cc2 (by
    refine XS.istoreN Xg1.here hexec rfl (hb hbytes d31) rfl rfl ?_
    refine XS.aloadN Xg1.here hexec rfl (hb hbytes d32) rfl rfl ?_
    refine XS.iloadN Xg1.here hexec rfl (hb hbytes d33) rfl ?_
    refine iincV Xg1.here hexec rfl 1 (hb hbytes d34) (by decide) rfl rfl ?_
    refine Xg1.aget hexec (hV.mv Xg1.warmed.alike hhg1) (k := 2 * i) rfl hu rfl rfl (hb hbytes d37) ?_
    refine sipushV Xg1.here hexec rfl 255 (hb hbytes d38) (by decide) ?_
    refine XS.iand Xg1.here hexec rfl (hb hbytes d41) rfl ?_
    exact Steps.refl _)
  obtain ⟨Tg4, Xg4, qg4, stg4⟩ := sgetS Xg1 hexec hown (wk W (.fieldLink U16 59 U16 "HI_BYTE_SHIFT" "I")) s2 (StK.of_eq hhg1) (g := (mkF m 42 #[.val (.ref d), .val (.int ((Int32.ofNat (2 * i)) + 1))] [(.int (u &&& (255 : Int32)))])) rfl (hb hbytes d42)
  have hhg4 := qg4.trans hhg1
  have cc5 : Steps p.tables e below (s₁.setTop (entryFrame m #[(.ref d), (.int (Int32.ofNat i))] 2)) (Tg4.setTop (mkF m 48 #[.val (.ref d), .val (.int ((Int32.ofNat (2 * i)) + 1))] [(.int ((Int32.ofNat (2 * i)) + 1)), (.ref d), (.int ((u &&& (255 : Int32)) <<< ((0 : Int32) &&& 31)))])) := Steps.trans (cc3.trans (stg4 _ (Steps.refl _))) (by
    refine XT.ishl Xg4.here hexec rfl (hb hbytes d45) rfl ?_
    refine XS.aloadN Xg4.here hexec rfl (hb hbytes d46) rfl rfl ?_
    refine XS.iloadN Xg4.here hexec rfl (hb hbytes d47) rfl ?_
    exact Steps.refl _)
  have cz : Steps p.tables e below (s₁.setTop (entryFrame m #[(.ref d), (.int (Int32.ofNat i))] 2)) (Tg4.setTop (mkF m 48 #[.val (.ref d), .val (.int (Int32.ofNat (2 * i + 1)))] [(.int (Int32.ofNat (2 * i + 1))), (.ref d), (.int ((u &&& (255 : Int32)) <<< ((0 : Int32) &&& 31)))])) := by
    have := cc5
    rw [succ32] at this
    exact this
  have cc6 : Steps p.tables e below (s₁.setTop (entryFrame m #[(.ref d), (.int (Int32.ofNat i))] 2)) (Tg4.setTop (mkF m 53 #[.val (.ref d), .val (.int (Int32.ofNat (2 * i + 1)))] [(.int (w &&& (255 : Int32))), (.int ((u &&& (255 : Int32)) <<< ((0 : Int32) &&& 31)))])) := Steps.trans cz (by
    refine Xg4.aget hexec (hV.mv Xg4.warmed.alike hhg4) (k := 2 * i + 1) rfl hw rfl rfl (hb hbytes d48) ?_
    refine sipushV Xg4.here hexec rfl 255 (hb hbytes d49) (by decide) ?_
    refine XS.iand Xg4.here hexec rfl (hb hbytes d52) rfl ?_
    exact Steps.refl _)
  obtain ⟨Tg7, Xg7, qg7, stg7⟩ := sgetS Xg4 hexec hown (wk W (.fieldLink U16 63 U16 "LO_BYTE_SHIFT" "I")) s3 (StK.of_eq hhg4) (g := (mkF m 53 #[.val (.ref d), .val (.int (Int32.ofNat (2 * i + 1)))] [(.int (w &&& (255 : Int32))), (.int ((u &&& (255 : Int32)) <<< ((0 : Int32) &&& 31)))])) rfl (hb hbytes d53)
  have hhg7 := qg7.trans hhg4
  have cc8 : Steps p.tables e below (s₁.setTop (entryFrame m #[(.ref d), (.int (Int32.ofNat i))] 2)) (Tg7.setTop (mkF m 59 #[.val (.ref d), .val (.int (Int32.ofNat (2 * i + 1)))] [(.int ((((u &&& (255 : Int32)) <<< ((0 : Int32) &&& 31)) ||| ((w &&& (255 : Int32)) <<< ((8 : Int32) &&& 31))).toUInt32.toUInt16.toUInt32.toInt32))])) := Steps.trans (cc6.trans (stg7 _ (Steps.refl _))) (by
    refine XT.ishl Xg7.here hexec rfl (hb hbytes d56) rfl ?_
    refine XT.ior Xg7.here hexec rfl (hb hbytes d57) rfl ?_
    refine XT.i2c Xg7.here hexec rfl (hb hbytes d58) rfl ?_
    exact Steps.refl _)
  exact ⟨Tg7, some (.int (pairCh u w)), _, _, _, Xg7, rfl, rfl, rfl, (fun h => by cases h), ⟨rfl, hhg7⟩, fun fs hl => cc8.trans (Xg7.ireturnOut hexec hret (narrow_c _) (Or.inr (Or.inr (Or.inr (Or.inl rfl)))) (hb hbytes d59) hl)⟩
end GetC
/-- byte j of the chars of A from o on, low before high -/
def wb (A : Cell) (o j : Nat) : Value := .int (if j % 2 = 0 then lo8 (cv A (o + j / 2)) else hi8 (cv A (o + j / 2)))
theorem wb_lo (A : Cell) (o i : Nat) : wb A o (2 * i) = .int (lo8 (cv A (o + i))) := by unfold wb; rw [if_pos (by omega), show 2 * i / 2 = i by omega]
theorem wb_hi (A : Cell) (o i : Nat) : wb A o (2 * i + 1) = .int (hi8 (cv A (o + i))) := by unfold wb; rw [if_neg (by omega), show (2 * i + 1) / 2 = i by omega]
namespace ToB
def yN : MethodName := ⟨"java/lang/StringUTF16", "toBytes", "([CII)[B"⟩
abbrev yB : ByteArray := jdk_52_method_14_code
theorem d0 : decode yB 0 = .ok (.iload_n 2, 1) := by decide +kernel
theorem d1 : decode yB 1 = .ok (.invokestatic 107, 3) := by decide +kernel
theorem d4 : decode yB 4 = .ok (.astore_n 3, 1) := by decide +kernel
theorem d5 : decode yB 5 = .ok (.iconst 0, 1) := by decide +kernel
theorem d6 : decode yB 6 = .ok (.istore 4, 2) := by decide +kernel
theorem d8 : decode yB 8 = .ok (.iload 4, 2) := by decide +kernel
theorem d10 : decode yB 10 = .ok (.iload_n 2, 1) := by decide +kernel
theorem d11 : decode yB 11 = .ok (.if_icmp .ge 21, 3) := by decide +kernel
theorem d14 : decode yB 14 = .ok (.aload_n 3, 1) := by decide +kernel
theorem d15 : decode yB 15 = .ok (.iload 4, 2) := by decide +kernel
theorem d17 : decode yB 17 = .ok (.aload_n 0, 1) := by decide +kernel
theorem d18 : decode yB 18 = .ok (.iload_n 1, 1) := by decide +kernel
theorem d19 : decode yB 19 = .ok (.caload, 1) := by decide +kernel
theorem d20 : decode yB 20 = .ok (.invokestatic 111, 3) := by decide +kernel
theorem d23 : decode yB 23 = .ok (.iinc 1 1, 3) := by decide +kernel
theorem d26 : decode yB 26 = .ok (.iinc 4 1, 3) := by decide +kernel
theorem d29 : decode yB 29 = .ok (.goto (-21), 3) := by decide +kernel
theorem d32 : decode yB 32 = .ok (.aload_n 3, 1) := by decide +kernel
theorem d33 : decode yB 33 = .ok (.areturn, 1) := by decide +kernel
def site : List Cond := [NBF.tab, PutC.tab] ++ staticW U16 107 NBF.yN ++ staticW U16 111 PutC.yN
def tab : Cond := tabOf yN yB 5 (some (.array .byte)) site
def P (b : Addr) (A : Cell) (o len : Nat) (args : Array Value) (s : State) : Prop := args = #[.ref b, .int (Int32.ofNat o), .int (Int32.ofNat len)] ∧ Ch b A s ∧ o + len ≤ A.slots.size ∧ 2 * len ≤ 536870912 ∧ U3 s
def E (b : Addr) (A : Cell) (o len : Nat) (r : Option Value) (s u : State) : Prop := NewArr .byte "[B" (2 * len) (wb A o) r s u ∧ u.heap.size = s.heap.size + 1
theorem law (l : Launch) (b : Addr) (A : Cell) (o len : Nat) : Law l yN 3 3 2 28 yB 5 (some (.array .byte)) site (P b A o len) (E b A o len) [] 1 (2 * len) := by
  refine Law.of_walk (plainFor_of_name (by decide +kernel)) (by decide +kernel) (by decide +kernel) (by decide) (fun _ _ h => by rw [h.1]; rfl) (fun _ U U' hal hh h => ⟨h.1, h.2.1.mv hal hh, h.2.2.1, h.2.2.2.1, h.2.2.2.2.mv hal hh⟩) (fun r U U' V V' h1 hal h2 h => ⟨NewArr.mv r U U' V V' h1 hal h2 h.1, by rw [h1, h2]; exact h.2⟩) ?_
  intro p e s m args below meth c s₁ X0 hexec hbytes hml hret hlk hnm hown hh0 W hP
  obtain ⟨rfl, hA, l1, l2, u3⟩ := hP
  have c0 : Steps p.tables e below (s₁.setTop (entryFrame m #[(.ref b), (.int (Int32.ofNat o)), (.int (Int32.ofNat len))] 5)) (s₁.setTop (mkF m 0 #[.val (.ref b), .val (.int (Int32.ofNat o)), .val (.int (Int32.ofNat len)), .unset, .unset] [])) := entry rfl
  have a31 := hA.1.2.2.2
  have cc1 : Steps p.tables e below (s₁.setTop (entryFrame m #[(.ref b), (.int (Int32.ofNat o)), (.int (Int32.ofNat len))] 5)) (s₁.setTop (mkF m 1 #[.val (.ref b), .val (.int (Int32.ofNat o)), .val (.int (Int32.ofNat len)), .unset, .unset] [(.int (Int32.ofNat len))])) := Steps.trans c0 (by
    refine XS.iloadN X0.here hexec rfl (hb hbytes d0) rfl ?_
    exact Steps.refl _)
  obtain ⟨v2, T2, X2, E2, g2⟩ := X0.callS hexec (NBF.law l len) hown (wks W (staticW U16 107 NBF.yN)) (wk W NBF.tab) (W := 0) (Nat.le_of_ble_eq_true rfl) (Nat.le_of_ble_eq_true rfl) (Nat.le_refl _) (by show 0 + 2 * len ≤ 2 * len; omega) (g := (mkF m 1 #[.val (.ref b), .val (.int (Int32.ofNat o)), .val (.int (Int32.ofNat len)), .unset, .unset] [(.int (Int32.ofNat len))])) rfl (by rw [hml]; rfl) cc1 (argsL := [.int (Int32.ofNat len)]) (rest := []) rfl rfl (by show 2 * 0 + 0 ≤ _; decide) (hb hbytes d1) (⟨rfl, l2⟩)
  obtain ⟨e2, z2⟩ := E2
  obtain ⟨rfl, B2, n1, n2, n3, n4, n5, n6⟩ := NewArr.mv _ s₁ s _ _ hh0.symm (Vm.Alike.refl _) rfl e2
  rw [hh0] at z2
  have X2' := X2.wide (L' := []) (cells' := 1) (slots' := 2 * len) (fun x hx hlt => by simpa using hx) (by omega) (by omega)
  have cc2 : Steps p.tables e below (s₁.setTop (entryFrame m #[(.ref b), (.int (Int32.ofNat o)), (.int (Int32.ofNat len))] 5)) (T2.setTop (mkF m 8 #[.val (.ref b), .val (.int (Int32.ofNat o)), .val (.int (Int32.ofNat len)), .val (.ref s.heap.size), .val (.int 0)] [])) := Steps.trans g2 (by
    refine XS.astoreN X2'.here hexec rfl (hb hbytes d4) rfl rfl rfl ?_
    refine iconstV X2'.here hexec rfl 0 (hb hbytes d5) (by decide) ?_
    refine XS.istore X2'.here hexec rfl (hb hbytes d6) rfl rfl ?_
    exact Steps.refl _)
  have hbd : b ≠ s.heap.size := hA.1.ne
  have loop : ∀ (r i : Nat), i + r = len → ∀ (Tl : State) (Bk : Cell), Stand p l e { frames := 2, locals := 28, cells := 1, slots := 2 * len } s m #[(.ref b), (.int (Int32.ofNat o)), (.int (Int32.ofNat len))] below meth c Tl [] 1 (2 * len) → XT.Put s.heap.size Bk T2 Tl → Laid B2 Bk 0 (2 * i) (wb A o) → Steps p.tables e below (s₁.setTop (entryFrame m #[(.ref b), (.int (Int32.ofNat o)), (.int (Int32.ofNat len))] 5)) (Tl.setTop (mkF m 8 #[.val (.ref b), .val (.int (Int32.ofNat (o + i))), .val (.int (Int32.ofNat len)), .val (.ref s.heap.size), .val (.int (Int32.ofNat i))] [])) →
      ∃ (T' : State) (B' : Cell), Stand p l e { frames := 2, locals := 28, cells := 1, slots := 2 * len } s m #[(.ref b), (.int (Int32.ofNat o)), (.int (Int32.ofNat len))] below meth c T' [] 1 (2 * len) ∧ XT.Put s.heap.size B' T2 T' ∧ Laid B2 B' 0 (2 * len) (wb A o) ∧ Steps p.tables e below (s₁.setTop (entryFrame m #[(.ref b), (.int (Int32.ofNat o)), (.int (Int32.ofNat len))] 5)) (T'.setTop (mkF m 8 #[.val (.ref b), .val (.int (Int32.ofNat (o + len))), .val (.int (Int32.ofNat len)), .val (.ref s.heap.size), .val (.int (Int32.ofNat len))] [])) := by
    intro r
    induction r with
    | zero =>
      intro i hi Tl Bk Xl pl fl cl
      have hil : i = len := by omega
      subst hil
      exact ⟨Tl, Bk, Xl, pl, fl, cl⟩
    | succ r ih =>
      intro i hi Tl Bk Xl pl fl cl
      have all := X2.warmed.alike.symm.trans Xl.warmed.alike
      have hAl := hA.keep Xl.warmed.alike (pl.other hbd (n6 _ _ hA.1.1))
      have hBk := n1.like all pl.1 fl.1 fl.2.1 fl.2.2.1
      have sBk : Bk.slots.size = 2 * len := fl.2.2.1.trans n4
      have u3l : U3 Tl := (u3.keep X2.warmed.alike (StK.kept n6)).keep all (StK.put n1 pl)
      have cc3 : Steps p.tables e below (s₁.setTop (entryFrame m #[(.ref b), (.int (Int32.ofNat o)), (.int (Int32.ofNat len))] 5)) (Tl.setTop (mkF m 20 #[.val (.ref b), .val (.int (Int32.ofNat (o + i))), .val (.int (Int32.ofNat len)), .val (.ref s.heap.size), .val (.int (Int32.ofNat i))] [(.int (cv A (o + i))), (.int (Int32.ofNat i)), (.ref s.heap.size)])) := Steps.trans cl (by
        refine XS.iload Xl.here hexec rfl (hb hbytes d8) rfl ?_
        refine XS.iloadN Xl.here hexec rfl (hb hbytes d10) rfl ?_
        refine XS.icmpNo Xl.here hexec rfl (hb hbytes d11) rfl (ii_ge_f (lt32 (by omega) (by omega))) ?_
        refine XS.aloadN Xl.here hexec rfl (hb hbytes d14) rfl rfl ?_
        refine XS.iload Xl.here hexec rfl (hb hbytes d15) rfl ?_
        refine XS.aloadN Xl.here hexec rfl (hb hbytes d17) rfl rfl ?_
        refine XS.iloadN Xl.here hexec rfl (hb hbytes d18) rfl ?_
        refine Xl.aget hexec hAl.1 rfl (hA.get (i := o + i) (by omega)) rfl rfl (hb hbytes d19) ?_
        exact Steps.refl _)
      obtain ⟨v6, T6, X6, E6, g6⟩ := Xl.callS hexec (PutC.law l s.heap.size Bk i (cv A (o + i))) hown (wks W (staticW U16 111 PutC.yN)) (wk W PutC.tab) (W := 0) (Nat.le_of_ble_eq_true rfl) (Nat.le_of_ble_eq_true rfl) (Nat.le_refl _) (Nat.le_refl _) (g := (mkF m 20 #[.val (.ref b), .val (.int (Int32.ofNat (o + i))), .val (.int (Int32.ofNat len)), .val (.ref s.heap.size), .val (.int (Int32.ofNat i))] [(.int (cv A (o + i))), (.int (Int32.ofNat i)), (.ref s.heap.size)])) rfl (by rw [hml]; rfl) cc3 (argsL := [.ref s.heap.size, .int (Int32.ofNat i), .int (cv A (o + i))]) (rest := []) rfl rfl (by show 2 * 0 + 0 ≤ _; decide) (hb hbytes d20) (⟨rfl, hBk, by omega, u3l⟩)
      obtain ⟨rfl, p6⟩ := E6
      have X6' := X6.wide (L' := []) (cells' := 1) (slots' := 2 * len) (fun x hx hlt => by
        simp only [List.nil_append, List.mem_cons, List.not_mem_nil, or_false] at hx
        rcases hx with rfl | rfl <;> exact absurd hlt (Nat.lt_irrefl _)) (by omega) (by omega)
      have cc4 : Steps p.tables e below (s₁.setTop (entryFrame m #[(.ref b), (.int (Int32.ofNat o)), (.int (Int32.ofNat len))] 5)) (T6.setTop (mkF m 8 #[.val (.ref b), .val (.int ((Int32.ofNat (o + i)) + 1)), .val (.int (Int32.ofNat len)), .val (.ref s.heap.size), .val (.int ((Int32.ofNat i) + 1))] [])) := Steps.trans g6 (by
        refine iincV X6'.here hexec rfl 1 (hb hbytes d23) (by decide) rfl rfl ?_
        refine iincV X6'.here hexec rfl 1 (hb hbytes d26) (by decide) rfl rfl ?_
        refine XS.goto X6'.here hexec rfl (pc0 := 29) rfl (hb hbytes d29) (by decide) rfl ?_
        exact Steps.refl _)
      have cn : Steps p.tables e below (s₁.setTop (entryFrame m #[(.ref b), (.int (Int32.ofNat o)), (.int (Int32.ofNat len))] 5)) (T6.setTop (mkF m 8 #[.val (.ref b), .val (.int (Int32.ofNat (o + (i + 1)))), .val (.int (Int32.ofNat len)), .val (.ref s.heap.size), .val (.int (Int32.ofNat (i + 1)))] [])) := by
        have := cc4
        rw [succ32, succ32] at this
        exact this
      exact ih (i + 1) (by omega) T6 _ X6' (pl.trans p6) ((fl.step (v := .int (lo8 (cv A (o + i)))) (Nat.zero_le _) (by omega) (wb_lo A o i).symm).step (v := .int (hi8 (cv A (o + i)))) (Nat.zero_le _) (by simp [Cell.setSlot]; omega) (wb_hi A o i).symm) cn
  obtain ⟨T9, B9, X9, p9, f9, g9⟩ := loop len 0 (by omega) T2 B2 X2' ⟨n1.1, fun _ _ => rfl, rfl⟩ (Laid.zero _ _ _) cc2
  have cc5 : Steps p.tables e below (s₁.setTop (entryFrame m #[(.ref b), (.int (Int32.ofNat o)), (.int (Int32.ofNat len))] 5)) (T9.setTop (mkF m 33 #[.val (.ref b), .val (.int (Int32.ofNat (o + len))), .val (.int (Int32.ofNat len)), .val (.ref s.heap.size), .val (.int (Int32.ofNat len))] [(.ref s.heap.size)])) := Steps.trans g9 (by
    refine XS.iload X9.here hexec rfl (hb hbytes d8) rfl ?_
    refine XS.iloadN X9.here hexec rfl (hb hbytes d10) rfl ?_
    refine XS.icmpYes X9.here hexec rfl (pc0 := 11) rfl (hb hbytes d11) rfl (ii_ge_t (nlt32 (by omega) (Nat.le_refl _))) (by decide) rfl ?_
    refine XS.aloadN X9.here hexec rfl (hb hbytes d32) rfl rfl ?_
    exact Steps.refl _)
  exact ⟨T9, some (.ref s.heap.size), _, _, _, X9, rfl, rfl, rfl, (fun h => by cases h), ⟨⟨rfl, B9, n1.like (X2.warmed.alike.symm.trans X9.warmed.alike) p9.1 f9.1 f9.2.1 f9.2.2.1, f9.2.1.trans n2, by rw [X9.warmed.alike.findClass, f9.1, ← X2.warmed.alike.findClass]; exact n3, f9.2.2.1.trans n4, fun j hj => by rw [f9.2.2.2 j, if_pos ⟨Nat.zero_le _, hj⟩], n6.put p9 (Nat.le_refl _)⟩, p9.2.2.trans z2⟩, fun fs hl => cc5.trans (X9.areturnOut hexec rfl hret rfl (hb hbytes d33) hl)⟩
end ToB
namespace Cmp5w
def yN : MethodName := ⟨"java/lang/StringUTF16", "compress", "([CI[BII)I"⟩
abbrev yB : ByteArray := jdk_52_method_21_code
theorem d0 : decode yB 0 = .ok (.iconst 0, 1) := by decide +kernel
theorem d1 : decode yB 1 = .ok (.istore 5, 2) := by decide +kernel
theorem d3 : decode yB 3 = .ok (.iload 5, 2) := by decide +kernel
theorem d5 : decode yB 5 = .ok (.iload 4, 2) := by decide +kernel
theorem d7 : decode yB 7 = .ok (.if_icmp .ge 37, 3) := by decide +kernel
theorem d10 : decode yB 10 = .ok (.aload_n 0, 1) := by decide +kernel
theorem d11 : decode yB 11 = .ok (.iload_n 1, 1) := by decide +kernel
theorem d12 : decode yB 12 = .ok (.caload, 1) := by decide +kernel
theorem d13 : decode yB 13 = .ok (.istore 6, 2) := by decide +kernel
theorem d15 : decode yB 15 = .ok (.iload 6, 2) := by decide +kernel
theorem d17 : decode yB 17 = .ok (.sipush 255, 3) := by decide +kernel
theorem d20 : decode yB 20 = .ok (.if_icmp .le 6, 3) := by decide +kernel
theorem d23 : decode yB 23 = .ok (.iload 5, 2) := by decide +kernel
theorem d25 : decode yB 25 = .ok (.ireturn, 1) := by decide +kernel
theorem d26 : decode yB 26 = .ok (.aload_n 2, 1) := by decide +kernel
theorem d27 : decode yB 27 = .ok (.iload_n 3, 1) := by decide +kernel
theorem d28 : decode yB 28 = .ok (.iload 6, 2) := by decide +kernel
theorem d30 : decode yB 30 = .ok (.i2b, 1) := by decide +kernel
theorem d31 : decode yB 31 = .ok (.bastore, 1) := by decide +kernel
theorem d32 : decode yB 32 = .ok (.iinc 1 1, 3) := by decide +kernel
theorem d35 : decode yB 35 = .ok (.iinc 3 1, 3) := by decide +kernel
theorem d38 : decode yB 38 = .ok (.iinc 5 1, 3) := by decide +kernel
theorem d41 : decode yB 41 = .ok (.goto (-38), 3) := by decide +kernel
def site : List Cond := []
def tab : Cond := tabOf yN yB 7 (some .int) site
def P (b : Addr) (A : Cell) (d : Addr) (B : Cell) (o q len w : Nat) (args : Array Value) (s : State) : Prop := args = #[.ref b, .int (Int32.ofNat o), .ref d, .int (Int32.ofNat q), .int (Int32.ofNat len)] ∧ Ch b A s ∧ XT.Arr .byte d B s ∧ b ≠ d ∧ o + len ≤ A.slots.size ∧ q + len ≤ B.slots.size ∧ w < len ∧ (∀ i, i < w → ¬ 255 < cv A (o + i)) ∧ 255 < cv A (o + w)
def E (b : Addr) (A : Cell) (d : Addr) (B : Cell) (o q w : Nat) (r : Option Value) (s u : State) : Prop := r = some (.int (Int32.ofNat w)) ∧ ∃ B', XT.Put d B' s u ∧ Laid B B' q (q + w) (fun j => Value.int (lo8 (cv A (o + (j - q)))))
theorem law (l : Launch) (b : Addr) (A : Cell) (d : Addr) (B : Cell) (o q len w : Nat) : Law l yN 5 5 0 0 yB 7 (some .int) site (P b A d B o q len w) (E b A d B o q w) (copyLocs d q w) 0 0 := by
  refine Law.of_walk (plainFor_of_name (by decide +kernel)) (by decide +kernel) (by decide +kernel) (by decide) (fun _ _ h => by rw [h.1]; rfl) (fun _ U U' hal hh h => ⟨h.1, h.2.1.mv hal hh, h.2.2.1.mv hal hh, h.2.2.2⟩) (fun r U U' V V' h1 hal h2 h => ⟨h.1, h.2.elim fun B' q => ⟨B', q.1.mv h1 h2, q.2⟩⟩) ?_
  intro p e s m args below meth c s₁ X0 hexec hbytes hml hret hlk hnm hown hh0 W hP
  obtain ⟨rfl, hA, hB, hne, l1, l2, hw, hp, hwd⟩ := hP
  have c0 : Steps p.tables e below (s₁.setTop (entryFrame m #[(.ref b), (.int (Int32.ofNat o)), (.ref d), (.int (Int32.ofNat q)), (.int (Int32.ofNat len))] 7)) (s₁.setTop (mkF m 0 #[.val (.ref b), .val (.int (Int32.ofNat o)), .val (.ref d), .val (.int (Int32.ofNat q)), .val (.int (Int32.ofNat len)), .unset, .unset] [])) := entry rfl
  have hA0 := hA.1.mv X0.warmed.alike hh0
  have hB0 := hB.mv X0.warmed.alike hh0
  have a31 := hA.1.2.2.2
  have cc1 : Steps p.tables e below (s₁.setTop (entryFrame m #[(.ref b), (.int (Int32.ofNat o)), (.ref d), (.int (Int32.ofNat q)), (.int (Int32.ofNat len))] 7)) (s₁.setTop (mkF m 3 #[.val (.ref b), .val (.int (Int32.ofNat o)), .val (.ref d), .val (.int (Int32.ofNat q)), .val (.int (Int32.ofNat len)), .val (.int 0), .unset] [])) := Steps.trans c0 (by
    refine iconstV X0.here hexec rfl 0 (hb hbytes d0) (by decide) ?_
    refine XS.istore X0.here hexec rfl (hb hbytes d1) rfl rfl ?_
    exact Steps.refl _)
  have loop : ∀ (r i : Nat), i + r = w → ∀ (z : Slot), (z = .unset ∨ ∃ w, z = .val w ∧ w.category = 1) → ∀ (Tl : State) (Bk : Cell), Stand p l e { frames := 0, locals := 0, cells := 0, slots := 0 } s m #[(.ref b), (.int (Int32.ofNat o)), (.ref d), (.int (Int32.ofNat q)), (.int (Int32.ofNat len))] below meth c Tl ([] ++ copyLocs d q i) 0 0 → XT.Put d Bk s₁ Tl → Laid B Bk q (q + i) (fun j => Value.int (lo8 (cv A (o + (j - q))))) → Steps p.tables e below (s₁.setTop (entryFrame m #[(.ref b), (.int (Int32.ofNat o)), (.ref d), (.int (Int32.ofNat q)), (.int (Int32.ofNat len))] 7)) (Tl.setTop (mkF m 3 #[.val (.ref b), .val (.int (Int32.ofNat (o + i))), .val (.ref d), .val (.int (Int32.ofNat (q + i))), .val (.int (Int32.ofNat len)), .val (.int (Int32.ofNat i)), z] [])) →
      ∃ (T' : State) (B' : Cell) (z' : Slot), (z' = .unset ∨ ∃ w, z' = .val w ∧ w.category = 1) ∧ Stand p l e { frames := 0, locals := 0, cells := 0, slots := 0 } s m #[(.ref b), (.int (Int32.ofNat o)), (.ref d), (.int (Int32.ofNat q)), (.int (Int32.ofNat len))] below meth c T' ([] ++ copyLocs d q w) 0 0 ∧ XT.Put d B' s₁ T' ∧ Laid B B' q (q + w) (fun j => Value.int (lo8 (cv A (o + (j - q))))) ∧ Steps p.tables e below (s₁.setTop (entryFrame m #[(.ref b), (.int (Int32.ofNat o)), (.ref d), (.int (Int32.ofNat q)), (.int (Int32.ofNat len))] 7)) (T'.setTop (mkF m 3 #[.val (.ref b), .val (.int (Int32.ofNat (o + w))), .val (.ref d), .val (.int (Int32.ofNat (q + w))), .val (.int (Int32.ofNat len)), .val (.int (Int32.ofNat w)), z'] [])) := by
    intro r
    induction r with
    | zero =>
      intro i hi z hz Tl Bk Xl pl fl cl
      have hil : i = w := by omega
      subst hil
      exact ⟨Tl, Bk, z, hz, Xl, pl, fl, cl⟩
    | succ r ih =>
      intro i hi z hz Tl Bk Xl pl fl cl
      have all := X0.warmed.alike.symm.trans Xl.warmed.alike
      have hAl := hA0.keep all (pl.other hne hA0.1)
      have hBk := hB0.like all pl.1 fl.1 fl.2.1 fl.2.2.1
      have hlt : q + i < Bk.slots.size := by rw [fl.2.2.1]; omega
      have cc2 : Steps p.tables e below (s₁.setTop (entryFrame m #[(.ref b), (.int (Int32.ofNat o)), (.ref d), (.int (Int32.ofNat q)), (.int (Int32.ofNat len))] 7)) (Tl.setTop (mkF m 31 #[.val (.ref b), .val (.int (Int32.ofNat (o + i))), .val (.ref d), .val (.int (Int32.ofNat (q + i))), .val (.int (Int32.ofNat len)), .val (.int (Int32.ofNat i)), .val (.int (cv A (o + i)))] [(.int ((cv A (o + i)).toInt8.toInt32)), (.int (Int32.ofNat (q + i))), (.ref d)])) := Steps.trans cl (by
        refine XS.iload Xl.here hexec rfl (hb hbytes d3) rfl ?_
        refine XS.iload Xl.here hexec rfl (hb hbytes d5) rfl ?_
        refine XS.icmpNo Xl.here hexec rfl (hb hbytes d7) rfl (ii_ge_f (lt32 (by omega) (by omega))) ?_
        refine XS.aloadN Xl.here hexec rfl (hb hbytes d10) rfl rfl ?_
        refine XS.iloadN Xl.here hexec rfl (hb hbytes d11) rfl ?_
        refine Xl.aget hexec hAl rfl (hA.get (i := o + i) (by omega)) rfl rfl (hb hbytes d12) ?_
        refine XS.istoreS Xl.here hexec rfl (hb hbytes d13) rfl rfl hz ?_
        refine XS.iload Xl.here hexec rfl (hb hbytes d15) rfl ?_
        refine sipushV Xl.here hexec rfl 255 (hb hbytes d17) (by decide) ?_
        refine XS.icmpYes Xl.here hexec rfl (pc0 := 20) rfl (hb hbytes d20) rfl (ii_le_t (hp i (by omega))) (by decide) rfl ?_
        refine XS.aloadN Xl.here hexec rfl (hb hbytes d26) rfl rfl ?_
        refine XS.iloadN Xl.here hexec rfl (hb hbytes d27) rfl ?_
        refine XS.iload Xl.here hexec rfl (hb hbytes d28) rfl ?_
        refine XT.i2b Xl.here hexec rfl (hb hbytes d30) rfl ?_
        exact Steps.refl _)
      obtain ⟨T7, X7, p7, st7⟩ := Xl.aput hexec hBk rfl hlt rfl (fits_lo8 (cv A (o + i))) (g := (mkF m 31 #[.val (.ref b), .val (.int (Int32.ofNat (o + i))), .val (.ref d), .val (.int (Int32.ofNat (q + i))), .val (.int (Int32.ofNat len)), .val (.int (Int32.ofNat i)), .val (.int (cv A (o + i)))] [(.int (lo8 (cv A (o + i)))), (.int (Int32.ofNat (q + i))), (.ref d)])) rfl (rest := []) rfl (hb hbytes d31)
      have cc3 : Steps p.tables e below (s₁.setTop (entryFrame m #[(.ref b), (.int (Int32.ofNat o)), (.ref d), (.int (Int32.ofNat q)), (.int (Int32.ofNat len))] 7)) (T7.setTop (mkF m 3 #[.val (.ref b), .val (.int ((Int32.ofNat (o + i)) + 1)), .val (.ref d), .val (.int ((Int32.ofNat (q + i)) + 1)), .val (.int (Int32.ofNat len)), .val (.int ((Int32.ofNat i) + 1)), .val (.int (cv A (o + i)))] [])) := Steps.trans (cc2.trans (st7 _ (Steps.refl _))) (by
        refine iincV X7.here hexec rfl 1 (hb hbytes d32) (by decide) rfl rfl ?_
        refine iincV X7.here hexec rfl 1 (hb hbytes d35) (by decide) rfl rfl ?_
        refine iincV X7.here hexec rfl 1 (hb hbytes d38) (by decide) rfl rfl ?_
        refine XS.goto X7.here hexec rfl (pc0 := 41) rfl (hb hbytes d41) (by decide) rfl ?_
        exact Steps.refl _)
      have cn : Steps p.tables e below (s₁.setTop (entryFrame m #[(.ref b), (.int (Int32.ofNat o)), (.ref d), (.int (Int32.ofNat q)), (.int (Int32.ofNat len))] 7)) (T7.setTop (mkF m 3 #[.val (.ref b), .val (.int (Int32.ofNat (o + (i + 1)))), .val (.ref d), .val (.int (Int32.ofNat (q + (i + 1)))), .val (.int (Int32.ofNat len)), .val (.int (Int32.ofNat (i + 1))), (.val (.int (cv A (o + i))))] [])) := by
        have := cc3
        rw [succ32, succ32, succ32] at this
        exact this
      exact ih (i + 1) (by omega) _ (Or.inr ⟨_, rfl, rfl⟩) T7 _ (by rw [copyLocs_step, ← List.append_assoc]; exact X7) (pl.trans p7) (fl.step (by omega) hlt (by simp)) cn
  obtain ⟨T9, B9, z9, hz9, X9, p9, f9, g9⟩ := loop w 0 (by omega) .unset (Or.inl rfl) s₁ B (by simpa [copyLocs] using X0) ⟨hB0.1, fun _ _ => rfl, rfl⟩ (Laid.zero _ _ _) cc1
  have al9 := X0.warmed.alike.symm.trans X9.warmed.alike
  have hA9 := hA0.keep al9 (p9.other hne hA0.1)
  have cc4 : Steps p.tables e below (s₁.setTop (entryFrame m #[(.ref b), (.int (Int32.ofNat o)), (.ref d), (.int (Int32.ofNat q)), (.int (Int32.ofNat len))] 7)) (T9.setTop (mkF m 25 #[.val (.ref b), .val (.int (Int32.ofNat (o + w))), .val (.ref d), .val (.int (Int32.ofNat (q + w))), .val (.int (Int32.ofNat len)), .val (.int (Int32.ofNat w)), .val (.int (cv A (o + w)))] [(.int (Int32.ofNat w))])) := Steps.trans g9 (by
    refine XS.iload X9.here hexec rfl (hb hbytes d3) rfl ?_
    refine XS.iload X9.here hexec rfl (hb hbytes d5) rfl ?_
    refine XS.icmpNo X9.here hexec rfl (hb hbytes d7) rfl (ii_ge_f (lt32 (by omega) (by omega))) ?_
    refine XS.aloadN X9.here hexec rfl (hb hbytes d10) rfl rfl ?_
    refine XS.iloadN X9.here hexec rfl (hb hbytes d11) rfl ?_
    refine X9.aget hexec hA9 rfl (hA.get (i := o + w) (by omega)) rfl rfl (hb hbytes d12) ?_
    refine XS.istoreS X9.here hexec rfl (hb hbytes d13) rfl rfl hz9 ?_
    refine XS.iload X9.here hexec rfl (hb hbytes d15) rfl ?_
    refine sipushV X9.here hexec rfl 255 (hb hbytes d17) (by decide) ?_
    refine XS.icmpNo X9.here hexec rfl (hb hbytes d20) rfl (ii_le_f hwd) ?_
    refine XS.iload X9.here hexec rfl (hb hbytes d23) rfl ?_
    exact Steps.refl _)
  exact ⟨T9, some (.int (Int32.ofNat w)), _, _, _, X9, by simp, rfl, rfl, (fun h => by cases h), ⟨rfl, B9, p9.from hh0, f9⟩, fun fs hl => cc4.trans (X9.ireturnOut hexec hret rfl (Or.inl rfl) (hb hbytes d25) hl)⟩
end Cmp5w
/-- two new byte[]s: the second, of 2 * len bytes, is the answer; every old cell is kept -/
def NewW (len : Nat) (f : Nat → Value) (r : Option Value) (s u : State) : Prop := r = some (.ref (s.heap.size + 1)) ∧ ∃ B : Cell, XT.Arr .byte (s.heap.size + 1) B u ∧ B.vm = .none ∧ u.vm.findClass "[B" = some B.cls ∧ B.slots.size = 2 * len ∧ (∀ j, j < 2 * len → B.slots[j]? = some (f j)) ∧ XT.Kept s u ∧ u.heap.size = s.heap.size + 2
theorem NewW.mv {len : Nat} {f : Nat → Value} : ∀ r (U U' V V' : State), U'.heap = U.heap → V.vm.Alike V'.vm → V'.heap = V.heap → NewW len f r U V → NewW len f r U' V' :=
  fun r U U' V V' h1 hal h2 ⟨e0, B, e1, e2, e3, e4, e5, e6, e7⟩ => ⟨by rw [h1]; exact e0, B, by rw [h1]; exact e1.mv hal h2, e2, by rw [hal.findClass]; exact e3, e4, e5, e6.mv h1 h2, by rw [h1, h2]; exact e7⟩
namespace Cmp3w
def yN : MethodName := ⟨"java/lang/StringUTF16", "compress", "([CII)[B"⟩
abbrev yB : ByteArray := jdk_52_method_16_code
theorem d0 : decode yB 0 = .ok (.iload_n 2, 1) := by decide +kernel
theorem d1 : decode yB 1 = .ok (.newarray .byte, 2) := by decide +kernel
theorem d3 : decode yB 3 = .ok (.astore_n 3, 1) := by decide +kernel
theorem d4 : decode yB 4 = .ok (.aload_n 0, 1) := by decide +kernel
theorem d5 : decode yB 5 = .ok (.iload_n 1, 1) := by decide +kernel
theorem d6 : decode yB 6 = .ok (.aload_n 3, 1) := by decide +kernel
theorem d7 : decode yB 7 = .ok (.iconst 0, 1) := by decide +kernel
theorem d8 : decode yB 8 = .ok (.iload_n 2, 1) := by decide +kernel
theorem d9 : decode yB 9 = .ok (.invokestatic 115, 3) := by decide +kernel
theorem d12 : decode yB 12 = .ok (.istore 4, 2) := by decide +kernel
theorem d14 : decode yB 14 = .ok (.iload 4, 2) := by decide +kernel
theorem d16 : decode yB 16 = .ok (.iload_n 2, 1) := by decide +kernel
theorem d17 : decode yB 17 = .ok (.if_icmp .eq 40, 3) := by decide +kernel
theorem d20 : decode yB 20 = .ok (.aload_n 0, 1) := by decide +kernel
theorem d21 : decode yB 21 = .ok (.iload_n 1, 1) := by decide +kernel
theorem d22 : decode yB 22 = .ok (.iload_n 2, 1) := by decide +kernel
theorem d23 : decode yB 23 = .ok (.invokestatic 119, 3) := by decide +kernel
theorem d26 : decode yB 26 = .ok (.astore 5, 2) := by decide +kernel
theorem d28 : decode yB 28 = .ok (.aload 5, 2) := by decide +kernel
theorem d30 : decode yB 30 = .ok (.iload 4, 2) := by decide +kernel
theorem d32 : decode yB 32 = .ok (.invokestatic 71, 3) := by decide +kernel
theorem d35 : decode yB 35 = .ok (.sipush 255, 3) := by decide +kernel
theorem d38 : decode yB 38 = .ok (.if_icmp .gt 16, 3) := by decide +kernel
theorem d54 : decode yB 54 = .ok (.aload 5, 2) := by decide +kernel
theorem d56 : decode yB 56 = .ok (.areturn, 1) := by decide +kernel
def site : List Cond := [.arrayClass .byte, Cmp5w.tab, ToB.tab, GetC.tab] ++ staticW U16 115 Cmp5w.yN ++ staticW U16 119 ToB.yN ++ staticW U16 71 GetC.yN
def tab : Cond := tabOf yN yB 6 (some (.array .byte)) site
def P (b : Addr) (A : Cell) (o len w : Nat) (args : Array Value) (s : State) : Prop := args = #[.ref b, .int (Int32.ofNat o), .int (Int32.ofNat len)] ∧ Ch b A s ∧ o + len ≤ A.slots.size ∧ 2 * len ≤ 536870912 ∧ w < len ∧ (∀ i, i < w → ¬ 255 < cv A (o + i)) ∧ 255 < cv A (o + w) ∧ U3 s
def E (b : Addr) (A : Cell) (o len : Nat) (r : Option Value) (s u : State) : Prop := NewW len (wb A o) r s u
theorem law (l : Launch) (b : Addr) (A : Cell) (o len w : Nat) : Law l yN 3 3 3 44 yB 6 (some (.array .byte)) site (P b A o len w) (E b A o len) [] 2 (len + 2 * len) := by
  refine Law.of_walk (plainFor_of_name (by decide +kernel)) (by decide +kernel) (by decide +kernel) (by decide) (fun _ _ h => by rw [h.1]; rfl) (fun _ U U' hal hh h => ⟨h.1, h.2.1.mv hal hh, h.2.2.1, h.2.2.2.1, h.2.2.2.2.1, h.2.2.2.2.2.1, h.2.2.2.2.2.2.1, h.2.2.2.2.2.2.2.mv hal hh⟩) (fun r U U' V V' h1 hal h2 h => NewW.mv r U U' V V' h1 hal h2 h) ?_
  intro p e s m args below meth c s₁ X0 hexec hbytes hml hret hlk hnm hown hh0 W hP
  obtain ⟨rfl, hA, l1, l2, hw, hp, hwd, u3⟩ := hP
  have c0 : Steps p.tables e below (s₁.setTop (entryFrame m #[(.ref b), (.int (Int32.ofNat o)), (.int (Int32.ofNat len))] 6)) (s₁.setTop (mkF m 0 #[.val (.ref b), .val (.int (Int32.ofNat o)), .val (.int (Int32.ofNat len)), .unset, .unset, .unset] [])) := entry rfl
  have a31 := hA.1.2.2.2
  have cc1 : Steps p.tables e below (s₁.setTop (entryFrame m #[(.ref b), (.int (Int32.ofNat o)), (.int (Int32.ofNat len))] 6)) (s₁.setTop (mkF m 1 #[.val (.ref b), .val (.int (Int32.ofNat o)), .val (.int (Int32.ofNat len)), .unset, .unset, .unset] [(.int (Int32.ofNat len))])) := Steps.trans c0 (by
    refine XS.iloadN X0.here hexec rfl (hb hbytes d0) rfl ?_
    exact Steps.refl _)
  obtain ⟨T3, B3, X3, ba3, bs3, bv3, bh3, bf3, st3⟩ := X0.anew hexec (atype := .byte) (wk W (.arrayClass .byte)) rfl (by show len * 1 ≤ _; omega) (by omega) (g := (mkF m 1 #[.val (.ref b), .val (.int (Int32.ofNat o)), .val (.int (Int32.ofNat len)), .unset, .unset, .unset] [(.int (Int32.ofNat len))])) rfl (hb hbytes d1) (rest := []) rfl (Nat.le_of_ble_eq_true rfl) (by show 0 + len ≤ len + 2 * len; omega)
  rw [hh0] at ba3 st3
  have kp3 : XT.Kept s T3 := (XT.Kept.of_eq hh0).push bh3
  have hA3 := hA.keep X3.warmed.alike (kp3 _ _ hA.1.1)
  have hne : b ≠ s.heap.size := hA.1.ne
  have cc2 : Steps p.tables e below (s₁.setTop (entryFrame m #[(.ref b), (.int (Int32.ofNat o)), (.int (Int32.ofNat len))] 6)) (T3.setTop (mkF m 9 #[.val (.ref b), .val (.int (Int32.ofNat o)), .val (.int (Int32.ofNat len)), .val (.ref s.heap.size), .unset, .unset] [(.int (Int32.ofNat len)), (.int 0), (.ref s.heap.size), (.int (Int32.ofNat o)), (.ref b)])) := Steps.trans (cc1.trans (st3 _ (Steps.refl _))) (by
    refine XS.astoreN X3.here hexec rfl (hb hbytes d3) rfl rfl rfl ?_
    refine XS.aloadN X3.here hexec rfl (hb hbytes d4) rfl rfl ?_
    refine XS.iloadN X3.here hexec rfl (hb hbytes d5) rfl ?_
    refine XS.aloadN X3.here hexec rfl (hb hbytes d6) rfl rfl ?_
    refine iconstV X3.here hexec rfl 0 (hb hbytes d7) (by decide) ?_
    refine XS.iloadN X3.here hexec rfl (hb hbytes d8) rfl ?_
    exact Steps.refl _)
  obtain ⟨v6, T6, X6, E6, g6⟩ := X3.callS hexec (Cmp5w.law l b A s.heap.size B3 o 0 len w) hown (wks W (staticW U16 115 Cmp5w.yN)) (wk W Cmp5w.tab) (W := 0) (Nat.le_of_ble_eq_true rfl) (Nat.le_of_ble_eq_true rfl) (Nat.le_of_ble_eq_true rfl) (by show 0 + len + 0 ≤ len + 2 * len; omega) (g := (mkF m 9 #[.val (.ref b), .val (.int (Int32.ofNat o)), .val (.int (Int32.ofNat len)), .val (.ref s.heap.size), .unset, .unset] [(.int (Int32.ofNat len)), (.int 0), (.ref s.heap.size), (.int (Int32.ofNat o)), (.ref b)])) rfl (by rw [hml]; rfl) cc2 (argsL := [.ref b, .int (Int32.ofNat o), .ref s.heap.size, .int (Int32.ofNat 0), .int (Int32.ofNat len)]) (rest := []) rfl rfl (by show 2 * 0 + 0 ≤ _; decide) (hb hbytes d9) (⟨rfl, hA3, ba3, hne, l1, by rw [bs3]; simp, hw, hp, hwd⟩)
  obtain ⟨rfl, B6, p6, f6⟩ := E6
  have kp6 : XT.Kept s T6 := kp3.put p6 (Nat.le_refl _)
  have hA6 := hA.keep X6.warmed.alike (kp6 _ _ hA.1.1)
  have z6 : T6.heap.size = s.heap.size + 1 := by rw [p6.2.2, bh3, hh0]; simp
  have cc3 : Steps p.tables e below (s₁.setTop (entryFrame m #[(.ref b), (.int (Int32.ofNat o)), (.int (Int32.ofNat len))] 6)) (T6.setTop (mkF m 23 #[.val (.ref b), .val (.int (Int32.ofNat o)), .val (.int (Int32.ofNat len)), .val (.ref s.heap.size), .val (.int (Int32.ofNat w)), .unset] [(.int (Int32.ofNat len)), (.int (Int32.ofNat o)), (.ref b)])) := Steps.trans g6 (by
    refine XS.istore X6.here hexec rfl (hb hbytes d12) rfl rfl ?_
    refine XS.iload X6.here hexec rfl (hb hbytes d14) rfl ?_
    refine XS.iloadN X6.here hexec rfl (hb hbytes d16) rfl ?_
    refine XS.icmpNo X6.here hexec rfl (hb hbytes d17) rfl (ii_eq_f (ne32 (by omega) (by omega) (by omega))) ?_
    refine XS.aloadN X6.here hexec rfl (hb hbytes d20) rfl rfl ?_
    refine XS.iloadN X6.here hexec rfl (hb hbytes d21) rfl ?_
    refine XS.iloadN X6.here hexec rfl (hb hbytes d22) rfl ?_
    exact Steps.refl _)
  obtain ⟨v9, T9, X9, E9, g9⟩ := X6.callS hexec (ToB.law l b A o len) hown (wks W (staticW U16 119 ToB.yN)) (wk W ToB.tab) (W := 0) (Nat.le_of_ble_eq_true rfl) (Nat.le_of_ble_eq_true rfl) (Nat.le_of_ble_eq_true rfl) (by show 0 + len + 0 + 2 * len ≤ len + 2 * len; omega) (g := (mkF m 23 #[.val (.ref b), .val (.int (Int32.ofNat o)), .val (.int (Int32.ofNat len)), .val (.ref s.heap.size), .val (.int (Int32.ofNat w)), .unset] [(.int (Int32.ofNat len)), (.int (Int32.ofNat o)), (.ref b)])) rfl (by rw [hml]; rfl) cc3 (argsL := [.ref b, .int (Int32.ofNat o), .int (Int32.ofNat len)]) (rest := []) rfl rfl (by show 2 * 0 + 0 ≤ _; decide) (hb hbytes d23) (⟨rfl, hA6, l1, l2, u3.keep X6.warmed.alike (StK.kept kp6)⟩)
  obtain ⟨⟨rfl, B9, n1, n2, n3, n4, n5, n6⟩, z9⟩ := E9
  rw [z6] at n1 z9
  have kp9 : XT.Kept s T9 := kp6.trans n6
  have cc4 : Steps p.tables e below (s₁.setTop (entryFrame m #[(.ref b), (.int (Int32.ofNat o)), (.int (Int32.ofNat len))] 6)) (T9.setTop (mkF m 26 #[.val (.ref b), .val (.int (Int32.ofNat o)), .val (.int (Int32.ofNat len)), .val (.ref s.heap.size), .val (.int (Int32.ofNat w)), .unset] [(.ref T6.heap.size)])) := g9
  have cz : Steps p.tables e below (s₁.setTop (entryFrame m #[(.ref b), (.int (Int32.ofNat o)), (.int (Int32.ofNat len))] 6)) (T9.setTop (mkF m 26 #[.val (.ref b), .val (.int (Int32.ofNat o)), .val (.int (Int32.ofNat len)), .val (.ref s.heap.size), .val (.int (Int32.ofNat w)), .unset] [(.ref (s.heap.size + 1))])) := by
    have := cc4
    rw [z6] at this
    exact this
  have cc5 : Steps p.tables e below (s₁.setTop (entryFrame m #[(.ref b), (.int (Int32.ofNat o)), (.int (Int32.ofNat len))] 6)) (T9.setTop (mkF m 32 #[.val (.ref b), .val (.int (Int32.ofNat o)), .val (.int (Int32.ofNat len)), .val (.ref s.heap.size), .val (.int (Int32.ofNat w)), .val (.ref (s.heap.size + 1))] [(.int (Int32.ofNat w)), (.ref (s.heap.size + 1))])) := Steps.trans cz (by
    refine XS.astore X9.here hexec rfl (hb hbytes d26) rfl rfl rfl ?_
    refine XS.aload X9.here hexec rfl (hb hbytes d28) rfl rfl ?_
    refine XS.iload X9.here hexec rfl (hb hbytes d30) rfl ?_
    exact Steps.refl _)
  obtain ⟨v12, T12, X12, E12, g12⟩ := X9.callS hexec (GetC.law l (s.heap.size + 1) B9 w (lo8 (cv A (o + w))) (hi8 (cv A (o + w)))) hown (wks W (staticW U16 71 GetC.yN)) (wk W GetC.tab) (W := 0) (Nat.le_of_ble_eq_true rfl) (Nat.le_of_ble_eq_true rfl) (Nat.le_of_ble_eq_true rfl) (by show 0 + len + 0 + 2 * len + 0 ≤ len + 2 * len; omega) (g := (mkF m 32 #[.val (.ref b), .val (.int (Int32.ofNat o)), .val (.int (Int32.ofNat len)), .val (.ref s.heap.size), .val (.int (Int32.ofNat w)), .val (.ref (s.heap.size + 1))] [(.int (Int32.ofNat w)), (.ref (s.heap.size + 1))])) rfl (by rw [hml]; rfl) cc5 (argsL := [.ref (s.heap.size + 1), .int (Int32.ofNat w)]) (rest := []) rfl rfl (by show 2 * 0 + 0 ≤ _; decide) (hb hbytes d32) (⟨rfl, n1, by rw [n5 _ (by omega), wb_lo], by rw [n5 _ (by omega), wb_hi], u3.keep X9.warmed.alike (StK.kept kp9)⟩)
  obtain ⟨rfl, q12⟩ := E12
  have cc6 : Steps p.tables e below (s₁.setTop (entryFrame m #[(.ref b), (.int (Int32.ofNat o)), (.int (Int32.ofNat len))] 6)) (T12.setTop (mkF m 35 #[.val (.ref b), .val (.int (Int32.ofNat o)), .val (.int (Int32.ofNat len)), .val (.ref s.heap.size), .val (.int (Int32.ofNat w)), .val (.ref (s.heap.size + 1))] [(.int (pairCh (lo8 (cv A (o + w))) (hi8 (cv A (o + w)))))])) := g12
  have cy : Steps p.tables e below (s₁.setTop (entryFrame m #[(.ref b), (.int (Int32.ofNat o)), (.int (Int32.ofNat len))] 6)) (T12.setTop (mkF m 35 #[.val (.ref b), .val (.int (Int32.ofNat o)), .val (.int (Int32.ofNat len)), .val (.ref s.heap.size), .val (.int (Int32.ofNat w)), .val (.ref (s.heap.size + 1))] [(.int (cv A (o + w)))])) := by
    have := cc6
    rw [pair_says (hA.rng (by omega)).1 (hA.rng (by omega)).2] at this
    exact this
  have cc7 : Steps p.tables e below (s₁.setTop (entryFrame m #[(.ref b), (.int (Int32.ofNat o)), (.int (Int32.ofNat len))] 6)) (T12.setTop (mkF m 56 #[.val (.ref b), .val (.int (Int32.ofNat o)), .val (.int (Int32.ofNat len)), .val (.ref s.heap.size), .val (.int (Int32.ofNat w)), .val (.ref (s.heap.size + 1))] [(.ref (s.heap.size + 1))])) := Steps.trans cy (by
    refine sipushV X12.here hexec rfl 255 (hb hbytes d35) (by decide) ?_
    refine XS.icmpYes X12.here hexec rfl (pc0 := 38) rfl (hb hbytes d38) rfl (ii_gt_t hwd) (by decide) rfl ?_
    refine XS.aload X12.here hexec rfl (hb hbytes d54) rfl rfl ?_
    exact Steps.refl _)
  have X13 := X12.wide (L' := []) (cells' := 2) (slots' := len + 2 * len) (fun x hx hlt => by
    simp only [List.nil_append, List.append_nil, copyLocs, List.mem_map, List.mem_range] at hx
    obtain ⟨i, -, rfl⟩ := hx
    exact absurd hlt (Nat.lt_irrefl _)) (by omega) (by omega)
  have al := X9.warmed.alike.symm.trans X12.warmed.alike
  exact ⟨T12, some (.ref (s.heap.size + 1)), _, _, _, X13, rfl, rfl, rfl, (fun h => by cases h), ⟨rfl, B9, n1.mv al q12, n2, by rw [al.findClass]; exact n3, n4, n5, kp9.trans (XT.Kept.of_eq q12), by rw [q12]; exact z9⟩, fun fs hl => cc7.trans (X13.areturnOut hexec rfl hret rfl (hb hbytes d56) hl)⟩
end Cmp3w
theorem top_bit {n : Nat} (h0 : 0 < n) (h1 : n < 2 ^ 30) : lo8 (XT.ushr (Int32.ofNat n - Int32.ofNat (2 * n)) (31 : Int32)) = 1 := by
  have e : XT.ushr (Int32.ofNat n - Int32.ofNat (2 * n)) (31 : Int32) = 1 := by
    apply Int32.toBitVec_inj.mp
    apply BitVec.eq_of_toNat_eq
    show (((BitVec.ofNat 32 n - BitVec.ofNat 32 (2 * n)) >>> 31#32)).toNat = 1
    have e1 : (BitVec.ofNat 32 n).toNat = n := by rw [BitVec.toNat_ofNat]; exact Nat.mod_eq_of_lt (by omega)
    have e2 : (BitVec.ofNat 32 (2 * n)).toNat = 2 * n := by rw [BitVec.toNat_ofNat]; exact Nat.mod_eq_of_lt (by omega)
    rw [BitVec.ushiftRight_eq', BitVec.toNat_ushiftRight, BitVec.toNat_sub, e1, e2]
    show ((2 ^ 32 - 2 * n + n) % 2 ^ 32) >>> 31 = 1
    rw [Nat.mod_eq_of_lt (by omega), Nat.shiftRight_eq_div_pow]
    omega
  rw [e]; decide
namespace CodW
def yN : MethodName := ⟨"java/lang/StringUTF16", "coderFromArrayLen", "([BI)B"⟩
abbrev yB : ByteArray := jdk_52_method_15_code
theorem d0 : decode yB 0 = .ok (.iload_n 1, 1) := by decide +kernel
theorem d1 : decode yB 1 = .ok (.aload_n 0, 1) := by decide +kernel
theorem d2 : decode yB 2 = .ok (.arraylength, 1) := by decide +kernel
theorem d3 : decode yB 3 = .ok (.isub, 1) := by decide +kernel
theorem d4 : decode yB 4 = .ok (.bipush 31, 2) := by decide +kernel
theorem d6 : decode yB 6 = .ok (.iushr, 1) := by decide +kernel
theorem d7 : decode yB 7 = .ok (.i2b, 1) := by decide +kernel
theorem d8 : decode yB 8 = .ok (.ireturn, 1) := by decide +kernel
def site : List Cond := []
def tab : Cond := tabOf yN yB 2 (some .byte) site
def P (d : Addr) (B : Cell) (n : Nat) (args : Array Value) (s : State) : Prop := args = #[.ref d, .int (Int32.ofNat n)] ∧ XT.Arr .byte d B s ∧ 0 < n ∧ n < 2 ^ 30 ∧ B.slots.size = 2 * n
def E (r : Option Value) (s u : State) : Prop := XT.PureE (some (.int 1)) r s u
theorem law (l : Launch) (d : Addr) (B : Cell) (n : Nat) : Law l yN 2 2 0 0 yB 2 (some .byte) site (P d B n) E [] 0 0 := by
  refine Law.of_walk (plainFor_of_name (by decide +kernel)) (by decide +kernel) (by decide +kernel) (by decide) (fun _ _ h => by rw [h.1]; rfl) (fun _ U U' hal hh h => ⟨h.1, h.2.1.mv hal hh, h.2.2⟩) (fun r U U' V V' h1 hal h2 h => XT.PureE.mv r U U' V V' h1 hal h2 h) ?_
  intro p e s m args below meth c s₁ X0 hexec hbytes hml hret hlk hnm hown hh0 W hP
  obtain ⟨rfl, hB, h0, h1, h2⟩ := hP
  have c0 : Steps p.tables e below (s₁.setTop (entryFrame m #[(.ref d), (.int (Int32.ofNat n))] 2)) (s₁.setTop (mkF m 0 #[.val (.ref d), .val (.int (Int32.ofNat n))] [])) := entry rfl
  have hB0 := hB.mv X0.warmed.alike hh0
  have cc1 : Steps p.tables e below (s₁.setTop (entryFrame m #[(.ref d), (.int (Int32.ofNat n))] 2)) (s₁.setTop (mkF m 8 #[.val (.ref d), .val (.int (Int32.ofNat n))] [(.int ((XT.ushr ((Int32.ofNat n) - (Int32.ofNat B.slots.size)) (31 : Int32)).toInt8.toInt32))])) := Steps.trans c0 (by
    refine XS.iloadN X0.here hexec rfl (hb hbytes d0) rfl ?_
    refine XS.aloadN X0.here hexec rfl (hb hbytes d1) rfl rfl ?_
    refine X0.alen hexec hB0 rfl rfl (hb hbytes d2) ?_
    refine XS.isub X0.here hexec rfl (hb hbytes d3) rfl ?_
    refine bipushV X0.here hexec rfl 31 (hb hbytes d4) (by decide) ?_
    refine XT.iushr X0.here hexec rfl (hb hbytes d6) rfl ?_
    refine XT.i2b X0.here hexec rfl (hb hbytes d7) rfl ?_
    exact Steps.refl _)
  have cz : Steps p.tables e below (s₁.setTop (entryFrame m #[(.ref d), (.int (Int32.ofNat n))] 2)) (s₁.setTop (mkF m 8 #[.val (.ref d), .val (.int (Int32.ofNat n))] [(.int 1)])) := by
    have := cc1
    rw [h2] at this
    rw [← top_bit h0 h1]
    exact this
  exact ⟨s₁, some (.int 1), _, _, _, X0, rfl, rfl, rfl, (fun h => by cases h), ⟨rfl, hh0⟩, fun fs hl => cz.trans (X0.ireturnOut hexec hret rfl (Or.inr (Or.inr (Or.inl rfl))) (hb hbytes d8) hl)⟩
end CodW
/-- the String at a is UTF-16 over a new byte[]: the bytes of the len chars of A from o on; every cell but a is kept -/
def GotW (a : Addr) (D : Cell) (fV fC : Field) (A : Cell) (o len : Nat) (r : Option Value) (s u : State) : Prop := r = none ∧ ∃ D' V : Cell, Blank "java/lang/String" a D' u ∧ Same D D' [fV.slot, fC.slot] ∧ D'.slots[fV.slot]? = some (.ref (s.heap.size + 1)) ∧ D'.slots[fC.slot]? = some (.int 1) ∧ XT.Arr .byte (s.heap.size + 1) V u ∧ V.vm = .none ∧ u.vm.findClass "[B" = some V.cls ∧ V.slots.size = 2 * len ∧ (∀ j, j < 2 * len → V.slots[j]? = some (wb A o j)) ∧ (∀ (y : Addr) (c : Cell), y ≠ a → s.heap[y]? = some c → u.heap[y]? = some c) ∧ u.heap.size = s.heap.size + 2
theorem GotW.mv {a : Addr} {D A : Cell} {fV fC : Field} {o len : Nat} : ∀ r (U U' V V' : State), U'.heap = U.heap → V.vm.Alike V'.vm → V'.heap = V.heap → GotW a D fV fC A o len r U V → GotW a D fV fC A o len r U' V' :=
  fun r U U' V V' h1 hal h2 ⟨e0, D', X, a1, a2, a3, a4, a5, a6, a7, a8, a9, a10, a11⟩ => ⟨e0, D', X, a1.mv hal h2, a2, by rw [h1]; exact a3, a4, by rw [h1]; exact a5.mv hal h2, a6, by rw [hal.findClass]; exact a7, a8, a9, by rw [h1, h2]; exact a10, by rw [h1, h2]; exact a11⟩
namespace New4w
def yN : MethodName := ⟨"java/lang/String", "<init>", "([CIILjava/lang/Void;)V"⟩
abbrev yB : ByteArray := jdk_42_method_149_code
theorem d0 : decode yB 0 = .ok (.aload_n 0, 1) := by decide +kernel
theorem d1 : decode yB 1 = .ok (.invokespecial 1, 3) := by decide +kernel
theorem d4 : decode yB 4 = .ok (.iload_n 3, 1) := by decide +kernel
theorem d5 : decode yB 5 = .ok (.ifCond .ne 22, 3) := by decide +kernel
theorem d27 : decode yB 27 = .ok (.getstatic 38, 3) := by decide +kernel
theorem d30 : decode yB 30 = .ok (.ifCond .eq 28, 3) := by decide +kernel
theorem d33 : decode yB 33 = .ok (.aload_n 1, 1) := by decide +kernel
theorem d34 : decode yB 34 = .ok (.iload_n 2, 1) := by decide +kernel
theorem d35 : decode yB 35 = .ok (.iload_n 3, 1) := by decide +kernel
theorem d36 : decode yB 36 = .ok (.invokestatic 177, 3) := by decide +kernel
theorem d39 : decode yB 39 = .ok (.astore 5, 2) := by decide +kernel
theorem d41 : decode yB 41 = .ok (.aload_n 0, 1) := by decide +kernel
theorem d42 : decode yB 42 = .ok (.aload 5, 2) := by decide +kernel
theorem d44 : decode yB 44 = .ok (.iload_n 3, 1) := by decide +kernel
theorem d45 : decode yB 45 = .ok (.invokestatic 47, 3) := by decide +kernel
theorem d48 : decode yB 48 = .ok (.putfield 15, 3) := by decide +kernel
theorem d51 : decode yB 51 = .ok (.aload_n 0, 1) := by decide +kernel
theorem d52 : decode yB 52 = .ok (.aload 5, 2) := by decide +kernel
theorem d54 : decode yB 54 = .ok (.putfield 9, 3) := by decide +kernel
theorem d57 : decode yB 57 = .ok (.return_, 1) := by decide +kernel
def site : List Cond := [.fieldLink "java/lang/String" 38 "java/lang/String" "COMPACT_STRINGS" "Z", Cmp3w.tab, CodW.tab, .laysFinal "java/lang/String" "java/lang/String" "value" "[B", .fieldLink "java/lang/String" 9 "java/lang/String" "value" "[B", .laysFinal "java/lang/String" "java/lang/String" "coder" "B", .fieldLink "java/lang/String" 15 "java/lang/String" "coder" "B"] ++ objW "java/lang/String" 1 ++ staticW "java/lang/String" 177 Cmp3w.yN ++ staticW "java/lang/String" 47 CodW.yN
def tab : Cond := tabOf yN yB 6 none site
def P (a : Addr) (D : Cell) (fV fC : Field) (b : Addr) (A : Cell) (z : Int32) (o len w : Nat) (args : Array Value) (s : State) : Prop := args = #[.ref a, .ref b, .int (Int32.ofNat o), .int (Int32.ofNat len), .null] ∧ Blank "java/lang/String" a D s ∧ Found "java/lang/String" "value" "[B" fV s ∧ Found "java/lang/String" "coder" "B" fC s ∧ Ch b A s ∧ StaticIs s "java/lang/String" "COMPACT_STRINGS" "Z" (.int z) ∧ ¬ z = 0 ∧ o + len ≤ A.slots.size ∧ 2 * len ≤ 536870912 ∧ w < len ∧ (∀ i, i < w → ¬ 255 < cv A (o + i)) ∧ 255 < cv A (o + w) ∧ U3 s
def E (a : Addr) (D : Cell) (fV fC : Field) (A : Cell) (o len : Nat) (r : Option Value) (s u : State) : Prop := GotW a D fV fC A o len r s u
theorem law (l : Launch) (a : Addr) (D : Cell) (fV fC : Field) (b : Addr) (A : Cell) (z : Int32) (o len w : Nat) : Law l yN 5 4 4 61 yB 6 none site (P a D fV fC b A z o len w) (E a D fV fC A o len) [⟨a, fC.slot⟩, ⟨a, fV.slot⟩] 2 (len + 2 * len) := by
  refine Law.of_walk (plainFor_of_name (by decide +kernel)) (by decide +kernel) (by decide +kernel) (by decide) (fun _ _ h => by rw [h.1]; rfl) (fun _ U U' hal hh h => ⟨h.1, h.2.1.mv hal hh, h.2.2.1.al hal, h.2.2.2.1.al hal, h.2.2.2.2.1.mv hal hh, h.2.2.2.2.2.1.there hal hh, h.2.2.2.2.2.2.1, h.2.2.2.2.2.2.2.1, h.2.2.2.2.2.2.2.2.1, h.2.2.2.2.2.2.2.2.2.1, h.2.2.2.2.2.2.2.2.2.2.1, h.2.2.2.2.2.2.2.2.2.2.2.1, h.2.2.2.2.2.2.2.2.2.2.2.2.mv hal hh⟩) (fun r U U' V V' h1 hal h2 h => GotW.mv r U U' V V' h1 hal h2 h) ?_
  intro p e s m args below meth c s₁ X0 hexec hbytes hml hret hlk hnm hown hh0 W hP
  obtain ⟨rfl, hB, f1, f2, hA, s1, hz, l1, l2, hw, hp, hwd, u3⟩ := hP
  have c0 : Steps p.tables e below (s₁.setTop (entryFrame m #[(.ref a), (.ref b), (.int (Int32.ofNat o)), (.int (Int32.ofNat len)), .null] 6)) (s₁.setTop (mkF m 0 #[.val (.ref a), .val (.ref b), .val (.int (Int32.ofNat o)), .val (.int (Int32.ofNat len)), .val .null, .unset] [])) := entry rfl
  have a31 := hA.1.2.2.2
  have cc1 : Steps p.tables e below (s₁.setTop (entryFrame m #[(.ref a), (.ref b), (.int (Int32.ofNat o)), (.int (Int32.ofNat len)), .null] 6)) (s₁.setTop (mkF m 1 #[.val (.ref a), .val (.ref b), .val (.int (Int32.ofNat o)), .val (.int (Int32.ofNat len)), .val .null, .unset] [(.ref a)])) := Steps.trans c0 (by
    refine XS.aloadN X0.here hexec rfl (hb hbytes d0) rfl rfl ?_
    exact Steps.refl _)
  obtain ⟨T3, X3, q3, st3⟩ := X0.oinit hexec hown (wks W (objW "java/lang/String" 1)) (g := (mkF m 1 #[.val (.ref a), .val (.ref b), .val (.int (Int32.ofNat o)), .val (.int (Int32.ofNat len)), .val .null, .unset] [(.ref a)])) rfl (by rw [hml]; rfl) (rest := []) rfl (hb hbytes d1) (W := 0) (by show 2 * 0 + 0 ≤ _; decide) (Nat.le_of_ble_eq_true rfl) (Nat.le_of_ble_eq_true rfl)
  have hh3 := q3.trans hh0
  have cc2 : Steps p.tables e below (s₁.setTop (entryFrame m #[(.ref a), (.ref b), (.int (Int32.ofNat o)), (.int (Int32.ofNat len)), .null] 6)) (T3.setTop (mkF m 27 #[.val (.ref a), .val (.ref b), .val (.int (Int32.ofNat o)), .val (.int (Int32.ofNat len)), .val .null, .unset] [])) := Steps.trans (cc1.trans (st3 _ (Steps.refl _))) (by
    refine XS.iloadN X3.here hexec rfl (hb hbytes d4) rfl ?_
    refine XS.ifYes X3.here hexec rfl (pc0 := 5) rfl (hb hbytes d5) rfl (i0_ne_t (nz32 (by omega) (by omega))) (by decide) rfl ?_
    exact Steps.refl _)
  obtain ⟨T5, X5, q5, st5⟩ := X3.sget hexec hown (wk W (.fieldLink "java/lang/String" 38 "java/lang/String" "COMPACT_STRINGS" "Z")) s1 (fun _ _ h => by rw [hh3]; exact h) (g := (mkF m 27 #[.val (.ref a), .val (.ref b), .val (.int (Int32.ofNat o)), .val (.int (Int32.ofNat len)), .val .null, .unset] [])) rfl (hb hbytes d27)
  have hh5 := q5.trans hh3
  have cc3 : Steps p.tables e below (s₁.setTop (entryFrame m #[(.ref a), (.ref b), (.int (Int32.ofNat o)), (.int (Int32.ofNat len)), .null] 6)) (T5.setTop (mkF m 36 #[.val (.ref a), .val (.ref b), .val (.int (Int32.ofNat o)), .val (.int (Int32.ofNat len)), .val .null, .unset] [(.int (Int32.ofNat len)), (.int (Int32.ofNat o)), (.ref b)])) := Steps.trans (cc2.trans (st5 _ (Steps.refl _))) (by
    refine XS.ifNo X5.here hexec rfl (hb hbytes d30) rfl (i0_eq_f hz) ?_
    refine XS.aloadN X5.here hexec rfl (hb hbytes d33) rfl rfl ?_
    refine XS.iloadN X5.here hexec rfl (hb hbytes d34) rfl ?_
    refine XS.iloadN X5.here hexec rfl (hb hbytes d35) rfl ?_
    exact Steps.refl _)
  obtain ⟨v8, T8, X8, E8, g8⟩ := X5.callS hexec (Cmp3w.law l b A o len w) hown (wks W (staticW "java/lang/String" 177 Cmp3w.yN)) (wk W Cmp3w.tab) (W := 0) (Nat.le_of_ble_eq_true rfl) (Nat.le_of_ble_eq_true rfl) (Nat.le_refl _) (by show 0 + (len + 2 * len) ≤ len + 2 * len; omega) (g := (mkF m 36 #[.val (.ref a), .val (.ref b), .val (.int (Int32.ofNat o)), .val (.int (Int32.ofNat len)), .val .null, .unset] [(.int (Int32.ofNat len)), (.int (Int32.ofNat o)), (.ref b)])) rfl (by rw [hml]; rfl) cc3 (argsL := [.ref b, .int (Int32.ofNat o), .int (Int32.ofNat len)]) (rest := []) rfl rfl (by show 2 * 0 + 0 ≤ _; decide) (hb hbytes d36) (⟨rfl, hA.mv X5.warmed.alike hh5, l1, l2, hw, hp, hwd, u3.mv X5.warmed.alike hh5⟩)
  obtain ⟨rfl, N, n1, n2, n3, n4, n5, n6, z8⟩ := NewW.mv _ T5 s _ _ hh5.symm (Vm.Alike.refl _) rfl E8
  have hB1 := hB.keep X8.warmed.alike (n6 _ _ hB.1)
  have hlt : a < s.heap.size := (Array.getElem?_eq_some_iff.mp hB.1).1
  have hne : s.heap.size + 1 ≠ a := Nat.ne_of_gt (Nat.lt_succ_of_lt hlt)
  have cc4 : Steps p.tables e below (s₁.setTop (entryFrame m #[(.ref a), (.ref b), (.int (Int32.ofNat o)), (.int (Int32.ofNat len)), .null] 6)) (T8.setTop (mkF m 45 #[.val (.ref a), .val (.ref b), .val (.int (Int32.ofNat o)), .val (.int (Int32.ofNat len)), .val .null, .val (.ref (s.heap.size + 1))] [(.int (Int32.ofNat len)), (.ref (s.heap.size + 1)), (.ref a)])) := Steps.trans g8 (by
    refine XS.astore X8.here hexec rfl (hb hbytes d39) rfl rfl rfl ?_
    refine XS.aloadN X8.here hexec rfl (hb hbytes d41) rfl rfl ?_
    refine XS.aload X8.here hexec rfl (hb hbytes d42) rfl rfl ?_
    refine XS.iloadN X8.here hexec rfl (hb hbytes d44) rfl ?_
    exact Steps.refl _)
  obtain ⟨v11, T11, X11, E11, g11⟩ := X8.callS hexec (CodW.law l (s.heap.size + 1) N len) hown (wks W (staticW "java/lang/String" 47 CodW.yN)) (wk W CodW.tab) (W := 1) (Nat.le_of_ble_eq_true rfl) (Nat.le_of_ble_eq_true rfl) (Nat.le_refl _) (by show 0 + (len + 2 * len) + 0 ≤ len + 2 * len; omega) (g := (mkF m 45 #[.val (.ref a), .val (.ref b), .val (.int (Int32.ofNat o)), .val (.int (Int32.ofNat len)), .val .null, .val (.ref (s.heap.size + 1))] [(.int (Int32.ofNat len)), (.ref (s.heap.size + 1)), (.ref a)])) rfl (by rw [hml]; rfl) cc4 (argsL := [.ref (s.heap.size + 1), .int (Int32.ofNat len)]) (rest := [.ref a]) rfl rfl (by show 2 * 0 + (1 + 0) ≤ _; decide) (hb hbytes d45) (⟨rfl, n1, by omega, by omega, n4⟩)
  obtain ⟨rfl, q11⟩ := E11
  have hB11 := hB1.mv (X8.warmed.alike.symm.trans X11.warmed.alike) q11
  have cc5 : Steps p.tables e below (s₁.setTop (entryFrame m #[(.ref a), (.ref b), (.int (Int32.ofNat o)), (.int (Int32.ofNat len)), .null] 6)) (T11.setTop (mkF m 48 #[.val (.ref a), .val (.ref b), .val (.int (Int32.ofNat o)), .val (.int (Int32.ofNat len)), .val .null, .val (.ref (s.heap.size + 1))] [(.int 1), (.ref a)])) := g11
  obtain ⟨T13, X13, p13, bl13, sl13, st13⟩ := X11.finit hexec hown (wk W (.fieldLink "java/lang/String" 15 "java/lang/String" "coder" "B")) (Or.inr ⟨_, (wk W (.laysFinal "java/lang/String" "java/lang/String" "coder" "B"))⟩) (Or.inl ⟨rfl, hnm⟩) f2 (Or.inl rfl) hB11 (t := .byte) (by decide +kernel) rfl (g := (mkF m 48 #[.val (.ref a), .val (.ref b), .val (.int (Int32.ofNat o)), .val (.int (Int32.ofNat len)), .val .null, .val (.ref (s.heap.size + 1))] [(.int 1), (.ref a)])) rfl (rest := []) rfl (hb hbytes d48)
  have cc6 : Steps p.tables e below (s₁.setTop (entryFrame m #[(.ref a), (.ref b), (.int (Int32.ofNat o)), (.int (Int32.ofNat len)), .null] 6)) (T13.setTop (mkF m 54 #[.val (.ref a), .val (.ref b), .val (.int (Int32.ofNat o)), .val (.int (Int32.ofNat len)), .val .null, .val (.ref (s.heap.size + 1))] [(.ref (s.heap.size + 1)), (.ref a)])) := Steps.trans (cc5.trans (st13 _ (Steps.refl _))) (by
    refine XS.aloadN X13.here hexec rfl (hb hbytes d51) rfl rfl ?_
    refine XS.aload X13.here hexec rfl (hb hbytes d52) rfl rfl ?_
    exact Steps.refl _)
  obtain ⟨T15, X15, p15, bl15, sl15, st15⟩ := X13.finit hexec hown (wk W (.fieldLink "java/lang/String" 9 "java/lang/String" "value" "[B")) (Or.inr ⟨_, (wk W (.laysFinal "java/lang/String" "java/lang/String" "value" "[B"))⟩) (Or.inl ⟨rfl, hnm⟩) f1 (Or.inl rfl) bl13 (t := (.array .byte)) (by decide +kernel) rfl (g := (mkF m 54 #[.val (.ref a), .val (.ref b), .val (.int (Int32.ofNat o)), .val (.int (Int32.ofNat len)), .val .null, .val (.ref (s.heap.size + 1))] [(.ref (s.heap.size + 1)), (.ref a)])) rfl (rest := []) rfl (hb hbytes d54)
  have cc7 : Steps p.tables e below (s₁.setTop (entryFrame m #[(.ref a), (.ref b), (.int (Int32.ofNat o)), (.int (Int32.ofNat len)), .null] 6)) (T15.setTop (mkF m 57 #[.val (.ref a), .val (.ref b), .val (.int (Int32.ofNat o)), .val (.int (Int32.ofNat len)), .val .null, .val (.ref (s.heap.size + 1))] [])) := (cc6.trans (st15 _ (Steps.refl _)))
  have ap := apart (Or.inr ⟨_, (wk W (.laysFinal "java/lang/String" "java/lang/String" "value" "[B"))⟩) (Or.inr ⟨_, (wk W (.laysFinal "java/lang/String" "java/lang/String" "coder" "B"))⟩) f1 f2 (t₁ := .array .byte) (t₂ := .byte) (by decide +kernel) (by decide +kernel) (by decide)
  have al := X8.warmed.alike.symm.trans X15.warmed.alike
  have n7 : T11.heap[s.heap.size + 1]? = some N := by rw [q11]; exact n1.1
  exact ⟨T15, none, _, _, _, X15, by simp, rfl, by omega, (fun _ => rfl), ⟨rfl, _, N, bl15, ((Same.refl D _).set _ (by simp)).set _ (by simp), sl15, (Cell.slots_setSlot_ne _ ap).trans sl13, n1.keep al (p15.other hne (p13.other hne n7)), n2, by rw [al.findClass]; exact n3, n4, n5, fun y c h1 h2 => p15.other h1 (p13.other h1 (by rw [q11]; exact n6 y c h2)), by rw [p15.2.2, p13.2.2, q11]; exact z8⟩, fun fs hl => cc7.trans (X15.returnOut hexec hret (hb hbytes d57) hl)⟩
end New4w
namespace New1w
def yN : MethodName := ⟨"java/lang/String", "<init>", "([C)V"⟩
abbrev yB : ByteArray := jdk_42_method_3_code
theorem d0 : decode yB 0 = .ok (.aload_n 0, 1) := by decide +kernel
theorem d1 : decode yB 1 = .ok (.aload_n 1, 1) := by decide +kernel
theorem d2 : decode yB 2 = .ok (.iconst 0, 1) := by decide +kernel
theorem d3 : decode yB 3 = .ok (.aload_n 1, 1) := by decide +kernel
theorem d4 : decode yB 4 = .ok (.arraylength, 1) := by decide +kernel
theorem d5 : decode yB 5 = .ok (.aconst_null, 1) := by decide +kernel
theorem d6 : decode yB 6 = .ok (.invokespecial 27, 3) := by decide +kernel
theorem d9 : decode yB 9 = .ok (.return_, 1) := by decide +kernel
def site : List Cond := [New4w.tab] ++ initW "java/lang/String" 27 New4w.yN
def tab : Cond := tabOf yN yB 2 none site
def P (a : Addr) (D : Cell) (fV fC : Field) (b : Addr) (A : Cell) (z : Int32) (w : Nat) (args : Array Value) (s : State) : Prop := args = #[.ref a, .ref b] ∧ Blank "java/lang/String" a D s ∧ Found "java/lang/String" "value" "[B" fV s ∧ Found "java/lang/String" "coder" "B" fC s ∧ Ch b A s ∧ StaticIs s "java/lang/String" "COMPACT_STRINGS" "Z" (.int z) ∧ ¬ z = 0 ∧ 2 * A.slots.size ≤ 536870912 ∧ w < A.slots.size ∧ (∀ i, i < w → ¬ 255 < cv A i) ∧ 255 < cv A w ∧ U3 s
def E (a : Addr) (D : Cell) (fV fC : Field) (A : Cell) (r : Option Value) (s u : State) : Prop := GotW a D fV fC A 0 A.slots.size r s u
theorem law (l : Launch) (a : Addr) (D : Cell) (fV fC : Field) (b : Addr) (A : Cell) (z : Int32) (w : Nat) : Law l yN 2 1 5 78 yB 2 none site (P a D fV fC b A z w) (E a D fV fC A) [⟨a, fC.slot⟩, ⟨a, fV.slot⟩] 2 (A.slots.size + 2 * A.slots.size) := by
  refine Law.of_walk (plainFor_of_name (by decide +kernel)) (by decide +kernel) (by decide +kernel) (by decide) (fun _ _ h => by rw [h.1]; rfl) (fun _ U U' hal hh h => ⟨h.1, h.2.1.mv hal hh, h.2.2.1.al hal, h.2.2.2.1.al hal, h.2.2.2.2.1.mv hal hh, h.2.2.2.2.2.1.there hal hh, h.2.2.2.2.2.2.1, h.2.2.2.2.2.2.2.1, h.2.2.2.2.2.2.2.2.1, h.2.2.2.2.2.2.2.2.2.1, h.2.2.2.2.2.2.2.2.2.2.1, h.2.2.2.2.2.2.2.2.2.2.2.mv hal hh⟩) (fun r U U' V V' h1 hal h2 h => GotW.mv r U U' V V' h1 hal h2 h) ?_
  intro p e s m args below meth c s₁ X0 hexec hbytes hml hret hlk hnm hown hh0 W hP
  obtain ⟨rfl, hB, f1, f2, hA, s1, hz, l2, hw, hp, hwd, u3⟩ := hP
  have c0 : Steps p.tables e below (s₁.setTop (entryFrame m #[(.ref a), (.ref b)] 2)) (s₁.setTop (mkF m 0 #[.val (.ref a), .val (.ref b)] [])) := entry rfl
  have cc1 : Steps p.tables e below (s₁.setTop (entryFrame m #[(.ref a), (.ref b)] 2)) (s₁.setTop (mkF m 6 #[.val (.ref a), .val (.ref b)] [.null, (.int (Int32.ofNat A.slots.size)), (.int 0), (.ref b), (.ref a)])) := Steps.trans c0 (by
    refine XS.aloadN X0.here hexec rfl (hb hbytes d0) rfl rfl ?_
    refine XS.aloadN X0.here hexec rfl (hb hbytes d1) rfl rfl ?_
    refine iconstV X0.here hexec rfl 0 (hb hbytes d2) (by decide) ?_
    refine XS.aloadN X0.here hexec rfl (hb hbytes d3) rfl rfl ?_
    refine X0.alen hexec (hA.1.mv X0.warmed.alike hh0) rfl rfl (hb hbytes d4) ?_
    refine XS.aconstNull X0.here hexec rfl (hb hbytes d5) ?_
    exact Steps.refl _)
  obtain ⟨v3, T3, X3, E3, g3⟩ := X0.callN hexec (New4w.law l a D fV fC b A z 0 A.slots.size w) rfl hown (wks W (initW "java/lang/String" 27 New4w.yN)) (wk W New4w.tab) (W := 0) (Nat.le_of_ble_eq_true rfl) (Nat.le_of_ble_eq_true rfl) (Nat.le_refl _) (by show 0 + (A.slots.size + 2 * A.slots.size) ≤ A.slots.size + 2 * A.slots.size; omega) (g := (mkF m 6 #[.val (.ref a), .val (.ref b)] [.null, (.int (Int32.ofNat A.slots.size)), (.int 0), (.ref b), (.ref a)])) rfl (by rw [hml]; rfl) cc1 (argsL := [.ref b, .int (Int32.ofNat 0), .int (Int32.ofNat A.slots.size), .null]) (rest := []) rfl rfl (by show 2 * 0 + 0 ≤ _; decide) (hb hbytes d6) (⟨rfl, hB.mv X0.warmed.alike hh0, f1.al X0.warmed.alike, f2.al X0.warmed.alike, hA.mv X0.warmed.alike hh0, s1.there X0.warmed.alike hh0, hz, by omega, l2, hw, fun i hi => by rw [Nat.zero_add]; exact hp i hi, by rw [Nat.zero_add]; exact hwd, u3.mv X0.warmed.alike hh0⟩)
  have e0 := GotW.mv _ s₁ s _ _ hh0.symm (Vm.Alike.refl _) rfl E3
  obtain rfl := e0.1
  have cc2 : Steps p.tables e below (s₁.setTop (entryFrame m #[(.ref a), (.ref b)] 2)) (T3.setTop (mkF m 9 #[.val (.ref a), .val (.ref b)] [])) := g3
  exact ⟨T3, none, _, _, _, X3, by simp, by omega, by omega, (fun _ => rfl), e0, fun fs hl => cc2.trans (X3.returnOut hexec hret (hb hbytes d9) hl)⟩
end New1w
end StrChars
end Jvm.Pilot.@@N@@
namespace Jvm.Pilot.@@N@@
namespace StrChars.Road
open Jvm Sem ClassFile Op Lib Jvm.Stand Jvm.Free Jvm.Free.XT
open Jvm.Lib.Cold (StaticIs)
/-- every table word that New1w's law asks, flat -/
abbrev wordsW : List Jvm.Cond := [.code New1w.yN New1w.yB 2 none, .initialized ST, .methodLink ST 27 New4w.yN, .instanceMethod New4w.yN,
  .code New4w.yN New4w.yB 6 none, .fieldLink ST 38 ST "COMPACT_STRINGS" "Z", .laysFinal ST ST "value" "[B", .fieldLink ST 9 ST "value" "[B", .laysFinal ST ST "coder" "B", .fieldLink ST 15 ST "coder" "B",
  .methodLink ST 1 Lib.objectInit, .instanceMethod Lib.objectInit, .code Lib.objectInit ⟨#[0xb1]⟩ 1 none, .methodLink ST 177 Cmp3w.yN, .static Cmp3w.yN, .methodLink ST 47 CodW.yN, .static CodW.yN,
  .code Cmp3w.yN Cmp3w.yB 6 (some (.array .byte)), .initialized U16, .arrayClass .byte, .methodLink U16 115 Cmp5w.yN, .static Cmp5w.yN, .code Cmp5w.yN Cmp5w.yB 7 (some .int), .code CodW.yN CodW.yB 2 (some .byte),
  .methodLink U16 119 ToB.yN, .static ToB.yN, .code ToB.yN ToB.yB 5 (some (.array .byte)), .methodLink U16 107 NBF.yN, .static NBF.yN, .code NBF.yN NBF.yB 1 (some (.array .byte)), .methodLink U16 11 NBL.yN, .static NBL.yN, .code NBL.yN NBL.yB 1 (some .int), .constant U16 20 1073741823,
  .methodLink U16 111 PutC.yN, .static PutC.yN, .code PutC.yN PutC.yB 3 none, .methodLink U16 71 GetC.yN, .static GetC.yN, .code GetC.yN GetC.yB 2 (some .char),
  .fieldLink U16 44 U16 "$assertionsDisabled" "Z", .fieldLink U16 59 U16 "HI_BYTE_SHIFT" "I", .fieldLink U16 63 U16 "LO_BYTE_SHIFT" "I"]
theorem consW {a : Array Value} {s : State} {c : Jvm.Cond} {L : List Jvm.Cond} (h0 : c.before a s = true) (h : ∀ w ∈ L, w.before a s = true) : ∀ w ∈ c :: L, w.before a s = true := fun w hw => (List.mem_cons.mp hw).elim (fun e => e ▸ h0) (h w)
theorem tabW_of {a : Array Value} {s : State} (h : ∀ w ∈ wordsW, w.before a s = true) : New1w.tab.before a s = true := by
  have h5 : Cmp5w.tab.before a s = true := unparts (wk h (.code Cmp5w.yN Cmp5w.yB 7 (some .int))) (wks h (.initialized Cmp5w.yN.cls :: Cmp5w.site))
  have hc : CodW.tab.before a s = true := unparts (wk h (.code CodW.yN CodW.yB 2 (some .byte))) (wks h (.initialized CodW.yN.cls :: CodW.site))
  have hl : NBL.tab.before a s = true := unparts (wk h (.code NBL.yN NBL.yB 1 (some .int))) (wks h (.initialized NBL.yN.cls :: NBL.site))
  have hp : PutC.tab.before a s = true := unparts (wk h (.code PutC.yN PutC.yB 3 none)) (wks h (.initialized PutC.yN.cls :: PutC.site))
  have hg : GetC.tab.before a s = true := unparts (wk h (.code GetC.yN GetC.yB 2 (some .char))) (wks h (.initialized GetC.yN.cls :: GetC.site))
  have q1 := consW hl h
  have hf : NBF.tab.before a s = true := unparts (wk q1 (.code NBF.yN NBF.yB 1 (some (.array .byte)))) (wks q1 (.initialized NBF.yN.cls :: NBF.site))
  have q2 := consW hf (consW hp h)
  have ht : ToB.tab.before a s = true := unparts (wk q2 (.code ToB.yN ToB.yB 5 (some (.array .byte)))) (wks q2 (.initialized ToB.yN.cls :: ToB.site))
  have q3 := consW h5 (consW ht (consW hg h))
  have h3 : Cmp3w.tab.before a s = true := unparts (wk q3 (.code Cmp3w.yN Cmp3w.yB 6 (some (.array .byte)))) (wks q3 (.initialized Cmp3w.yN.cls :: Cmp3w.site))
  have q4 := consW h3 (consW hc h)
  have h4 : New4w.tab.before a s = true := unparts (wk q4 (.code New4w.yN New4w.yB 6 none)) (wks q4 (.initialized New4w.yN.cls :: New4w.site))
  have q5 := consW h4 h
  exact unparts (wk q5 (.code New1w.yN New1w.yB 2 none)) (wks q5 (.initialized New1w.yN.cls :: New1w.site))
theorem movedW {Z s : State} {a0 args : Array Value} (hZ : Z.Warmed39 s.vm) (hw : ∀ d ∈ wordsW, d.before a0 Z = true) : ∀ d ∈ wordsW, d.before args s = true := fun d hd => by
  have q := hw d hd
  have t : ∀ d ∈ wordsW, d = .arrayClass .byte ∨ (d.onTables && d.keepsFace) = true := by decide +kernel
  rcases t d hd with rfl | t
  · exact RoadKit.mvA hZ q
  · exact RoadKit.mv hZ q t
theorem sta_S {Z U : State} (al : Z.vm.Alike U.vm) {C n d : String} {v : Value} (S : RoadKit.Sta Z U.heap C n d v) : StS U C n d v := by
  obtain ⟨cfS, iS, kS, fS, st, cS, t1, t2, t3, t4, t5, t6, t7⟩ := S
  exact StS.mv (s := { Z with heap := U.heap }) ⟨cfS, iS, kS, fS, st, cS, t1, t2, t3, t4, t5, t6, t7⟩ al rfl
/-- the three statics, over the tables of the start -/
def U3Z (Z : State) (h : Heap) : Prop := RoadKit.Sta Z h U16 "$assertionsDisabled" "Z" (.int 1) ∧ RoadKit.Sta Z h U16 "HI_BYTE_SHIFT" "I" (.int 0) ∧ RoadKit.Sta Z h U16 "LO_BYTE_SHIFT" "I" (.int 8)
theorem U3Z.ext {Z : State} {h h' : Heap} (F : U3Z Z h) (E : RoadKit.Ext h h') : U3Z Z h' := ⟨F.1.ext E, F.2.1.ext E, F.2.2.ext E⟩
theorem U3Z.u3 {Z U : State} (al : Z.vm.Alike U.vm) (F : U3Z Z U.heap) : U3 U := ⟨sta_S al F.1, sta_S al F.2.1, sta_S al F.2.2⟩
/-- WHAT COMES BACK: x is a String of the chars cs, in either coding -/
def QT (Z : State) (x : Addr) (cs : List Int32) (h : Heap) (n0 : Nat) (v : Option Value) (h' : Heap) (L : List Loc) : Prop := v = none ∧ RoadKit.Fr n0 L ∧ RoadKit.Keep h h' [x] ∧ RoadKit.Exa Z h' x ST ∧
  ∃ (cd N2 : Int32) (vs : List Value) (t : Addr) (kb : ClassId), CodA cs cd N2 vs ∧ RoadKit.Fld Z h' x ST "coder" "B" (.int cd) ∧ n0 ≤ t ∧ h.size ≤ t ∧ ¬ t = x ∧ RoadKit.Fld Z h' x ST "value" "[B" (.ref t) ∧ RoadKit.Arv Z h' t kb .byte N2 vs (.int 0)
theorem first_wide : ∀ (cs : List Int32), (∃ c ∈ cs, 255 < c) → ∃ w, w < cs.length ∧ 255 < cs.getD w 0 ∧ ∀ i, i < w → ¬ 255 < cs.getD i 0
  | [], ⟨_, h, _⟩ => by cases h
  | c :: cs, h => by
    by_cases hc : 255 < c
    · exact ⟨0, by simp, by simpa using hc, fun i hi => absurd hi (Nat.not_lt_zero i)⟩
    · have h' : ∃ d ∈ cs, 255 < d := by
        obtain ⟨d, hd, hw⟩ := h
        rcases List.mem_cons.mp hd with rfl | hd
        · exact absurd hw hc
        · exact ⟨d, hd, hw⟩
      obtain ⟨w, h1, h2, h3⟩ := first_wide cs h'
      refine ⟨w + 1, by simpa using h1, by simpa using h2, fun i hi => ?_⟩
      cases i with
      | zero => simpa using hc
      | succ i => simpa using h3 i (by omega)
theorem wb_wide (A : Cell) (cs : List Int32) (hcv : ∀ i, i < cs.length → cv A i = cs.getD i 0) (d : Value) : ∀ j, j < 2 * cs.length → wb A 0 j = (wideBytes cs).getD j d := fun j hj => by
  obtain ⟨i, hi | hi⟩ : ∃ i, j = 2 * i ∨ j = 2 * i + 1 := ⟨j / 2, by omega⟩
  · subst hi
    rw [wb_lo, Nat.zero_add, hcv i (by omega), wide_lo d cs i (by omega)]
  · subst hi
    rw [wb_hi, Nat.zero_add, hcv i (by omega), wide_hi d cs i (by omega)]
theorem fits_wide (cs : List Int32) : ∀ j, fits .byte ((wideBytes cs).getD j (.int 0)) = true := fun j => by
  by_cases hj : j < 2 * cs.length
  · obtain ⟨i, hi | hi⟩ : ∃ i, j = 2 * i ∨ j = 2 * i + 1 := ⟨j / 2, by omega⟩
    · subst hi; rw [wide_lo _ cs i (by omega)]; exact fits_lo8 _
    · subst hi; rw [wide_hi _ cs i (by omega)]; exact fits_lo8 _
  · have hl : ∀ l : List Int32, (wideBytes l).length = 2 * l.length := fun l => by
      induction l with
      | nil => rfl
      | cons c l ih => simp only [wideBytes, List.length_cons, ih]; omega
    rw [List.getD_eq_getElem?_getD, List.getElem?_eq_none (by rw [hl]; omega)]; rfl
/-- **new String(chars) AT A CALL, SOME CHAR ABOVE 255** -/
theorem backW {p : Program} {l : Launch} {e : Env} {R : Room} {s : State} {args : Array Value} {below : List Frame} {len W : Nat} {Z : State} {a0 : Array Value} {h : Heap} (hZ : Z.Warmed39 s.vm) (hw : ∀ d ∈ wordsW, d.before a0 Z = true) {kI : Nat} (wi : (Jvm.Cond.instantiable ST kI).before a0 Z = true)
    {x b : Addr} {kC : ClassId} {cs : List Int32} {d v0 c0 : Value} {z N : Int32} {n n0 : Nat} (hx0 : n0 ≤ x) (hh0 : n0 ≤ h.size) (E : RoadKit.Exa Z h x ST) (V : RoadKit.Fld Z h x ST "value" "[B" v0) (C : RoadKit.Fld Z h x ST "coder" "B" c0) (K : RoadKit.Arv Z h b kC .char N (cs.map Value.int) d) (S : RoadKit.Sta Z h ST "COMPACT_STRINGS" "Z" (.int z)) (hz : ¬ z = 0) (S3 : U3Z Z h)
    (hn : cs.length = n) (hN : N = Int32.ofNat n) (l2 : n ≤ 4000) (hp : ∃ c ∈ cs, 255 < c) (hfr : 6 ≤ R.frames) (hlo : W + 91 ≤ R.locals) :
    Back l R p e below s args (⟨"java/lang/String", "<init>", "([C)V"⟩ : MethodName) len W (fun P a => a = #[.ref x, .ref b] ∧ P.U.heap = h ∧ P.cells + 2 ≤ R.cells ∧ P.slots + 3 * n ≤ R.slots)
      (fun P _ v B => ∃ L, QT Z x cs h n0 v B.U.heap L ∧ B.locs = P.locs ++ L ∧ B.cells = P.cells + 2 ∧ B.slots = P.slots + 3 * n) := by
  subst hn hN
  intro m meth c P g ig mk a X hg hsize hdg hW hn hp'
  obtain ⟨rfl, rfl, r1, r2⟩ := hp'
  have al : Z.vm.Alike P.U.vm := hZ.alike.trans X.warmed.alike
  obtain ⟨D, cfV, kV, iV, fV, hD, gV, stV, knV, obV, asV, slV⟩ := id V
  obtain ⟨D', cfC, kC', iC, fC, hD', gC, stC, -, -, asC, slC⟩ := id C
  cases hD.symm.trans hD'
  obtain ⟨D2, kD, e1, e2, e3, e4, e5⟩ := id E
  cases hD.symm.trans e1
  obtain ⟨c2, k2, i1, i2, i3, -⟩ := Cond.instantiable_spec wi
  cases e2.symm.trans i1
  cases e3.symm.trans i2
  obtain ⟨kU, u1, u2⟩ := al.2.2 _ _ e3
  have hB : Blank ST x D P.U := ⟨hD, ⟨knV, fun q hq => by rw [hq] at obV; cases obV⟩, by rw [al.findClass]; exact e2, kU, u1, by rw [u2]; exact i3, by rw [u2]; exact e5 i3⟩
  have F1 : Found ST "value" "[B" fV P.U := ⟨SBG.found_only al ⟨cfV, kV, iV, gV⟩, stV⟩
  have F2 : Found ST "coder" "B" fC P.U := ⟨SBG.found_only al ⟨cfC, kC', iC, gC⟩, stC⟩
  obtain ⟨A, K1, K2, K3, K4, K5, K6⟩ := K
  rw [n32 (by omega)] at K3
  have hat : ∀ (i : Nat) (hi : i < cs.length), A.slots[i]? = some (.int cs[i]) := fun i hi => by rw [K5 i (by omega)]; simp [List.getD_eq_getElem?_getD, hi]
  have hcv : ∀ (i : Nat), i < cs.length → cv A i = cs.getD i 0 := fun i hi => by unfold cv; rw [hat i hi]; simp [List.getD_eq_getElem?_getD, hi]
  have hty : Typed .char A := fun i v hv => by
    have hi : i < A.slots.size := (Array.getElem?_eq_some_iff.mp hv).1
    have q := K5 i hi
    rw [hv] at q
    rw [Option.some.inj q]
    exact K6 i hi
  have hA : Ch b A P.U := ⟨⟨K1.1, State.isArrayOf_alike al K1.2.1, K1.2.2, by omega⟩, hty⟩
  have hS : StaticIs P.U ST "COMPACT_STRINGS" "Z" (.int z) := by
    obtain ⟨cfS, iS, kS, fS, st, cS, t1, t2, t3, t4, t5, t6, t7⟩ := S
    exact StaticIs.there (s := { Z with heap := P.U.heap }) ⟨cfS, iS, kS, fS, st, cS, t1, t2, t3, t4, t5, (fun q => by rw [q] at t6; cases t6), t7⟩ al rfl
  obtain ⟨w, w1, w2, w3⟩ := first_wide cs hp
  obtain ⟨v, B, X', ⟨⟨hv, E', V', q1, q2, q3, q4, q5, q6, q7, q8, q9, q10, q11⟩, hl, hc, hs⟩, st⟩ := (New1w.law l x D fV fC b A z w).pays (tabW_of (movedW hZ hw)) hfr (by omega) m meth c P g ig mk _ X hg hsize hdg hW hn ⟨r1, by rw [K3]; omega, rfl, hB, F1, F2, hA, hS, hz, by omega, by omega, fun i hi => by rw [hcv i (by omega)]; exact w3 i hi, by rw [hcv w (by omega)]; exact w2, S3.u3 al⟩
  have al' : Z.vm.Alike B.U.vm := hZ.alike.trans X'.warmed.alike
  have hsz : E'.slots.size = D.slots.size := by
    obtain ⟨-, -, -, kB, w1, w2, w3⟩ := q1
    obtain ⟨kB', y1, y2⟩ := al'.2.2 _ _ e3
    rw [q2.2.1] at w1
    cases w1.symm.trans y1
    rw [w3, e5 i3, y2]
  refine ⟨v, B, X', ⟨_, ⟨hv, ?_, ⟨by omega, fun y cy hy hn' => q10 y cy (by simpa using hn') hy, fun y cy hy => ?_⟩, ⟨E', _, q1.1, by rw [q2.2.1]; exact e2, by rw [q2.2.1]; exact e3, by rw [q2.1]; exact obV, fun _ => by rw [hsz]; exact e5 i3⟩,
    1, Int32.ofNat (2 * cs.length), wideBytes cs, P.U.heap.size + 1, V'.cls, Or.inr ⟨rfl, rfl, rfl, hp⟩, ⟨E', cfC, kC', iC, fC, q1.1, gC, stC, by rw [q2.1]; exact knV, by rw [q2.1]; exact obV, by rw [q2.2.1]; exact asC, q4⟩, by omega, by omega, ?_,
    ⟨E', cfV, kV, iV, fV, q1.1, gV, stV, by rw [q2.1]; exact knV, by rw [q2.1]; exact obV, by rw [q2.2.1]; exact asV, q3⟩, ⟨V', ⟨q5.1, State.isArrayOf_alike al'.symm q5.2.1, q5.2.2.1⟩, rfl, by rw [q8, K3, n32 (by omega)], Int32.ofNat_not_neg (by omega), fun j hj => ?_, fun j hj => fits_wide cs j⟩⟩, hl, hc, by rw [hs, K3]; omega⟩, st⟩
  · intro y hy
    simp only [List.mem_cons, List.not_mem_nil, or_false] at hy
    rcases hy with rfl | rfl <;> exact hx0
  · by_cases q : y = x
    · subst q
      cases hD.symm.trans hy
      exact ⟨E', q1.1, q2.2.1, q2.1, hsz⟩
    · exact ⟨cy, q10 y cy q hy, rfl, rfl, rfl⟩
  · exact fun e => absurd (Array.getElem?_eq_some_iff.mp hD).1 (by rw [← e]; exact Nat.not_lt.mpr (Nat.le_succ _))
  · rw [q9 j (by omega), wb_wide A cs hcv (.int 0) j (by omega)]
/-- **new String(chars) AT A CALL, ANY CHARS**, not empty -/
theorem backT {p : Program} {l : Launch} {e : Env} {R : Room} {s : State} {args : Array Value} {below : List Frame} {len W : Nat} {Z : State} {a0 : Array Value} {h : Heap} (hZ : Z.Warmed39 s.vm) (hw : ∀ d ∈ words, d.before a0 Z = true) (hww : ∀ d ∈ wordsW, d.before a0 Z = true) {kI : Nat} (wi : (Jvm.Cond.instantiable ST kI).before a0 Z = true)
    {x b : Addr} {kC : ClassId} {cs : List Int32} {d v0 c0 : Value} {z N : Int32} {n n0 : Nat} (hx0 : n0 ≤ x) (hh0 : n0 ≤ h.size) (E : RoadKit.Exa Z h x ST) (V : RoadKit.Fld Z h x ST "value" "[B" v0) (C : RoadKit.Fld Z h x ST "coder" "B" c0) (K : RoadKit.Arv Z h b kC .char N (cs.map Value.int) d) (S : RoadKit.Sta Z h ST "COMPACT_STRINGS" "Z" (.int z)) (hz : ¬ z = 0) (S3 : U3Z Z h)
    (hn : cs.length = n) (hN : N = Int32.ofNat n) (l0 : 0 < n) (l2 : n ≤ 4000) (hp : ∀ c ∈ cs, ¬ c < 0) (hfr : 6 ≤ R.frames) (hlo : W + 91 ≤ R.locals) :
    Back l R p e below s args (⟨"java/lang/String", "<init>", "([C)V"⟩ : MethodName) len W (fun P a => a = #[.ref x, .ref b] ∧ P.U.heap = h ∧ P.cells + 2 ≤ R.cells ∧ P.slots + 3 * n ≤ R.slots)
      (fun P _ v B => ∃ L, QT Z x cs h n0 v B.U.heap L ∧ B.locs = P.locs ++ L ∧ B.cells = P.cells + 2 ∧ B.slots = P.slots + 3 * n) := by
  by_cases hwide : ∃ c ∈ cs, 255 < c
  · exact backW hZ hww wi hx0 hh0 E V C K S hz S3 hn hN l2 hwide hfr hlo
  · have hlat : ∀ c ∈ cs, ¬ (255 : Int32) < c := fun c hc q => hwide ⟨c, hc, q⟩
    have B0 := backV (p := p) (l := l) (e := e) (R := R) (s := s) (args := args) (below := below) (len := len) (W := W) hZ hw wi (bs := cs.map (fun c => c.toInt8.toInt32)) hx0 hh0 E V C K S hz hn hN l0 l2 (fun c hc => ⟨hp c hc, hlat c hc⟩) rfl (by omega) (by omega)
    intro m meth c P g ig mk a X hg hsize hdg hW hn' hp'
    obtain ⟨v, B, X', ⟨L, ⟨q1, q2, q3, q4, q5, t, kb, q6, q7, q8, q9, q10⟩, hl, hc, hs⟩, st⟩ := B0 m meth c P g ig mk a X hg hsize hdg hW hn' ⟨hp'.1, hp'.2.1, by omega, by omega⟩
    subst hn hN
    refine ⟨v, ⟨B.U, B.locs, P.cells + 2, P.slots + 3 * cs.length⟩, X'.wide (fun _ hx _ => hx) (by show B.cells ≤ P.cells + 2; omega) (by show B.slots ≤ P.slots + 3 * cs.length; omega), ⟨L, ⟨q1, q2, q3, q4, 0, _, _, t, kb, ?_, q5, q6, q7, q8, q9, q10⟩, hl, rfl, rfl⟩, st⟩
    exact Or.inl ⟨rfl, rfl, by rw [List.map_map]; rfl, hlat⟩
end StrChars.Road
end Jvm.Pilot.@@N@@
namespace Jvm.Pilot.@@N@@
open Jvm Jvm.ClassFile Sem Op Lib Jvm.Free Jvm.Free.XT Jvm.Stand Jvm.LawKit Jvm.RoadKit Bundle Jvm.Pilot.@@N@@.Jvm.D
theorem own_d {c : Code} {code : ByteArray} (h : c.code = code) {pc : Nat} {r : Except DecodeError (Instr × Nat)} (h2 : decode code pc = r) : decode c.code pc = r := h ▸ h2
theorem own_pn0 : plainName "java/lang/String" = true := by first | (simp [plainName, overriddenIn]; done) | decide +kernel
theorem own_pd0 : parseMethodDescriptor "([CIILjava/lang/Void;)V" = some ⟨[(.array .char), .int, .int, (.object "java/lang/Void")], none⟩ := by decide +kernel
theorem own_pn1 : plainName "jdk/internal/util/Preconditions" = true := by first | (simp [plainName, overriddenIn]; done) | decide +kernel
theorem own_pd1 : parseMethodDescriptor "(IIILjava/util/function/BiFunction;)I" = some ⟨[.int, .int, .int, (.object "java/util/function/BiFunction")], some .int⟩ := by decide +kernel
theorem own_pn2 : plainName "java/lang/StringUTF16" = true := by first | (simp [plainName, overriddenIn]; done) | decide +kernel
theorem own_pn3 : plainName "java/lang/StringLatin1" = true := by first | (simp [plainName, overriddenIn]; done) | decide +kernel
theorem own_pd2 : parseMethodDescriptor "(I)Z" = some ⟨[.int], some .boolean⟩ := by decide +kernel
theorem own_pd3 : parseMethodDescriptor "([BI)C" = some ⟨[(.array .byte), .int], some .char⟩ := by decide +kernel
theorem own_pd4 : parseMethodDescriptor "([B)I" = some ⟨[(.array .byte)], some .int⟩ := by decide +kernel
theorem own_pd5 : parseMethodDescriptor "(III)V" = some ⟨[.int, .int, .int], none⟩ := by decide +kernel
theorem own_pd6 : parseMethodDescriptor "(II[B)V" = some ⟨[.int, .int, (.array .byte)], none⟩ := by decide +kernel
theorem own_pd7 : parseMethodDescriptor "([BIII)I" = some ⟨[(.array .byte), .int, .int, .int], some .int⟩ := by decide +kernel
theorem own_pd8 : parseMethodDescriptor "(II)I" = some ⟨[.int, .int], some .int⟩ := by decide +kernel
theorem own_pd9 : parseMethodDescriptor "()Z" = some ⟨[], some .boolean⟩ := by decide +kernel
theorem own_pd10 : parseMethodDescriptor "()I" = some ⟨[], some .int⟩ := by decide +kernel
theorem own_pd11 : parseMethodDescriptor "(I)I" = some ⟨[.int], some .int⟩ := by decide +kernel
theorem own_pn4 : plainName "com/example/blodis/blodis/corpus/LocaleText" = true := by first | (simp [plainName, overriddenIn]; done) | decide +kernel
theorem own_pn5 : plainName "com/example/blodis/blodis/corpus/LocaleTextLostBytesPinLaw" = true := by first | (simp [plainName, overriddenIn]; done) | decide +kernel
theorem own_pd12 : parseMethodDescriptor "(I)C" = some ⟨[.int], some .char⟩ := by decide +kernel
theorem own_pd13 : parseMethodDescriptor "([C)V" = some ⟨[(.array .char)], none⟩ := by decide +kernel
theorem own_pd14 : parseMethodDescriptor "(Ljava/lang/String;)Z" = some ⟨[(.object "java/lang/String")], some .boolean⟩ := by decide +kernel
abbrev EL : List (String × Nat) := [("java/lang/String", 7)]
theorem own_EW {Z : State} {a0 : Array Value} (hw : ∀ d ∈ tables_1, d.before a0 Z = true) : EW Z a0 EL := (EW.cons (hw _ (List.mem_of_getElem? (i := 18) rfl)) (by decide +kernel) EW.nil)
theorem own_arv_eq {Z : State} {h : Heap} {a : Addr} {k : ClassId} {ty : FieldType} {z : Int32} {vs vs' : List Value} {dv : Value} (F : Arv Z h a k ty z vs dv) (e : vs = vs') : Arv Z h a k ty z vs' dv := e ▸ F
theorem own_char (x : Int32) : ¬ nar .char x < 0 ∧ ¬ (65535 : Int32) < nar .char x := by
  have f := fits_nar_char x
  simp only [fits, Bool.and_eq_true, decide_eq_true_eq] at f
  exact ⟨Int32.not_lt.mpr f.1, Int32.not_lt.mpr f.2⟩
theorem own_narc {x : Int32} (h : ¬ x < 0 ∧ ¬ (65535 : Int32) < x) : nar .char x = x := by
  have q : narrow .char (.int x) = .int x := StrChars.narrow_ch h.1 h.2
  have q2 : narrow .char (.int x) = .int (nar .char x) := rfl
  rw [q2] at q
  exact Value.int.inj q
theorem own_i2c (x : Int32) : ¬ x.toUInt32.toUInt16.toUInt32.toInt32 < 0 ∧ ¬ (65535 : Int32) < x.toUInt32.toUInt16.toUInt32.toInt32 := own_char x
theorem own_and3 (x : Int32) : (x &&& (3 : Int32)) = 0 ∨ (x &&& (3 : Int32)) = 1 ∨ (x &&& (3 : Int32)) = 2 ∨ (x &&& (3 : Int32)) = 3 := by
  have t : ∀ k : Fin 4, Int32.ofNat k.val = 0 ∨ Int32.ofNat k.val = 1 ∨ Int32.ofNat k.val = 2 ∨ Int32.ofNat k.val = 3 := by decide +kernel
  have h : (x &&& 3).toBitVec.toNat < 4 := by
    simp only [Int32.toBitVec_and, BitVec.toNat_and]
    exact Nat.lt_succ_of_le Nat.and_le_right
  have e : (x &&& 3) = Int32.ofNat (x &&& 3).toBitVec.toNat := by
    apply Int32.toBitVec_inj.mp
    show _ = BitVec.ofNat 32 _
    rw [BitVec.ofNat_toNat]; simp
  rw [e]
  exact t ⟨_, h⟩
/-- x is a String of the chars cs, in either coding -/
def own_Str (Z : State) (h : Heap) (x : Addr) (cs : List Int32) : Prop := Exa Z h x "java/lang/String" ∧ (∀ c ∈ cs, ¬ c < 0 ∧ ¬ (65535 : Int32) < c) ∧ cs.length ≤ 4000 ∧ ∃ (cd N2 : Int32) (vs : List Value) (t : Addr) (kb : ClassId), StrChars.Road.CodA cs cd N2 vs ∧ Fld Z h x "java/lang/String" "coder" "B" (.int cd) ∧ Fld Z h x "java/lang/String" "value" "[B" (.ref t) ∧ Arv Z h t kb .byte N2 vs (.int (0 : Int32))
theorem own_Str.keep0 {Z : State} {h h' : Heap} {x : Addr} {cs : List Int32} (H : own_Str Z h x cs) (K : Keep h h' []) : own_Str Z h' x cs := by
  obtain ⟨E, p, l, cd, N2, vs, t, kb, c, C, V, A⟩ := H
  exact ⟨E.keep K, p, l, cd, N2, vs, t, kb, c, C.keep K nin0, V.keep K nin0, A.keep K nin0⟩
theorem own_safe_null {Z : State} {EL : List (String × Nat)} {vm : Vm} {h : Heap} {x : Addr} {a0 : Array Value} {kI : Nat} (hal : Z.vm.Alike vm) (wi : (Jvm.Cond.instantiable "java/lang/String" kI).before a0 Z = true) (E : Exa Z h x "java/lang/String") (F : Fld Z h x "java/lang/String" "value" "[B" .null) : Safe Z EL vm h x := fun B => by
  obtain ⟨p, -, u, a, -, q, -, G, hx⟩ := B
  obtain ⟨cS, ⟨⟨s1, s2, s3, ⟨cv, kv, iv, s4, s4'⟩, ⟨cc, kc, ic, s5, s5'⟩, s6, s7, s8, s9, s10, s11, s12, -⟩, -⟩, -⟩ := G
  rcases hx with rfl | rfl
  · obtain ⟨cell, cf, k, i, f, h1, h2, -, -, -, -, h7⟩ := F
    cases h1.symm.trans s1
    obtain ⟨k3, e3, -⟩ := State.fieldFound?_setVm (s := Z) hal h2
    have e4 := (show (Wst Z vm h).fieldFound? "java/lang/String" "value" "[B" = _ from e3).symm.trans s4
    simp only [Option.some.injEq, Prod.mk.injEq] at e4
    rw [e4.2.2.2, s8] at h7
    simp at h7
  · obtain ⟨cell, k, h1, h2, h3, -, -⟩ := E
    cases h1.symm.trans s10
    obtain ⟨c2, k2, i1, i2, i3, -⟩ := Cond.instantiable_spec wi
    cases h2.symm.trans i1
    cases h3.symm.trans i2
    obtain ⟨-, k9, hk9, comp, hkind9⟩ := s11
    obtain ⟨k', hk', ek⟩ := hal.2.2 _ _ h3
    cases (show vm.classes[_]? = some k9 from hk9).symm.trans hk'
    rw [ek, i3] at hkind9
    cases hkind9
theorem d0_0 : decode jdk_42_method_149_code 0 = .ok (.aload_n 0, 1) := by decide +kernel
theorem d0_1 : decode jdk_42_method_149_code 1 = .ok (.invokespecial 1, 3) := by decide +kernel
theorem d0_4 : decode jdk_42_method_149_code 4 = .ok (.iload_n 3, 1) := by decide +kernel
theorem d0_5 : decode jdk_42_method_149_code 5 = .ok (.ifCond .ne 22, 3) := by decide +kernel
theorem d0_8 : decode jdk_42_method_149_code 8 = .ok (.aload_n 0, 1) := by decide +kernel
theorem d0_9 : decode jdk_42_method_149_code 9 = .ok (.ldc 7, 2) := by decide +kernel
theorem d0_11 : decode jdk_42_method_149_code 11 = .ok (.getfield 9, 3) := by decide +kernel
theorem d0_14 : decode jdk_42_method_149_code 14 = .ok (.putfield 9, 3) := by decide +kernel
theorem d0_17 : decode jdk_42_method_149_code 17 = .ok (.aload_n 0, 1) := by decide +kernel
theorem d0_18 : decode jdk_42_method_149_code 18 = .ok (.ldc 7, 2) := by decide +kernel
theorem d0_20 : decode jdk_42_method_149_code 20 = .ok (.getfield 15, 3) := by decide +kernel
theorem d0_23 : decode jdk_42_method_149_code 23 = .ok (.putfield 15, 3) := by decide +kernel
theorem d0_26 : decode jdk_42_method_149_code 26 = .ok (.return_, 1) := by decide +kernel
def Q_own_new4e (Z : State) (x b : Addr) (h0 : Heap) (n0 : Nat) (v : Option Value) (h : Heap) (L : List Loc) : Prop := v = none ∧ Fr n0 L ∧ Keep h0 h [x] ∧ Exa Z h x "java/lang/String" ∧ Fld Z h x "java/lang/String" "coder" "B" (.int (0 : Int32)) ∧ ∃ (t : Addr) (kb : ClassId), t ≠ x ∧ t < h.size ∧ Fld Z h x "java/lang/String" "value" "[B" (.ref t) ∧ Arv Z h t kb .byte (0 : Int32) [] (.int (0 : Int32))
set_option maxRecDepth 65536 in
set_option maxHeartbeats 40000000 in
theorem own_new4e (l : Launch) (Z : State) (a0 : Array Value) (hw : ∀ d ∈ tables_1, d.before a0 Z = true) (x b : Addr) (h0 : Heap) (n0 : Nat) (Z0 : n0 ≤ h0.size) (E : Exa Z h0 x "java/lang/String") (V : Fld Z h0 x "java/lang/String" "value" "[B" .null) (C : Fld Z h0 x "java/lang/String" "coder" "B" (.int (0 : Int32))) (gx : n0 ≤ x) :
    MetFree l (⟨"java/lang/String", "<init>", "([CIILjava/lang/Void;)V"⟩ : MethodName) (head1 [Jvm.Cond.code (⟨"java/lang/String", "<init>", "([CIILjava/lang/Void;)V"⟩ : MethodName) jdk_42_method_149_code 6 none] ({ frames := 1, cells := 4, slots := 8, locals := 12 } : Room)) (fun a_ U_ => a_ = #[(.ref x), (.ref b), (.int 0), (.int 0), .null] ∧ Z.Warmed39 U_.vm ∧ U_.heap = h0 ∧ CHv Z EL U_.vm h0) (fun _ _ _ _ _ => True) (fun _ U_ o_ V_ => ∃ v_ L_, o_ = .returned v_ ∧ Q_own_new4e Z x b h0 n0 v_ V_.heap L_ ∧ CHr Z EL U_.vm U_.heap V_.vm V_.heap ∧ ReturnedEndW U_ o_ V_ L_ ({ frames := 1, cells := 4, slots := 8, locals := 12 } : Room).cells ({ frames := 1, cells := 4, slots := 8, locals := 12 } : Room).slots) := by
  refine MetFree.of_bodySF (plainFor_of_name own_pn0) hisR ?_
  intro p e s m args below meth c s₁ Bd hml0 hP hK
  obtain ⟨rfl, hZ, hh, hCH⟩ := hP
  have hx := Bd.exec
  have hby := Bd.bytes
  have hml : c.maxLocals = 6 := hml0
  have hown : s.vm.findClass "java/lang/String" = some m.cls := findClass_of_methodNamed Bd.named
  have hnm := (name_of_methodNamed Bd.named Bd.method).1
  have X0 : Stand p l e ({ frames := 1, cells := 4, slots := 8, locals := 12 } : Room) (s.setVm s.vm) m #[(.ref x), (.ref b), (.int 0), (.int 0), .null] below meth c s₁ [] 0 0 := Stand.of_body Bd
  have e0 : s₁.heap = h0 := by rw [← hh, Bd.state]; rfl
  have N0 := Fr.nil n0
  have KK0 := Keep.refl h0 [x]
  have C0 := CHr.refl hCH
  have hS0 : s.Since s.vm 0 := (State.WarmedH.refl s).since 0
  have hk0 : 0 ≤ h0.size := Nat.zero_le _
  have hEL : EW Z a0 EL := own_EW hw
  have cc0 : Steps p.tables e below (s₁.setTop (entryFrame m #[(.ref x), (.ref b), (.int 0), (.int 0), .null] 6)) (s₁.setTop (mkF m 0 #[.val (.ref x), .val (.ref b), .val (.int 0), .val (.int 0), .val .null, .unset] [])) := XT.entry rfl
  obtain ⟨S0', hS0'⟩ : ∃ S, S = (s₁.setTop (entryFrame m #[(.ref x), (.ref b), (.int 0), (.int 0), .null] 6)) := ⟨_, rfl⟩
  rw [← hS0'] at cc0
  have w_5 := hw _ (List.mem_of_getElem? (i := 5) rfl)
  have w_18 := hw _ (List.mem_of_getElem? (i := 18) rfl)
  have w_20 := hw _ (List.mem_of_getElem? (i := 20) rfl)
  have w_21 := hw _ (List.mem_of_getElem? (i := 21) rfl)
  have w_24 := hw _ (List.mem_of_getElem? (i := 24) rfl)
  have w_25 := hw _ (List.mem_of_getElem? (i := 25) rfl)
  have sx := own_safe_null (EL := EL) hZ.alike w_5 E V
  have cc21 : Steps p.tables e below S0' (s₁.setTop (mkF m 1 #[.val (.ref x), .val (.ref b), .val (.int 0), .val (.int 0), .val .null, .unset] [(.ref x)])) := Steps.trans cc0 (by
    refine XS.aloadN X0.here hx rfl (own_d hby d0_0) rfl rfl ?_
    exact Steps.refl _)
  obtain ⟨T22, X22, e22, st22⟩ := initO X0 hx hZ hown (hw _ (List.mem_of_getElem? (i := 15) rfl)) (hw _ (List.mem_of_getElem? (i := 16) rfl)) (hw _ (List.mem_of_getElem? (i := 17) rfl)) e0 (g := (mkF m 1 #[.val (.ref x), .val (.ref b), .val (.int 0), .val (.int 0), .val .null, .unset] [(.ref x)])) rfl (by rw [hml]; rfl) rfl (own_d hby d0_1) (by decide) (W := 0) (by show 2 * 0 + _ ≤ _; exact Nat.le_of_eq rfl) (by decide)
  have cc23 : Steps p.tables e below S0' (T22.setTop (mkF m 9 #[.val (.ref x), .val (.ref b), .val (.int 0), .val (.int 0), .val .null, .unset] [(.ref x)])) := Steps.trans (cc21.trans (st22 _ (Steps.refl _))) (by
    refine XS.iloadN X22.here hx rfl (own_d hby d0_4) rfl ?_
    refine XS.ifNo X22.here hx rfl (own_d hby d0_5) rfl (i0_ne_f rfl) ?_
    refine XS.aloadN X22.here hx rfl (own_d hby d0_8) rfl rfl ?_
    exact Steps.refl _)
  obtain ⟨q1, T24, h24, k24, t1, kb24, X24, e24, E24, hS24, hk24, hZ24, hown24, Ex24, Fc24, Fv24, Ar24, lta24, ltb24, CH24, -, sfn24, st24⟩ := ldcCH X22 hx hZ hown w_18 (fun a ha => hw a ((by decide +kernel : ∀ a ∈ Bundle.stringAtoms, a ∈ tables_1) a ha)) e22 hS0 hk0 hEL (by decide +kernel) C0.1 (vs := []) (z := 0) (by decide +kernel) (by decide) (by decide) (g := (mkF m 9 #[.val (.ref x), .val (.ref b), .val (.int 0), .val (.int 0), .val .null, .unset] [(.ref x)])) rfl (own_d hby d0_9) (n := 0) (by decide) (by decide) (by decide) (by decide)
  have K24 := (Keep.refl h0 ([] : List Addr)).ext E24
  have C24 := C0.trans CH24
  have KK1 : Keep h0 h24 [x] := KK0.trans K24 all0
  have Zs1 : n0 ≤ h24.size := Nat.le_trans Z0 K24.1
  have sf25 := CH24.safe E.lt sx
  have lt26 := Nat.lt_of_lt_of_le E.lt K24.1
  have nl24_x := sfn24 _ sf25
  have cc27 : Steps p.tables e below S0' (T24.setTop (mkF m 11 #[.val (.ref x), .val (.ref b), .val (.int 0), .val (.int 0), .val .null, .unset] [(.ref q1), (.ref x)])) := (cc23.trans (st24 _ (Steps.refl _)))
  obtain ⟨T28, X28, e28, st28⟩ := getF X24 hx hZ24 hown24 (host := "") (Or.inl w_24) Via.refl e24 Fv24 (g := (mkF m 11 #[.val (.ref x), .val (.ref b), .val (.int 0), .val (.int 0), .val .null, .unset] [(.ref q1), (.ref x)])) rfl rfl (own_d hby d0_11)
  have cc30 : Steps p.tables e below S0' (T28.setTop (mkF m 14 #[.val (.ref x), .val (.ref b), .val (.int 0), .val (.int 0), .val .null, .unset] [(.ref t1), (.ref x)])) := (cc27.trans (st28 _ (Steps.refl _)))
  have fa29 : Fld Z h24 x "java/lang/String" "value" "[B" .null := (V.keep K24 nin0)
  have fa31 : Exa Z h24 x "java/lang/String" := (E.keep K24)
  obtain ⟨T32, h32, X32, e32, W32, st32⟩ := putF X28 hx hZ24 hown24 (host := "") (Or.inl w_24) Via.refl e28 fa29 fa31 (Or.inr ⟨w_20, rfl, hnm⟩) w_5 (ty := (.array .byte)) (by decide) rfl rfl (g := (mkF m 14 #[.val (.ref x), .val (.ref b), .val (.int 0), .val (.int 0), .val .null, .unset] [(.ref t1), (.ref x)])) rfl rfl (own_d hby d0_14)
  have K32 := Keep.of_wr W32
  have N32 := Fr.snoc X32 N0 gx
  have D33 := CHr.wr W32 sf25 C24.1
  have C34 := C24.trans D33
  have KK2 : Keep h0 h32 [x] := KK1.trans K32 (allS (Or.inl (List.mem_of_getElem? (i := 0) rfl)) all0)
  have Zs2 : n0 ≤ h32.size := Nat.le_trans Zs1 K32.1
  have cc35 : Steps p.tables e below S0' (T32.setTop (mkF m 18 #[.val (.ref x), .val (.ref b), .val (.int 0), .val (.int 0), .val .null, .unset] [(.ref x)])) := Steps.trans (cc30.trans (st32 _ (Steps.refl _))) (by
    refine XS.aloadN X32.here hx rfl (own_d hby d0_17) rfl rfl ?_
    exact Steps.refl _)
  obtain ⟨q2, T36, h36, k36, t2, kb36, X36, e36, E36, hS36, hk36, hZ36, hown36, Ex36, Fc36, Fv36, Ar36, lta36, ltb36, CH36, -, sfn36, st36⟩ := ldcCH X32 hx hZ24 hown24 w_18 (fun a ha => hw a ((by decide +kernel : ∀ a ∈ Bundle.stringAtoms, a ∈ tables_1) a ha)) e32 hS24 (Nat.le_trans hk24 K32.1) hEL (by decide +kernel) C34.1 (vs := []) (z := 0) (by decide +kernel) (by decide) (by decide) (g := (mkF m 18 #[.val (.ref x), .val (.ref b), .val (.int 0), .val (.int 0), .val .null, .unset] [(.ref x)])) rfl (own_d hby d0_18) (n := 0) (by decide) (by decide) (by decide) (by decide)
  have K36 := (Keep.refl h32 ([] : List Addr)).ext E36
  have C36 := C34.trans CH36
  have KK3 : Keep h0 h36 [x] := KK2.trans K36 all0
  have Zs3 : n0 ≤ h36.size := Nat.le_trans Zs2 K36.1
  have sf37 := D33.safe lt26 sf25
  have lt38 := Nat.lt_of_lt_of_le lt26 K32.1
  have sf39 := CH36.safe lt38 sf37
  have lt40 := Nat.lt_of_lt_of_le lt38 K36.1
  have nl36_x := sfn36 _ sf39
  have cc41 : Steps p.tables e below S0' (T36.setTop (mkF m 20 #[.val (.ref x), .val (.ref b), .val (.int 0), .val (.int 0), .val .null, .unset] [(.ref q2), (.ref x)])) := (cc35.trans (st36 _ (Steps.refl _)))
  obtain ⟨T42, X42, e42, st42⟩ := getF X36 hx hZ36 hown36 (host := "") (Or.inl w_25) Via.refl e36 Fc36 (g := (mkF m 20 #[.val (.ref x), .val (.ref b), .val (.int 0), .val (.int 0), .val .null, .unset] [(.ref q2), (.ref x)])) rfl rfl (own_d hby d0_20)
  have cc44 : Steps p.tables e below S0' (T42.setTop (mkF m 23 #[.val (.ref x), .val (.ref b), .val (.int 0), .val (.int 0), .val .null, .unset] [(.int (0 : Int32)), (.ref x)])) := (cc41.trans (st42 _ (Steps.refl _)))
  have fa43 : Fld Z h36 x "java/lang/String" "coder" "B" (.int (0 : Int32)) := (((C.keep K24 nin0).other W32 (Or.inr (slot_ne (Or.inr w_21) (Or.inr w_20) (by decide) (t := .byte) (t' := (.array .byte)) (by decide) (by decide)))).keep K36 nin0)
  have fa45 : Exa Z h36 x "java/lang/String" := ((fa31.keep K32).keep K36)
  obtain ⟨T46, h46, X46, e46, W46, st46⟩ := putFN X42 hx hZ36 hown36 w_25 Via.refl e42 fa43 fa45 (Or.inr ⟨w_21, rfl, hnm⟩) w_5 (ty := .byte) (v' := (.int (0 : Int32))) (by decide) rfl rfl (g := (mkF m 23 #[.val (.ref x), .val (.ref b), .val (.int 0), .val (.int 0), .val .null, .unset] [(.int (0 : Int32)), (.ref x)])) rfl rfl (own_d hby d0_23)
  have K46 := Keep.of_wr W46
  have N46 := Fr.snoc X46 N32 gx
  have D47 := CHr.wr W46 sf39 C36.1
  have C48 := C36.trans D47
  have KK4 : Keep h0 h46 [x] := KK3.trans K46 (allS (Or.inl (List.mem_of_getElem? (i := 0) rfl)) all0)
  have Zs4 : n0 ≤ h46.size := Nat.le_trans Zs3 K46.1
  have cc50 : Steps p.tables e below S0' (T46.setTop (mkF m 26 #[.val (.ref x), .val (.ref b), .val (.int 0), .val (.int 0), .val .null, .unset] [])) := (cc44.trans (st46 _ (Steps.refl _)))
  have fa49 : Exa Z h46 x "java/lang/String" := (fa45.keep K46)
  have fa51 : Fld Z h46 x "java/lang/String" "value" "[B" (.ref t1) := (((Fld.same W32 fa29).keep K36 nin0).other W46 (Or.inr (slot_ne (Or.inr w_20) (Or.inr w_21) (by decide) (t := (.array .byte)) (t' := .byte) (by decide) (by decide))))
  have fa52 : Arv Z h46 t1 kb24 .byte (0 : Int32) ([]) (.int (0 : Int32)) := (((Ar24.keep K32 (ninS (Ne.symm nl24_x.2) nin0)).keep K36 nin0).keep K46 (ninS (Ne.symm nl24_x.2) nin0))
  have cE := cc50
  rw [hS0'] at cE
  obtain ⟨fs, hr_, hrun, hended, hE⟩ := X46.leaveW hS36 (by rw [e46]; exact (Nat.le_trans hk36 K46.1)) (v := none) (fun _ => rfl)
  have CE := C48.trans (CHv.at X46 hZ36 hEL C48.1)
  refine ⟨_, _, cE.trans (X46.returnOut hx Bd.returns (own_d hby d0_26) hr_), hrun, hended, _, _, rfl, ?_, ?_, hE.1, hE.2.1, hE.2.2.1, hE.2.2.2.mono (by first | decide | omega) (by first | decide | omega)⟩
  · show Q_own_new4e Z x b h0 n0 _ T46.heap _
    rw [e46]
    exact ⟨rfl, N46, KK4, fa49, (Fld.same W46 fa43), t1, _, Ne.symm nl24_x.2, fa52.lt, fa51, fa52⟩
  · rw [hh]
    show CHr Z EL s.vm h0 T46.vm T46.heap
    rw [e46]
    exact CE
theorem d1_0 : decode jdk_42_method_3_code 0 = .ok (.aload_n 0, 1) := by decide +kernel
theorem d1_1 : decode jdk_42_method_3_code 1 = .ok (.aload_n 1, 1) := by decide +kernel
theorem d1_2 : decode jdk_42_method_3_code 2 = .ok (.iconst 0, 1) := by decide +kernel
theorem d1_3 : decode jdk_42_method_3_code 3 = .ok (.aload_n 1, 1) := by decide +kernel
theorem d1_4 : decode jdk_42_method_3_code 4 = .ok (.arraylength, 1) := by decide +kernel
theorem d1_5 : decode jdk_42_method_3_code 5 = .ok (.aconst_null, 1) := by decide +kernel
theorem d1_6 : decode jdk_42_method_3_code 6 = .ok (.invokespecial 27, 3) := by decide +kernel
theorem d1_9 : decode jdk_42_method_3_code 9 = .ok (.return_, 1) := by decide +kernel
def Q_own_new1e (Z : State) (x b : Addr) (kc : ClassId) (h0 : Heap) (n0 : Nat) (v : Option Value) (h : Heap) (L : List Loc) : Prop := v = none ∧ Fr n0 L ∧ Keep h0 h [x] ∧ Exa Z h x "java/lang/String" ∧ Fld Z h x "java/lang/String" "coder" "B" (.int (0 : Int32)) ∧ ∃ (t : Addr) (kb : ClassId), t ≠ x ∧ t < h.size ∧ Fld Z h x "java/lang/String" "value" "[B" (.ref t) ∧ Arv Z h t kb .byte (0 : Int32) [] (.int (0 : Int32))
set_option maxRecDepth 65536 in
set_option maxHeartbeats 40000000 in
theorem own_new1e (l : Launch) (Z : State) (a0 : Array Value) (hw : ∀ d ∈ tables_1, d.before a0 Z = true) (x b : Addr) (kc : ClassId) (h0 : Heap) (n0 : Nat) (Z0 : n0 ≤ h0.size) (E : Exa Z h0 x "java/lang/String") (V : Fld Z h0 x "java/lang/String" "value" "[B" .null) (C : Fld Z h0 x "java/lang/String" "coder" "B" (.int (0 : Int32))) (gx : n0 ≤ x) (K : Arv Z h0 b kc .char (0 : Int32) [] (.int (0 : Int32))) :
    MetFree l (⟨"java/lang/String", "<init>", "([C)V"⟩ : MethodName) (head1 [Jvm.Cond.code (⟨"java/lang/String", "<init>", "([C)V"⟩ : MethodName) jdk_42_method_3_code 2 none] ({ frames := 2, cells := 4, slots := 8, locals := 29 } : Room)) (fun a_ U_ => a_ = #[(.ref x), (.ref b)] ∧ Z.Warmed39 U_.vm ∧ U_.heap = h0 ∧ CHv Z EL U_.vm h0) (fun _ _ _ _ _ => True) (fun _ U_ o_ V_ => ∃ v_ L_, o_ = .returned v_ ∧ Q_own_new1e Z x b kc h0 n0 v_ V_.heap L_ ∧ CHr Z EL U_.vm U_.heap V_.vm V_.heap ∧ ReturnedEndW U_ o_ V_ L_ ({ frames := 2, cells := 4, slots := 8, locals := 29 } : Room).cells ({ frames := 2, cells := 4, slots := 8, locals := 29 } : Room).slots) := by
  refine MetFree.of_bodySF (plainFor_of_name own_pn0) hisR ?_
  intro p e s m args below meth c s₁ Bd hml0 hP hK
  obtain ⟨rfl, hZ, hh, hCH⟩ := hP
  have hx := Bd.exec
  have hby := Bd.bytes
  have hml : c.maxLocals = 2 := hml0
  have hown : s.vm.findClass "java/lang/String" = some m.cls := findClass_of_methodNamed Bd.named
  have hnm := (name_of_methodNamed Bd.named Bd.method).1
  have X0 : Stand p l e ({ frames := 2, cells := 4, slots := 8, locals := 29 } : Room) (s.setVm s.vm) m #[(.ref x), (.ref b)] below meth c s₁ [] 0 0 := Stand.of_body Bd
  have e0 : s₁.heap = h0 := by rw [← hh, Bd.state]; rfl
  have N0 := Fr.nil n0
  have KK0 := Keep.refl h0 [x]
  have C0 := CHr.refl hCH
  have hS0 : s.Since s.vm 0 := (State.WarmedH.refl s).since 0
  have hk0 : 0 ≤ h0.size := Nat.zero_le _
  have hEL : EW Z a0 EL := own_EW hw
  have cc0 : Steps p.tables e below (s₁.setTop (entryFrame m #[(.ref x), (.ref b)] 2)) (s₁.setTop (mkF m 0 #[.val (.ref x), .val (.ref b)] [])) := XT.entry rfl
  obtain ⟨S0', hS0'⟩ : ∃ S, S = (s₁.setTop (entryFrame m #[(.ref x), (.ref b)] 2)) := ⟨_, rfl⟩
  rw [← hS0'] at cc0
  have w_14 := hw _ (List.mem_of_getElem? (i := 14) rfl)
  have cc21 : Steps p.tables e below S0' (s₁.setTop (mkF m 4 #[.val (.ref x), .val (.ref b)] [(.ref b), (.int 0), (.ref b), (.ref x)])) := Steps.trans cc0 (by
    refine XS.aloadN X0.here hx rfl (own_d hby d1_0) rfl rfl ?_
    refine XS.aloadN X0.here hx rfl (own_d hby d1_1) rfl rfl ?_
    refine iconstV X0.here hx rfl 0 (own_d hby d1_2) (by decide) ?_
    refine XS.aloadN X0.here hx rfl (own_d hby d1_3) rfl rfl ?_
    exact Steps.refl _)
  obtain ⟨clu22, Aru22, -, Su22, Ngu22, -, -⟩ := id K
  have cl_u22 := X0.arraylength hx (by rw [e0]; exact Aru22.1) (State.isArrayOf_alike (hZ).alike Aru22.2.1) (g := (mkF m 4 #[.val (.ref x), .val (.ref b)] [(.ref b), (.int 0), (.ref b), (.ref x)])) rfl rfl (own_d hby d1_4) _ (Steps.refl _)
  rw [len_of Su22 Ngu22] at cl_u22
  have cc23 : Steps p.tables e below S0' (s₁.setTop (mkF m 6 #[.val (.ref x), .val (.ref b)] [.null, (.int (0 : Int32)), (.int 0), (.ref b), (.ref x)])) := Steps.trans (Steps.trans cc21 cl_u22) (by
    refine XS.aconstNull X0.here hx rfl (own_d hby d1_5) ?_
    exact Steps.refl _)
  obtain ⟨_, _, ⟨T24, L24, k24, n24⟩, -, X24, hs24, gr24, ⟨Lc24, hQ24, l24, y24, z24, CH24⟩, st24⟩ := X0.specialBackS hx (y := (⟨"java/lang/String", "<init>", "([CIILjava/lang/Void;)V"⟩ : MethodName)) rfl hown (mvT hZ (hw _ (List.mem_of_getElem? (i := 11) rfl))) (mvT hZ (hw _ (List.mem_of_getElem? (i := 12) rfl))) (mvT hZ w_14) (by decide) (backOfSH (W := 0) (own_new4e l Z a0 hw x b h0 n0 Z0 E V C gx) hZ w_14 (hw _ (List.mem_of_getElem? (i := 6) rfl)) (by decide) (by decide) hEL C0.1) (g := (mkF m 6 #[.val (.ref x), .val (.ref b)] [.null, (.int (0 : Int32)), (.int 0), (.ref b), (.ref x)])) rfl (by rw [hml]; rfl) (Steps.refl _) (a := x) (argsL := [(.ref b), (.int 0), (.int (0 : Int32)), .null]) (rest := []) (lenOf own_pd0 rfl) rfl (by show 2 * 0 + _ ≤ _; exact Nat.le_of_eq rfl) (own_d hby d1_6) (fun _ _ => ⟨rfl, e0, Nat.le_of_ble_eq_true rfl, Nat.le_of_ble_eq_true rfl⟩)
  dsimp only [Pt.U, Pt.locs, Pt.cells, Pt.slots] at X24 l24 y24 z24 st24 hQ24 hs24 gr24 CH24
  subst l24 y24 z24
  obtain ⟨rfl, Nq24, Kq24, Eq24, Cq24, t, kb, q124, q224, Vq24, Aq24⟩ := hQ24
  obtain ⟨Xr24, hS24, hZ24, hown24⟩ := rebS hS0 (by rw [e0]; exact hk0) X24 hs24 gr24 hZ hown
  have hk24 : T24.heap.size ≤ T24.heap.size := Nat.le_refl _
  have C24 := C0.trans CH24
  have N24 := Fr.app N0 Nq24
  have KK1 : Keep h0 T24.heap [x] := KK0.trans Kq24 (allS (Or.inl (List.mem_of_getElem? (i := 0) rfl)) all0)
  have Zs1 : n0 ≤ T24.heap.size := Nat.le_trans Z0 Kq24.1
  have e24 : T24.heap = T24.heap := rfl
  have cc25 : Steps p.tables e below S0' (T24.setTop (mkF m 9 #[.val (.ref x), .val (.ref b)] [])) := (Steps.trans cc23 st24)
  have cE := cc25
  rw [hS0'] at cE
  obtain ⟨fs, hr_, hrun, hended, hE⟩ := Xr24.leaveW hS24 (by rw [e24]; exact hk24) (v := none) (fun _ => rfl)
  have CE := C24.trans (CHv.at Xr24 hZ24 hEL C24.1)
  refine ⟨_, _, cE.trans (Xr24.returnOut hx Bd.returns (own_d hby d1_9) hr_), hrun, hended, _, _, rfl, ?_, ?_, hE.1, hE.2.1, hE.2.2.1, hE.2.2.2.mono (by first | decide | omega) (by first | decide | omega)⟩
  · show Q_own_new1e Z x b kc h0 n0 _ T24.heap _
    rw [e24]
    exact ⟨rfl, N24, KK1, Eq24, Cq24, t, kb, q124, q224, Vq24, Aq24⟩
  · rw [hh]
    show CHr Z EL s.vm h0 T24.vm T24.heap
    rw [e24]
    exact CE
theorem d2_0 : decode jdk_41_method_12_code 0 = .ok (.iload_n 0, 1) := by decide +kernel
theorem d2_1 : decode jdk_41_method_12_code 1 = .ok (.ifCond .lt 13, 3) := by decide +kernel
theorem d2_4 : decode jdk_41_method_12_code 4 = .ok (.iload_n 0, 1) := by decide +kernel
theorem d2_5 : decode jdk_41_method_12_code 5 = .ok (.iload_n 1, 1) := by decide +kernel
theorem d2_6 : decode jdk_41_method_12_code 6 = .ok (.if_icmp .gt 8, 3) := by decide +kernel
theorem d2_9 : decode jdk_41_method_12_code 9 = .ok (.iload_n 1, 1) := by decide +kernel
theorem d2_10 : decode jdk_41_method_12_code 10 = .ok (.iload_n 2, 1) := by decide +kernel
theorem d2_11 : decode jdk_41_method_12_code 11 = .ok (.if_icmp .le 11, 3) := by decide +kernel
theorem d2_22 : decode jdk_41_method_12_code 22 = .ok (.iload_n 0, 1) := by decide +kernel
theorem d2_23 : decode jdk_41_method_12_code 23 = .ok (.ireturn, 1) := by decide +kernel
def Q_own_cft (Z : State) (a b n : Int32) (f : Value) (h0 : Heap) (n0 : Nat) (v : Option Value) (h : Heap) (L : List Loc) : Prop := v = some (.int a) ∧ Fr n0 L ∧ h = h0
set_option maxRecDepth 65536 in
set_option maxHeartbeats 40000000 in
theorem own_cft (l : Launch) (Z : State) (a0 : Array Value) (hw : ∀ d ∈ tables_1, d.before a0 Z = true) (a b n : Int32) (f : Value) (h0 : Heap) (n0 : Nat) (Z0 : n0 ≤ h0.size) (h1 : ¬ a < 0) (h2 : ¬ b < a) (h3 : ¬ n < b) (hf : f.isRef = true) :
    MetFree l (⟨"jdk/internal/util/Preconditions", "checkFromToIndex", "(IIILjava/util/function/BiFunction;)I"⟩ : MethodName) (head1 [Jvm.Cond.code (⟨"jdk/internal/util/Preconditions", "checkFromToIndex", "(IIILjava/util/function/BiFunction;)I"⟩ : MethodName) jdk_41_method_12_code 4 (some .int)] ({ frames := 0, cells := 0, slots := 0, locals := 0 } : Room)) (fun a_ U_ => a_ = #[(.int a), (.int b), (.int n), f] ∧ Z.Warmed39 U_.vm ∧ U_.heap = h0) (fun _ _ _ _ _ => True) (fun _ U_ o_ V_ => ∃ v_ L_, o_ = .returned v_ ∧ Q_own_cft Z a b n f h0 n0 v_ V_.heap L_ ∧ FrameEnd U_ o_ V_ L_ ({ frames := 0, cells := 0, slots := 0, locals := 0 } : Room).cells ({ frames := 0, cells := 0, slots := 0, locals := 0 } : Room).slots) := by
  refine MetFree.of_bodySF (plainFor_of_name own_pn1) hisR ?_
  intro p e s m args below meth c s₁ Bd hml0 hP hK
  obtain ⟨rfl, hZ, hh⟩ := hP
  have hx := Bd.exec
  have hby := Bd.bytes
  have hml : c.maxLocals = 4 := hml0
  have hown : s.vm.findClass "jdk/internal/util/Preconditions" = some m.cls := findClass_of_methodNamed Bd.named
  have hnm := (name_of_methodNamed Bd.named Bd.method).1
  have X0 : Stand p l e ({ frames := 0, cells := 0, slots := 0, locals := 0 } : Room) s m #[(.int a), (.int b), (.int n), f] below meth c s₁ [] 0 0 := Stand.of_body Bd
  have e0 : s₁.heap = h0 := by rw [← hh, Bd.state]; rfl
  have N0 := Fr.nil n0
  have KK0 := Keep.refl h0 ([] : List Addr)
  have cc0 : Steps p.tables e below (s₁.setTop (entryFrame m #[(.int a), (.int b), (.int n), f] 4)) (s₁.setTop (mkF m 0 #[.val (.int a), .val (.int b), .val (.int n), .val f] [])) := XT.entry (by cases f <;> first | rfl | (cases hf))
  obtain ⟨S0', hS0'⟩ : ∃ S, S = (s₁.setTop (entryFrame m #[(.int a), (.int b), (.int n), f] 4)) := ⟨_, rfl⟩
  rw [← hS0'] at cc0
  have cc21 : Steps p.tables e below S0' (s₁.setTop (mkF m 23 #[.val (.int a), .val (.int b), .val (.int n), .val f] [(.int a)])) := Steps.trans cc0 (by
    refine XS.iloadN X0.here hx rfl (own_d hby d2_0) rfl ?_
    refine XS.ifNo X0.here hx rfl (own_d hby d2_1) rfl (i0_lt_f h1) ?_
    refine XS.iloadN X0.here hx rfl (own_d hby d2_4) rfl ?_
    refine XS.iloadN X0.here hx rfl (own_d hby d2_5) rfl ?_
    refine XS.icmpNo X0.here hx rfl (own_d hby d2_6) rfl (ii_gt_f h2) ?_
    refine XS.iloadN X0.here hx rfl (own_d hby d2_9) rfl ?_
    refine XS.iloadN X0.here hx rfl (own_d hby d2_10) rfl ?_
    refine XS.icmpYes X0.here hx rfl (pc0 := 11) rfl (own_d hby d2_11) rfl (ii_le_t h3) (by decide) rfl ?_
    refine XS.iloadN X0.here hx rfl (own_d hby d2_22) rfl ?_
    exact Steps.refl _)
  have cE := cc21
  rw [hS0'] at cE
  obtain ⟨fs, hr_, hrun, hended, hW, hsame⟩ := X0.leave (v := some (.int a)) (fun h => by rw [Bd.returns] at h; cases h)
  refine ⟨_, _, cE.trans (X0.ireturnOut hx Bd.returns (rfl) (by simp) (own_d hby d2_23) hr_), hrun, hended, _, _, rfl, ?_, ⟨_, rfl⟩, hW, hsame.mono (by first | decide | omega) (by first | decide | omega)⟩
  show Q_own_cft Z a b n f h0 n0 _ s₁.heap _
  rw [e0]
  exact ⟨rfl, N0, rfl⟩
theorem d3_0 : decode jdk_42_method_158_code 0 = .ok (.iload_n 0, 1) := by decide +kernel
theorem d3_1 : decode jdk_42_method_158_code 1 = .ok (.iload_n 1, 1) := by decide +kernel
theorem d3_2 : decode jdk_42_method_158_code 2 = .ok (.iload_n 2, 1) := by decide +kernel
theorem d3_3 : decode jdk_42_method_158_code 3 = .ok (.getstatic 1053, 3) := by decide +kernel
theorem d3_6 : decode jdk_42_method_158_code 6 = .ok (.invokestatic 1062, 3) := by decide +kernel
theorem d3_9 : decode jdk_42_method_158_code 9 = .ok (.pop, 1) := by decide +kernel
theorem d3_10 : decode jdk_42_method_158_code 10 = .ok (.return_, 1) := by decide +kernel
def Q_own_cbe (Z : State) (a b n : Int32) (f : Value) (h0 : Heap) (n0 : Nat) (v : Option Value) (h : Heap) (L : List Loc) : Prop := v = none ∧ Fr n0 L ∧ h = h0
set_option maxRecDepth 65536 in
set_option maxHeartbeats 40000000 in
theorem own_cbe (l : Launch) (Z : State) (a0 : Array Value) (hw : ∀ d ∈ tables_1, d.before a0 Z = true) (a b n : Int32) (f : Value) (h0 : Heap) (n0 : Nat) (Z0 : n0 ≤ h0.size) (X00 : Old Z n0 h0) (h1 : ¬ a < 0) (h2 : ¬ b < a) (h3 : ¬ n < b) (O4 : Sta Z Z.heap "jdk/internal/util/Preconditions" "SIOOBE_FORMATTER" "Ljava/util/function/BiFunction;" f) (hf : f.isRef = true) :
    MetFree l (⟨"java/lang/String", "checkBoundsBeginEnd", "(III)V"⟩ : MethodName) (head1 [Jvm.Cond.code (⟨"java/lang/String", "checkBoundsBeginEnd", "(III)V"⟩ : MethodName) jdk_42_method_158_code 3 none] ({ frames := 1, cells := 0, slots := 0, locals := 15 } : Room)) (fun a_ U_ => a_ = #[(.int a), (.int b), (.int n)] ∧ Z.Warmed39 U_.vm ∧ U_.heap = h0) (fun _ _ _ _ _ => True) (fun _ U_ o_ V_ => ∃ v_ L_, o_ = .returned v_ ∧ Q_own_cbe Z a b n f h0 n0 v_ V_.heap L_ ∧ FrameEnd U_ o_ V_ L_ ({ frames := 1, cells := 0, slots := 0, locals := 15 } : Room).cells ({ frames := 1, cells := 0, slots := 0, locals := 15 } : Room).slots) := by
  refine MetFree.of_bodySF (plainFor_of_name own_pn0) hisR ?_
  intro p e s m args below meth c s₁ Bd hml0 hP hK
  obtain ⟨rfl, hZ, hh⟩ := hP
  have hx := Bd.exec
  have hby := Bd.bytes
  have hml : c.maxLocals = 3 := hml0
  have hown : s.vm.findClass "java/lang/String" = some m.cls := findClass_of_methodNamed Bd.named
  have hnm := (name_of_methodNamed Bd.named Bd.method).1
  have X0 : Stand p l e ({ frames := 1, cells := 0, slots := 0, locals := 15 } : Room) s m #[(.int a), (.int b), (.int n)] below meth c s₁ [] 0 0 := Stand.of_body Bd
  have e0 : s₁.heap = h0 := by rw [← hh, Bd.state]; rfl
  have N0 := Fr.nil n0
  have KK0 := Keep.refl h0 ([] : List Addr)
  have cc0 : Steps p.tables e below (s₁.setTop (entryFrame m #[(.int a), (.int b), (.int n)] 3)) (s₁.setTop (mkF m 0 #[.val (.int a), .val (.int b), .val (.int n)] [])) := XT.entry rfl
  obtain ⟨S0', hS0'⟩ : ∃ S, S = (s₁.setTop (entryFrame m #[(.int a), (.int b), (.int n)] 3)) := ⟨_, rfl⟩
  rw [← hS0'] at cc0
  have w_118 := hw _ (List.mem_of_getElem? (i := 118) rfl)
  have w_121 := hw _ (List.mem_of_getElem? (i := 121) rfl)
  have cc21 : Steps p.tables e below S0' (s₁.setTop (mkF m 3 #[.val (.int a), .val (.int b), .val (.int n)] [(.int n), (.int b), (.int a)])) := Steps.trans cc0 (by
    refine XS.iloadN X0.here hx rfl (own_d hby d3_0) rfl ?_
    refine XS.iloadN X0.here hx rfl (own_d hby d3_1) rfl ?_
    refine XS.iloadN X0.here hx rfl (own_d hby d3_2) rfl ?_
    exact Steps.refl _)
  obtain ⟨T22, X22, e22, st22⟩ := getS2 X0 hx hZ hown (host := "") (Or.inl (hw _ (List.mem_of_getElem? (i := 117) rfl))) Via.refl e0 (O4.ext X00.2) (g := (mkF m 3 #[.val (.int a), .val (.int b), .val (.int n)] [(.int n), (.int b), (.int a)])) rfl (own_d hby d3_3)
  have cc23 : Steps p.tables e below S0' (T22.setTop (mkF m 6 #[.val (.int a), .val (.int b), .val (.int n)] [f, (.int n), (.int b), (.int a)])) := (cc21.trans (st22 _ (Steps.refl _)))
  obtain ⟨_, _, ⟨T24, L24, k24, n24⟩, -, X24, ⟨Lc24, hQ24, l24, y24, z24⟩, st24⟩ := Jvm.LawKit.callS X22 hx (y := (⟨"jdk/internal/util/Preconditions", "checkFromToIndex", "(IIILjava/util/function/BiFunction;)I"⟩ : MethodName)) hown (mvT hZ (hw _ (List.mem_of_getElem? (i := 119) rfl))) (mvT hZ (hw _ (List.mem_of_getElem? (i := 120) rfl))) (mvT hZ w_118) (mvT hZ w_121) (by decide) (backOf (W := 0) (own_cft l Z a0 hw a b n f h0 n0 Z0 h1 h2 h3 hf) hZ w_121 w_118 (by decide) (by decide)) (g := (mkF m 6 #[.val (.int a), .val (.int b), .val (.int n)] [f, (.int n), (.int b), (.int a)])) rfl (by rw [hml]; rfl) (argsL := [(.int a), (.int b), (.int n), f]) (rest := []) (lenOf own_pd1 rfl) rfl (by show 2 * 0 + _ ≤ _; exact Nat.le_of_eq rfl) (own_d hby d3_6) (fun _ _ => ⟨rfl, e22, Nat.le_of_ble_eq_true rfl, Nat.le_of_ble_eq_true rfl⟩)
  dsimp only [Pt.U, Pt.locs, Pt.cells, Pt.slots] at X24 l24 y24 z24 st24 hQ24
  subst l24 y24 z24
  obtain ⟨rfl, Nq24, eq24⟩ := hQ24
  have N24 := Fr.app N0 Nq24
  have e24 : T24.heap = h0 := eq24
  have cc25 : Steps p.tables e below S0' (T24.setTop (mkF m 10 #[.val (.int a), .val (.int b), .val (.int n)] [])) := Steps.trans (cc23.trans (st24 _ (Steps.refl _))) (by
    refine XT.pop X24.here hx rfl (own_d hby d3_9) rfl rfl ?_
    exact Steps.refl _)
  have cE := cc25
  rw [hS0'] at cE
  obtain ⟨fs, hr_, hrun, hended, hW, hsame⟩ := X24.leave (v := none) (fun _ => rfl)
  refine ⟨_, _, cE.trans (X24.returnOut hx Bd.returns (own_d hby d3_10) hr_), hrun, hended, _, _, rfl, ?_, ⟨_, rfl⟩, hW, hsame.mono (by first | decide | omega) (by first | decide | omega)⟩
  show Q_own_cbe Z a b n f h0 n0 _ T24.heap _
  rw [e24]
  exact ⟨rfl, N24, rfl⟩
theorem d4_0 : decode jdk_42_method_154_code 0 = .ok (.getstatic 38, 3) := by decide +kernel
theorem d4_3 : decode jdk_42_method_154_code 3 = .ok (.ifCond .eq 14, 3) := by decide +kernel
theorem d4_6 : decode jdk_42_method_154_code 6 = .ok (.aload_n 0, 1) := by decide +kernel
theorem d4_7 : decode jdk_42_method_154_code 7 = .ok (.getfield 15, 3) := by decide +kernel
theorem d4_10 : decode jdk_42_method_154_code 10 = .ok (.ifCond .ne 7, 3) := by decide +kernel
theorem d4_13 : decode jdk_42_method_154_code 13 = .ok (.iconst 1, 1) := by decide +kernel
theorem d4_14 : decode jdk_42_method_154_code 14 = .ok (.goto 4, 3) := by decide +kernel
theorem d4_17 : decode jdk_42_method_154_code 17 = .ok (.iconst 0, 1) := by decide +kernel
theorem d4_18 : decode jdk_42_method_154_code 18 = .ok (.ireturn, 1) := by decide +kernel
def Q_own_isL (Z : State) (x : Addr) (cd z : Int32) (h0 : Heap) (n0 : Nat) (v : Option Value) (h : Heap) (L : List Loc) : Prop := v = some (.int (1 - cd)) ∧ Fr n0 L ∧ h = h0
set_option maxRecDepth 65536 in
set_option maxHeartbeats 40000000 in
theorem own_isL (l : Launch) (Z : State) (a0 : Array Value) (hw : ∀ d ∈ tables_1, d.before a0 Z = true) (x : Addr) (cd z : Int32) (h0 : Heap) (n0 : Nat) (Z0 : n0 ≤ h0.size) (X00 : Old Z n0 h0) (O2 : Sta Z Z.heap "java/lang/String" "COMPACT_STRINGS" "Z" (.int z)) (P5 : ¬ z = 0) (C : Fld Z h0 x "java/lang/String" "coder" "B" (.int cd)) (hcd : cd = 0 ∨ cd = 1) :
    MetFree l (⟨"java/lang/String", "isLatin1", "()Z"⟩ : MethodName) (head1 [Jvm.Cond.code (⟨"java/lang/String", "isLatin1", "()Z"⟩ : MethodName) jdk_42_method_154_code 1 (some .boolean)] ({ frames := 0, cells := 0, slots := 0, locals := 0 } : Room)) (fun a_ U_ => a_ = #[(.ref x)] ∧ Z.Warmed39 U_.vm ∧ U_.heap = h0) (fun _ _ _ _ _ => True) (fun _ U_ o_ V_ => ∃ v_ L_, o_ = .returned v_ ∧ Q_own_isL Z x cd z h0 n0 v_ V_.heap L_ ∧ FrameEnd U_ o_ V_ L_ ({ frames := 0, cells := 0, slots := 0, locals := 0 } : Room).cells ({ frames := 0, cells := 0, slots := 0, locals := 0 } : Room).slots) := by
  refine MetFree.of_bodySF (plainFor_of_name own_pn0) hisR ?_
  intro p e s m args below meth c s₁ Bd hml0 hP hK
  obtain ⟨rfl, hZ, hh⟩ := hP
  have hx := Bd.exec
  have hby := Bd.bytes
  have hml : c.maxLocals = 1 := hml0
  have hown : s.vm.findClass "java/lang/String" = some m.cls := findClass_of_methodNamed Bd.named
  have hnm := (name_of_methodNamed Bd.named Bd.method).1
  have X0 : Stand p l e ({ frames := 0, cells := 0, slots := 0, locals := 0 } : Room) s m #[(.ref x)] below meth c s₁ [] 0 0 := Stand.of_body Bd
  have e0 : s₁.heap = h0 := by rw [← hh, Bd.state]; rfl
  have N0 := Fr.nil n0
  have KK0 := Keep.refl h0 ([] : List Addr)
  have cc0 : Steps p.tables e below (s₁.setTop (entryFrame m #[(.ref x)] 1)) (s₁.setTop (mkF m 0 #[.val (.ref x)] [])) := XT.entry rfl
  obtain ⟨S0', hS0'⟩ : ∃ S, S = (s₁.setTop (entryFrame m #[(.ref x)] 1)) := ⟨_, rfl⟩
  rw [← hS0'] at cc0
  obtain ⟨T21, X21, e21, st21⟩ := getS2 X0 hx hZ hown (host := "") (Or.inl (hw _ (List.mem_of_getElem? (i := 46) rfl))) Via.refl e0 (O2.ext X00.2) (g := (mkF m 0 #[.val (.ref x)] [])) rfl (own_d hby d4_0)
  have cc22 : Steps p.tables e below S0' (T21.setTop (mkF m 7 #[.val (.ref x)] [(.ref x)])) := Steps.trans (cc0.trans (st21 _ (Steps.refl _))) (by
    refine XS.ifNo X21.here hx rfl (own_d hby d4_3) rfl (i0_eq_f P5) ?_
    refine XS.aloadN X21.here hx rfl (own_d hby d4_6) rfl rfl ?_
    exact Steps.refl _)
  obtain ⟨T23, X23, e23, st23⟩ := getF X21 hx hZ hown (host := "") (Or.inl (hw _ (List.mem_of_getElem? (i := 25) rfl))) Via.refl e21 C (g := (mkF m 7 #[.val (.ref x)] [(.ref x)])) rfl rfl (own_d hby d4_7)
  have cc24 : Steps p.tables e below S0' (T23.setTop (mkF m 10 #[.val (.ref x)] [(.int cd)])) := (cc22.trans (st23 _ (Steps.refl _)))
  rcases hcd with rfl | rfl
  · skip
    have cc25 : Steps p.tables e below S0' (T23.setTop (mkF m 18 #[.val (.ref x)] [(.int 1)])) := Steps.trans cc24 (by
      refine XS.ifNo X23.here hx rfl (own_d hby d4_10) rfl (i0_ne_f rfl) ?_
      refine iconstV X23.here hx rfl 1 (own_d hby d4_13) (by decide) ?_
      refine XS.goto X23.here hx rfl (pc0 := 14) rfl (own_d hby d4_14) (by decide) rfl ?_
      exact Steps.refl _)
    have cE := cc25
    rw [hS0'] at cE
    obtain ⟨fs, hr_, hrun, hended, hW, hsame⟩ := X23.leave (v := some (.int 1)) (fun h => by rw [Bd.returns] at h; cases h)
    refine ⟨_, _, cE.trans (X23.ireturnOut hx Bd.returns (rfl) (by simp) (own_d hby d4_18) hr_), hrun, hended, _, _, rfl, ?_, ⟨_, rfl⟩, hW, hsame.mono (by first | decide | omega) (by first | decide | omega)⟩
    show Q_own_isL Z x 0 z h0 n0 _ T23.heap _
    rw [e23]
    exact ⟨rfl, N0, rfl⟩
  · skip
    have cc25 : Steps p.tables e below S0' (T23.setTop (mkF m 18 #[.val (.ref x)] [(.int 0)])) := Steps.trans cc24 (by
      refine XS.ifYes X23.here hx rfl (pc0 := 10) rfl (own_d hby d4_10) rfl (i0_ne_t (by decide)) (by decide) rfl ?_
      refine iconstV X23.here hx rfl 0 (own_d hby d4_17) (by decide) ?_
      exact Steps.refl _)
    have cE := cc25
    rw [hS0'] at cE
    obtain ⟨fs, hr_, hrun, hended, hW, hsame⟩ := X23.leave (v := some (.int 0)) (fun h => by rw [Bd.returns] at h; cases h)
    refine ⟨_, _, cE.trans (X23.ireturnOut hx Bd.returns (rfl) (by simp) (own_d hby d4_18) hr_), hrun, hended, _, _, rfl, ?_, ⟨_, rfl⟩, hW, hsame.mono (by first | decide | omega) (by first | decide | omega)⟩
    show Q_own_isL Z x 1 z h0 n0 _ T23.heap _
    rw [e23]
    exact ⟨rfl, N0, rfl⟩
theorem d5_0 : decode jdk_52_method_5_code 0 = .ok (.getstatic 44, 3) := by decide +kernel
theorem d5_3 : decode jdk_52_method_5_code 3 = .ok (.ifCond .ne 25, 3) := by decide +kernel
theorem d5_28 : decode jdk_52_method_5_code 28 = .ok (.iload_n 1, 1) := by decide +kernel
theorem d5_29 : decode jdk_52_method_5_code 29 = .ok (.iconst 1, 1) := by decide +kernel
theorem d5_30 : decode jdk_52_method_5_code 30 = .ok (.ishl, 1) := by decide +kernel
theorem d5_31 : decode jdk_52_method_5_code 31 = .ok (.istore_n 1, 1) := by decide +kernel
theorem d5_32 : decode jdk_52_method_5_code 32 = .ok (.aload_n 0, 1) := by decide +kernel
theorem d5_33 : decode jdk_52_method_5_code 33 = .ok (.iload_n 1, 1) := by decide +kernel
theorem d5_34 : decode jdk_52_method_5_code 34 = .ok (.iinc 1 1, 3) := by decide +kernel
theorem d5_37 : decode jdk_52_method_5_code 37 = .ok (.baload, 1) := by decide +kernel
theorem d5_38 : decode jdk_52_method_5_code 38 = .ok (.sipush 255, 3) := by decide +kernel
theorem d5_41 : decode jdk_52_method_5_code 41 = .ok (.iand, 1) := by decide +kernel
theorem d5_42 : decode jdk_52_method_5_code 42 = .ok (.getstatic 59, 3) := by decide +kernel
theorem d5_45 : decode jdk_52_method_5_code 45 = .ok (.ishl, 1) := by decide +kernel
theorem d5_46 : decode jdk_52_method_5_code 46 = .ok (.aload_n 0, 1) := by decide +kernel
theorem d5_47 : decode jdk_52_method_5_code 47 = .ok (.iload_n 1, 1) := by decide +kernel
theorem d5_48 : decode jdk_52_method_5_code 48 = .ok (.baload, 1) := by decide +kernel
theorem d5_49 : decode jdk_52_method_5_code 49 = .ok (.sipush 255, 3) := by decide +kernel
theorem d5_52 : decode jdk_52_method_5_code 52 = .ok (.iand, 1) := by decide +kernel
theorem d5_53 : decode jdk_52_method_5_code 53 = .ok (.getstatic 63, 3) := by decide +kernel
theorem d5_56 : decode jdk_52_method_5_code 56 = .ok (.ishl, 1) := by decide +kernel
theorem d5_57 : decode jdk_52_method_5_code 57 = .ok (.ior, 1) := by decide +kernel
theorem d5_58 : decode jdk_52_method_5_code 58 = .ok (.i2c, 1) := by decide +kernel
theorem d5_59 : decode jdk_52_method_5_code 59 = .ok (.ireturn, 1) := by decide +kernel
def Q_own_getc (Z : State) (t : Addr) (kb : ClassId) (cs : List Int32) (i : Nat) (h0 : Heap) (n0 : Nat) (v : Option Value) (h : Heap) (L : List Loc) : Prop := v = some (.int (cs.getD i 0)) ∧ Fr n0 L ∧ h = h0
set_option maxRecDepth 65536 in
set_option maxHeartbeats 40000000 in
theorem own_getc (l : Launch) (Z : State) (a0 : Array Value) (hw : ∀ d ∈ tables_1, d.before a0 Z = true) (t : Addr) (kb : ClassId) (cs : List Int32) (i : Nat) (h0 : Heap) (n0 : Nat) (Z0 : n0 ≤ h0.size) (X00 : Old Z n0 h0) (O3 : StrChars.Road.U3Z Z Z.heap) (A : Arv Z h0 t kb .byte (Int32.ofNat (2 * cs.length)) (StrChars.Road.wideBytes cs) (.int (0 : Int32))) (hi : i < cs.length) (hl : cs.length ≤ 4000) (hp : ∀ c ∈ cs, ¬ c < 0 ∧ ¬ (65535 : Int32) < c) :
    MetFree l (⟨"java/lang/StringUTF16", "getChar", "([BI)C"⟩ : MethodName) (head1 [Jvm.Cond.code (⟨"java/lang/StringUTF16", "getChar", "([BI)C"⟩ : MethodName) jdk_52_method_5_code 2 (some .char)] ({ frames := 0, cells := 0, slots := 0, locals := 0 } : Room)) (fun a_ U_ => a_ = #[(.ref t), (.int (Int32.ofNat i))] ∧ Z.Warmed39 U_.vm ∧ U_.heap = h0) (fun _ _ _ _ _ => True) (fun _ U_ o_ V_ => ∃ v_ L_, o_ = .returned v_ ∧ Q_own_getc Z t kb cs i h0 n0 v_ V_.heap L_ ∧ FrameEnd U_ o_ V_ L_ ({ frames := 0, cells := 0, slots := 0, locals := 0 } : Room).cells ({ frames := 0, cells := 0, slots := 0, locals := 0 } : Room).slots) := by
  refine MetFree.of_bodySF (plainFor_of_name own_pn2) hisR ?_
  intro p e s m args below meth c s₁ Bd hml0 hP hK
  obtain ⟨rfl, hZ, hh⟩ := hP
  have hx := Bd.exec
  have hby := Bd.bytes
  have hml : c.maxLocals = 2 := hml0
  have hown : s.vm.findClass "java/lang/StringUTF16" = some m.cls := findClass_of_methodNamed Bd.named
  have hnm := (name_of_methodNamed Bd.named Bd.method).1
  have X0 : Stand p l e ({ frames := 0, cells := 0, slots := 0, locals := 0 } : Room) s m #[(.ref t), (.int (Int32.ofNat i))] below meth c s₁ [] 0 0 := Stand.of_body Bd
  have e0 : s₁.heap = h0 := by rw [← hh, Bd.state]; rfl
  have N0 := Fr.nil n0
  have KK0 := Keep.refl h0 ([] : List Addr)
  have cc0 : Steps p.tables e below (s₁.setTop (entryFrame m #[(.ref t), (.int (Int32.ofNat i))] 2)) (s₁.setTop (mkF m 0 #[.val (.ref t), .val (.int (Int32.ofNat i))] [])) := XT.entry rfl
  obtain ⟨S0', hS0'⟩ : ∃ S, S = (s₁.setTop (entryFrame m #[(.ref t), (.int (Int32.ofNat i))] 2)) := ⟨_, rfl⟩
  rw [← hS0'] at cc0
  obtain ⟨T21, X21, e21, st21⟩ := getS2 X0 hx hZ hown (host := "") (Or.inl (hw _ (List.mem_of_getElem? (i := 85) rfl))) Via.refl e0 (O3.1.ext X00.2) (g := (mkF m 0 #[.val (.ref t), .val (.int (Int32.ofNat i))] [])) rfl (own_d hby d5_0)
  have cc22 : Steps p.tables e below S0' (T21.setTop (mkF m 31 #[.val (.ref t), .val (.int (Int32.ofNat i))] [(.int ((Int32.ofNat i) <<< ((1 : Int32) &&& 31)))])) := Steps.trans (cc0.trans (st21 _ (Steps.refl _))) (by
    refine XS.ifYes X21.here hx rfl (pc0 := 3) rfl (own_d hby d5_3) rfl (i0_ne_t (by decide)) (by decide) rfl ?_
    refine XS.iloadN X21.here hx rfl (own_d hby d5_28) rfl ?_
    refine iconstV X21.here hx rfl 1 (own_d hby d5_29) (by decide) ?_
    refine XT.ishl X21.here hx rfl (own_d hby d5_30) rfl ?_
    exact Steps.refl _)
  rw [StrChars.shl1] at cc22
  have cc23 : Steps p.tables e below S0' (T21.setTop (mkF m 37 #[.val (.ref t), .val (.int ((Int32.ofNat (2 * i)) + 1))] [(.int (Int32.ofNat (2 * i))), (.ref t)])) := Steps.trans cc22 (by
    refine XS.istoreN X21.here hx rfl (own_d hby d5_31) rfl rfl ?_
    refine XS.aloadN X21.here hx rfl (own_d hby d5_32) rfl rfl ?_
    refine XS.iloadN X21.here hx rfl (own_d hby d5_33) rfl ?_
    refine iincV X21.here hx rfl 1 (own_d hby d5_34) (by decide) rfl rfl ?_
    exact Steps.refl _)
  obtain ⟨clu24, Aru24, qu24, Su24, Ngu24, Hsu24, Gsu24⟩ := id A
  have inu24 : ¬ (Int32.ofNat (2 * i) < 0 ∨ clu24.slots.size ≤ (Int32.ofNat (2 * i)).toNatClampNeg) := inb_of Su24 ⟨Int32.ofNat_not_neg (by omega), lt32 (by omega) (by omega)⟩
  have atu24 : clu24.slots[(Int32.ofNat (2 * i)).toNatClampNeg]? = some (.int (StrChars.lo8 (cs.getD i 0))) := Hsu24.at inu24 (by rw [n32 (by omega)]; exact StrChars.Road.wide_lo _ cs i hi)
  have cc25 : Steps p.tables e below S0' (T21.setTop (mkF m 42 #[.val (.ref t), .val (.int ((Int32.ofNat (2 * i)) + 1))] [(.int ((StrChars.lo8 (cs.getD i 0)) &&& (255 : Int32)))])) := Steps.trans cc23 (by
    refine X21.baloadBytes hx (j := Int32.ofNat (2 * i)) (v := (.int (StrChars.lo8 (cs.getD i 0)))) (by rw [e21]; exact Aru24.1) (State.isArrayOf_alike (hZ).alike Aru24.2.1) Aru24.2.2 inu24 atu24 (g := (mkF m 37 #[.val (.ref t), .val (.int ((Int32.ofNat (2 * i)) + 1))] [(.int (Int32.ofNat (2 * i))), (.ref t)])) rfl rfl (own_d hby d5_37) _ ?_
    refine sipushV X21.here hx rfl 255 (own_d hby d5_38) (by decide) ?_
    refine XS.iand X21.here hx rfl (own_d hby d5_41) rfl ?_
    exact Steps.refl _)
  obtain ⟨T26, X26, e26, st26⟩ := getS2 X21 hx hZ hown (host := "") (Or.inl (hw _ (List.mem_of_getElem? (i := 86) rfl))) Via.refl e21 (O3.2.1.ext X00.2) (g := (mkF m 42 #[.val (.ref t), .val (.int ((Int32.ofNat (2 * i)) + 1))] [(.int ((StrChars.lo8 (cs.getD i 0)) &&& (255 : Int32)))])) rfl (own_d hby d5_42)
  have cc27 : Steps p.tables e below S0' (T26.setTop (mkF m 48 #[.val (.ref t), .val (.int ((Int32.ofNat (2 * i)) + 1))] [(.int ((Int32.ofNat (2 * i)) + 1)), (.ref t), (.int (((StrChars.lo8 (cs.getD i 0)) &&& (255 : Int32)) <<< ((0 : Int32) &&& 31)))])) := Steps.trans (cc25.trans (st26 _ (Steps.refl _))) (by
    refine XT.ishl X26.here hx rfl (own_d hby d5_45) rfl ?_
    refine XS.aloadN X26.here hx rfl (own_d hby d5_46) rfl rfl ?_
    refine XS.iloadN X26.here hx rfl (own_d hby d5_47) rfl ?_
    exact Steps.refl _)
  have cz : Steps p.tables e below S0' (T26.setTop (mkF m 48 #[.val (.ref t), .val (.int (Int32.ofNat (2 * i + 1)))] [(.int (Int32.ofNat (2 * i + 1))), (.ref t), (.int (((StrChars.lo8 (cs.getD i 0)) &&& (255 : Int32)) <<< ((0 : Int32) &&& 31)))])) := by
    have := cc27
    rw [succ32] at this
    exact this
  obtain ⟨clu28, Aru28, qu28, Su28, Ngu28, Hsu28, Gsu28⟩ := id A
  have inu28 : ¬ (Int32.ofNat (2 * i + 1) < 0 ∨ clu28.slots.size ≤ (Int32.ofNat (2 * i + 1)).toNatClampNeg) := inb_of Su28 ⟨Int32.ofNat_not_neg (by omega), lt32 (by omega) (by omega)⟩
  have atu28 : clu28.slots[(Int32.ofNat (2 * i + 1)).toNatClampNeg]? = some (.int (StrChars.hi8 (cs.getD i 0))) := Hsu28.at inu28 (by rw [n32 (by omega)]; exact StrChars.Road.wide_hi _ cs i hi)
  have cc29 : Steps p.tables e below S0' (T26.setTop (mkF m 53 #[.val (.ref t), .val (.int (Int32.ofNat (2 * i + 1)))] [(.int ((StrChars.hi8 (cs.getD i 0)) &&& (255 : Int32))), (.int (((StrChars.lo8 (cs.getD i 0)) &&& (255 : Int32)) <<< ((0 : Int32) &&& 31)))])) := Steps.trans cz (by
    refine X26.baloadBytes hx (j := Int32.ofNat (2 * i + 1)) (v := (.int (StrChars.hi8 (cs.getD i 0)))) (by rw [e26]; exact Aru28.1) (State.isArrayOf_alike (hZ).alike Aru28.2.1) Aru28.2.2 inu28 atu28 (g := (mkF m 48 #[.val (.ref t), .val (.int (Int32.ofNat (2 * i + 1)))] [(.int (Int32.ofNat (2 * i + 1))), (.ref t), (.int (((StrChars.lo8 (cs.getD i 0)) &&& (255 : Int32)) <<< ((0 : Int32) &&& 31)))])) rfl rfl (own_d hby d5_48) _ ?_
    refine sipushV X26.here hx rfl 255 (own_d hby d5_49) (by decide) ?_
    refine XS.iand X26.here hx rfl (own_d hby d5_52) rfl ?_
    exact Steps.refl _)
  obtain ⟨T30, X30, e30, st30⟩ := getS2 X26 hx hZ hown (host := "") (Or.inl (hw _ (List.mem_of_getElem? (i := 87) rfl))) Via.refl e26 (O3.2.2.ext X00.2) (g := (mkF m 53 #[.val (.ref t), .val (.int (Int32.ofNat (2 * i + 1)))] [(.int ((StrChars.hi8 (cs.getD i 0)) &&& (255 : Int32))), (.int (((StrChars.lo8 (cs.getD i 0)) &&& (255 : Int32)) <<< ((0 : Int32) &&& 31)))])) rfl (own_d hby d5_53)
  have cc31 : Steps p.tables e below S0' (T30.setTop (mkF m 59 #[.val (.ref t), .val (.int (Int32.ofNat (2 * i + 1)))] [(.int (((((StrChars.lo8 (cs.getD i 0)) &&& (255 : Int32)) <<< ((0 : Int32) &&& 31)) ||| (((StrChars.hi8 (cs.getD i 0)) &&& (255 : Int32)) <<< ((8 : Int32) &&& 31))).toUInt32.toUInt16.toUInt32.toInt32))])) := Steps.trans (cc29.trans (st30 _ (Steps.refl _))) (by
    refine XT.ishl X30.here hx rfl (own_d hby d5_56) rfl ?_
    refine XT.ior X30.here hx rfl (own_d hby d5_57) rfl ?_
    refine XT.i2c X30.here hx rfl (own_d hby d5_58) rfl ?_
    exact Steps.refl _)
  have hc : cs.getD i 0 ∈ cs := by rw [List.getD_eq_getElem?_getD, List.getElem?_eq_getElem hi]; exact List.getElem_mem _
  have cy : Steps p.tables e below S0' (T30.setTop (mkF m 59 #[.val (.ref t), .val (.int (Int32.ofNat (2 * i + 1)))] [(.int (cs.getD i 0))])) := by
    rw [← StrChars.pair_says (hp _ hc).1 (hp _ hc).2]
    exact cc31
  have cE := cy
  rw [hS0'] at cE
  obtain ⟨fs, hr_, hrun, hended, hW, hsame⟩ := X30.leave (v := some (.int (cs.getD i 0))) (fun h => by rw [Bd.returns] at h; cases h)
  refine ⟨_, _, cE.trans (X30.ireturnOut hx Bd.returns (StrChars.narrow_ch (hp _ hc).1 (hp _ hc).2) (by simp) (own_d hby d5_59) hr_), hrun, hended, _, _, rfl, ?_, ⟨_, rfl⟩, hW, hsame.mono (by first | decide | omega) (by first | decide | omega)⟩
  show Q_own_getc Z t kb cs i h0 n0 _ T30.heap _
  rw [e30]
  exact ⟨rfl, N0, rfl⟩
theorem d6_0 : decode jdk_43_method_4_code 0 = .ok (.iload_n 0, 1) := by decide +kernel
theorem d6_1 : decode jdk_43_method_4_code 1 = .ok (.ifCond .lt 14, 3) := by decide +kernel
theorem d6_4 : decode jdk_43_method_4_code 4 = .ok (.iload_n 0, 1) := by decide +kernel
theorem d6_5 : decode jdk_43_method_4_code 5 = .ok (.sipush 255, 3) := by decide +kernel
theorem d6_8 : decode jdk_43_method_4_code 8 = .ok (.if_icmp .gt 7, 3) := by decide +kernel
theorem d6_15 : decode jdk_43_method_4_code 15 = .ok (.iconst 0, 1) := by decide +kernel
theorem d6_16 : decode jdk_43_method_4_code 16 = .ok (.ireturn, 1) := by decide +kernel
def Q_own_enc (Z : State)  (h0 : Heap) (n0 : Nat) (v : Option Value) (h : Heap) (L : List Loc) : Prop := v = some (.int 0) ∧ Fr n0 L ∧ h = h0
set_option maxRecDepth 65536 in
set_option maxHeartbeats 40000000 in
theorem own_enc (l : Launch) (Z : State) (a0 : Array Value) (hw : ∀ d ∈ tables_1, d.before a0 Z = true)  (h0 : Heap) (n0 : Nat) (Z0 : n0 ≤ h0.size)  :
    MetFree l (⟨"java/lang/StringLatin1", "canEncode", "(I)Z"⟩ : MethodName) (head1 [Jvm.Cond.code (⟨"java/lang/StringLatin1", "canEncode", "(I)Z"⟩ : MethodName) jdk_43_method_4_code 1 (some .boolean)] ({ frames := 0, cells := 0, slots := 0, locals := 0 } : Room)) (fun a_ U_ => a_ = #[(.int (65533 : Int32))] ∧ Z.Warmed39 U_.vm ∧ U_.heap = h0) (fun _ _ _ _ _ => True) (fun _ U_ o_ V_ => ∃ v_ L_, o_ = .returned v_ ∧ Q_own_enc Z  h0 n0 v_ V_.heap L_ ∧ FrameEnd U_ o_ V_ L_ ({ frames := 0, cells := 0, slots := 0, locals := 0 } : Room).cells ({ frames := 0, cells := 0, slots := 0, locals := 0 } : Room).slots) := by
  refine MetFree.of_bodySF (plainFor_of_name own_pn3) hisR ?_
  intro p e s m args below meth c s₁ Bd hml0 hP hK
  obtain ⟨rfl, hZ, hh⟩ := hP
  have hx := Bd.exec
  have hby := Bd.bytes
  have hml : c.maxLocals = 1 := hml0
  have hown : s.vm.findClass "java/lang/StringLatin1" = some m.cls := findClass_of_methodNamed Bd.named
  have hnm := (name_of_methodNamed Bd.named Bd.method).1
  have X0 : Stand p l e ({ frames := 0, cells := 0, slots := 0, locals := 0 } : Room) s m #[(.int (65533 : Int32))] below meth c s₁ [] 0 0 := Stand.of_body Bd
  have e0 : s₁.heap = h0 := by rw [← hh, Bd.state]; rfl
  have N0 := Fr.nil n0
  have KK0 := Keep.refl h0 ([] : List Addr)
  have cc0 : Steps p.tables e below (s₁.setTop (entryFrame m #[(.int (65533 : Int32))] 1)) (s₁.setTop (mkF m 0 #[.val (.int (65533 : Int32))] [])) := XT.entry rfl
  obtain ⟨S0', hS0'⟩ : ∃ S, S = (s₁.setTop (entryFrame m #[(.int (65533 : Int32))] 1)) := ⟨_, rfl⟩
  rw [← hS0'] at cc0
  have cc21 : Steps p.tables e below S0' (s₁.setTop (mkF m 16 #[.val (.int (65533 : Int32))] [(.int 0)])) := Steps.trans cc0 (by
    refine XS.iloadN X0.here hx rfl (own_d hby d6_0) rfl ?_
    refine XS.ifNo X0.here hx rfl (own_d hby d6_1) rfl (i0_lt_f (by decide)) ?_
    refine XS.iloadN X0.here hx rfl (own_d hby d6_4) rfl ?_
    refine sipushV X0.here hx rfl 255 (own_d hby d6_5) (by decide) ?_
    refine XS.icmpYes X0.here hx rfl (pc0 := 8) rfl (own_d hby d6_8) rfl (ii_gt_t (by decide)) (by decide) rfl ?_
    refine iconstV X0.here hx rfl 0 (own_d hby d6_15) (by decide) ?_
    exact Steps.refl _)
  have cE := cc21
  rw [hS0'] at cE
  obtain ⟨fs, hr_, hrun, hended, hW, hsame⟩ := X0.leave (v := some (.int 0)) (fun h => by rw [Bd.returns] at h; cases h)
  refine ⟨_, _, cE.trans (X0.ireturnOut hx Bd.returns (rfl) (by simp) (own_d hby d6_16) hr_), hrun, hended, _, _, rfl, ?_, ⟨_, rfl⟩, hW, hsame.mono (by first | decide | omega) (by first | decide | omega)⟩
  show Q_own_enc Z  h0 n0 _ s₁.heap _
  rw [e0]
  exact ⟨rfl, N0, rfl⟩
theorem d7_0 : decode jdk_43_method_22_code 0 = .ok (.iload_n 1, 1) := by decide +kernel
theorem d7_1 : decode jdk_43_method_22_code 1 = .ok (.invokestatic 88, 3) := by decide +kernel
theorem d7_4 : decode jdk_43_method_22_code 4 = .ok (.ifCond .ne 5, 3) := by decide +kernel
theorem d7_7 : decode jdk_43_method_22_code 7 = .ok (.iconst (-1), 1) := by decide +kernel
theorem d7_8 : decode jdk_43_method_22_code 8 = .ok (.ireturn, 1) := by decide +kernel
def Q_own_lix (Z : State) (t : Addr) (n : Int32) (h0 : Heap) (n0 : Nat) (v : Option Value) (h : Heap) (L : List Loc) : Prop := v = some (.int (-1)) ∧ Fr n0 L ∧ h = h0
set_option maxRecDepth 65536 in
set_option maxHeartbeats 40000000 in
theorem own_lix (l : Launch) (Z : State) (a0 : Array Value) (hw : ∀ d ∈ tables_1, d.before a0 Z = true) (t : Addr) (n : Int32) (h0 : Heap) (n0 : Nat) (Z0 : n0 ≤ h0.size)  :
    MetFree l (⟨"java/lang/StringLatin1", "indexOf", "([BIII)I"⟩ : MethodName) (head1 [Jvm.Cond.code (⟨"java/lang/StringLatin1", "indexOf", "([BIII)I"⟩ : MethodName) jdk_43_method_22_code 4 (some .int)] ({ frames := 1, cells := 0, slots := 0, locals := 12 } : Room)) (fun a_ U_ => a_ = #[(.ref t), (.int (65533 : Int32)), (.int 0), (.int n)] ∧ Z.Warmed39 U_.vm ∧ U_.heap = h0) (fun _ _ _ _ _ => True) (fun _ U_ o_ V_ => ∃ v_ L_, o_ = .returned v_ ∧ Q_own_lix Z t n h0 n0 v_ V_.heap L_ ∧ FrameEnd U_ o_ V_ L_ ({ frames := 1, cells := 0, slots := 0, locals := 12 } : Room).cells ({ frames := 1, cells := 0, slots := 0, locals := 12 } : Room).slots) := by
  refine MetFree.of_bodySF (plainFor_of_name own_pn3) hisR ?_
  intro p e s m args below meth c s₁ Bd hml0 hP hK
  obtain ⟨rfl, hZ, hh⟩ := hP
  have hx := Bd.exec
  have hby := Bd.bytes
  have hml : c.maxLocals = 4 := hml0
  have hown : s.vm.findClass "java/lang/StringLatin1" = some m.cls := findClass_of_methodNamed Bd.named
  have hnm := (name_of_methodNamed Bd.named Bd.method).1
  have X0 : Stand p l e ({ frames := 1, cells := 0, slots := 0, locals := 12 } : Room) s m #[(.ref t), (.int (65533 : Int32)), (.int 0), (.int n)] below meth c s₁ [] 0 0 := Stand.of_body Bd
  have e0 : s₁.heap = h0 := by rw [← hh, Bd.state]; rfl
  have N0 := Fr.nil n0
  have KK0 := Keep.refl h0 ([] : List Addr)
  have cc0 : Steps p.tables e below (s₁.setTop (entryFrame m #[(.ref t), (.int (65533 : Int32)), (.int 0), (.int n)] 4)) (s₁.setTop (mkF m 0 #[.val (.ref t), .val (.int (65533 : Int32)), .val (.int 0), .val (.int n)] [])) := XT.entry rfl
  obtain ⟨S0', hS0'⟩ : ∃ S, S = (s₁.setTop (entryFrame m #[(.ref t), (.int (65533 : Int32)), (.int 0), (.int n)] 4)) := ⟨_, rfl⟩
  rw [← hS0'] at cc0
  have w_59 := hw _ (List.mem_of_getElem? (i := 59) rfl)
  have w_63 := hw _ (List.mem_of_getElem? (i := 63) rfl)
  have cc21 : Steps p.tables e below S0' (s₁.setTop (mkF m 1 #[.val (.ref t), .val (.int (65533 : Int32)), .val (.int 0), .val (.int n)] [(.int (65533 : Int32))])) := Steps.trans cc0 (by
    refine XS.iloadN X0.here hx rfl (own_d hby d7_0) rfl ?_
    exact Steps.refl _)
  obtain ⟨_, _, ⟨T22, L22, k22, n22⟩, -, X22, ⟨Lc22, hQ22, l22, y22, z22⟩, st22⟩ := Jvm.LawKit.callS X0 hx (y := (⟨"java/lang/StringLatin1", "canEncode", "(I)Z"⟩ : MethodName)) hown (mvT hZ (hw _ (List.mem_of_getElem? (i := 61) rfl))) (mvT hZ (hw _ (List.mem_of_getElem? (i := 62) rfl))) (mvT hZ w_59) (mvT hZ w_63) (by decide) (backOf (W := 0) (own_enc l Z a0 hw  h0 n0 Z0 ) hZ w_63 w_59 (by decide) (by decide)) (g := (mkF m 1 #[.val (.ref t), .val (.int (65533 : Int32)), .val (.int 0), .val (.int n)] [(.int (65533 : Int32))])) rfl (by rw [hml]; rfl) (argsL := [(.int (65533 : Int32))]) (rest := []) (lenOf own_pd2 rfl) rfl (by show 2 * 0 + _ ≤ _; exact Nat.le_of_eq rfl) (own_d hby d7_1) (fun _ _ => ⟨rfl, e0, Nat.le_of_ble_eq_true rfl, Nat.le_of_ble_eq_true rfl⟩)
  dsimp only [Pt.U, Pt.locs, Pt.cells, Pt.slots] at X22 l22 y22 z22 st22 hQ22
  subst l22 y22 z22
  obtain ⟨rfl, Nq22, eq22⟩ := hQ22
  have N22 := Fr.app N0 Nq22
  have e22 : T22.heap = h0 := eq22
  have cc23 : Steps p.tables e below S0' (T22.setTop (mkF m 8 #[.val (.ref t), .val (.int (65533 : Int32)), .val (.int 0), .val (.int n)] [(.int (-1))])) := Steps.trans (cc21.trans (st22 _ (Steps.refl _))) (by
    refine XS.ifNo X22.here hx rfl (own_d hby d7_4) rfl (i0_ne_f rfl) ?_
    refine iconstV X22.here hx rfl (-1) (own_d hby d7_7) (by decide) ?_
    exact Steps.refl _)
  have cE := cc23
  rw [hS0'] at cE
  obtain ⟨fs, hr_, hrun, hended, hW, hsame⟩ := X22.leave (v := some (.int (-1))) (fun h => by rw [Bd.returns] at h; cases h)
  refine ⟨_, _, cE.trans (X22.ireturnOut hx Bd.returns (rfl) (by simp) (own_d hby d7_8) hr_), hrun, hended, _, _, rfl, ?_, ⟨_, rfl⟩, hW, hsame.mono (by first | decide | omega) (by first | decide | omega)⟩
  show Q_own_lix Z t n h0 n0 _ T22.heap _
  rw [e22]
  exact ⟨rfl, N22, rfl⟩
theorem d8_0 : decode jdk_29_method_65_code 0 = .ok (.iload_n 0, 1) := by decide +kernel
theorem d8_1 : decode jdk_29_method_65_code 1 = .ok (.iload_n 1, 1) := by decide +kernel
theorem d8_2 : decode jdk_29_method_65_code 2 = .ok (.if_icmp .lt 7, 3) := by decide +kernel
theorem d8_5 : decode jdk_29_method_65_code 5 = .ok (.iload_n 0, 1) := by decide +kernel
theorem d8_6 : decode jdk_29_method_65_code 6 = .ok (.goto 4, 3) := by decide +kernel
theorem d8_10 : decode jdk_29_method_65_code 10 = .ok (.ireturn, 1) := by decide +kernel
def Q_own_max (Z : State) (a b : Int32) (h0 : Heap) (n0 : Nat) (v : Option Value) (h : Heap) (L : List Loc) : Prop := v = some (.int a) ∧ Fr n0 L ∧ h = h0
set_option maxRecDepth 65536 in
set_option maxHeartbeats 40000000 in
theorem own_max (l : Launch) (Z : State) (a0 : Array Value) (hw : ∀ d ∈ tables_1, d.before a0 Z = true) (a b : Int32) (h0 : Heap) (n0 : Nat) (Z0 : n0 ≤ h0.size) (h1 : ¬ a < b) :
    MetFree l (⟨"java/lang/Math", "max", "(II)I"⟩ : MethodName) (head1 [Jvm.Cond.code (⟨"java/lang/Math", "max", "(II)I"⟩ : MethodName) jdk_29_method_65_code 2 (some .int)] ({ frames := 0, cells := 0, slots := 0, locals := 0 } : Room)) (fun a_ U_ => a_ = #[(.int a), (.int b)] ∧ Z.Warmed39 U_.vm ∧ U_.heap = h0) (fun _ _ _ _ _ => True) (fun _ U_ o_ V_ => ∃ v_ L_, o_ = .returned v_ ∧ Q_own_max Z a b h0 n0 v_ V_.heap L_ ∧ FrameEnd U_ o_ V_ L_ ({ frames := 0, cells := 0, slots := 0, locals := 0 } : Room).cells ({ frames := 0, cells := 0, slots := 0, locals := 0 } : Room).slots) := by
  refine MetFree.of_bodySF (by decide +kernel) hisR ?_
  intro p e s m args below meth c s₁ Bd hml0 hP hK
  obtain ⟨rfl, hZ, hh⟩ := hP
  have hx := Bd.exec
  have hby := Bd.bytes
  have hml : c.maxLocals = 2 := hml0
  have hown : s.vm.findClass "java/lang/Math" = some m.cls := findClass_of_methodNamed Bd.named
  have hnm := (name_of_methodNamed Bd.named Bd.method).1
  have X0 : Stand p l e ({ frames := 0, cells := 0, slots := 0, locals := 0 } : Room) s m #[(.int a), (.int b)] below meth c s₁ [] 0 0 := Stand.of_body Bd
  have e0 : s₁.heap = h0 := by rw [← hh, Bd.state]; rfl
  have N0 := Fr.nil n0
  have KK0 := Keep.refl h0 ([] : List Addr)
  have cc0 : Steps p.tables e below (s₁.setTop (entryFrame m #[(.int a), (.int b)] 2)) (s₁.setTop (mkF m 0 #[.val (.int a), .val (.int b)] [])) := XT.entry rfl
  obtain ⟨S0', hS0'⟩ : ∃ S, S = (s₁.setTop (entryFrame m #[(.int a), (.int b)] 2)) := ⟨_, rfl⟩
  rw [← hS0'] at cc0
  have cc21 : Steps p.tables e below S0' (s₁.setTop (mkF m 10 #[.val (.int a), .val (.int b)] [(.int a)])) := Steps.trans cc0 (by
    refine XS.iloadN X0.here hx rfl (own_d hby d8_0) rfl ?_
    refine XS.iloadN X0.here hx rfl (own_d hby d8_1) rfl ?_
    refine XS.icmpNo X0.here hx rfl (own_d hby d8_2) rfl (ii_lt_f h1) ?_
    refine XS.iloadN X0.here hx rfl (own_d hby d8_5) rfl ?_
    refine XS.goto X0.here hx rfl (pc0 := 6) rfl (own_d hby d8_6) (by decide) rfl ?_
    exact Steps.refl _)
  have cE := cc21
  rw [hS0'] at cE
  obtain ⟨fs, hr_, hrun, hended, hW, hsame⟩ := X0.leave (v := some (.int a)) (fun h => by rw [Bd.returns] at h; cases h)
  refine ⟨_, _, cE.trans (X0.ireturnOut hx Bd.returns (rfl) (by simp) (own_d hby d8_10) hr_), hrun, hended, _, _, rfl, ?_, ⟨_, rfl⟩, hW, hsame.mono (by first | decide | omega) (by first | decide | omega)⟩
  show Q_own_max Z a b h0 n0 _ s₁.heap _
  rw [e0]
  exact ⟨rfl, N0, rfl⟩
theorem d9_0 : decode jdk_29_method_69_code 0 = .ok (.iload_n 0, 1) := by decide +kernel
theorem d9_1 : decode jdk_29_method_69_code 1 = .ok (.iload_n 1, 1) := by decide +kernel
theorem d9_2 : decode jdk_29_method_69_code 2 = .ok (.if_icmp .gt 7, 3) := by decide +kernel
theorem d9_5 : decode jdk_29_method_69_code 5 = .ok (.iload_n 0, 1) := by decide +kernel
theorem d9_6 : decode jdk_29_method_69_code 6 = .ok (.goto 4, 3) := by decide +kernel
theorem d9_10 : decode jdk_29_method_69_code 10 = .ok (.ireturn, 1) := by decide +kernel
def Q_own_min (Z : State) (a b : Int32) (h0 : Heap) (n0 : Nat) (v : Option Value) (h : Heap) (L : List Loc) : Prop := v = some (.int a) ∧ Fr n0 L ∧ h = h0
set_option maxRecDepth 65536 in
set_option maxHeartbeats 40000000 in
theorem own_min (l : Launch) (Z : State) (a0 : Array Value) (hw : ∀ d ∈ tables_1, d.before a0 Z = true) (a b : Int32) (h0 : Heap) (n0 : Nat) (Z0 : n0 ≤ h0.size) (h1 : ¬ b < a) :
    MetFree l (⟨"java/lang/Math", "min", "(II)I"⟩ : MethodName) (head1 [Jvm.Cond.code (⟨"java/lang/Math", "min", "(II)I"⟩ : MethodName) jdk_29_method_69_code 2 (some .int)] ({ frames := 0, cells := 0, slots := 0, locals := 0 } : Room)) (fun a_ U_ => a_ = #[(.int a), (.int b)] ∧ Z.Warmed39 U_.vm ∧ U_.heap = h0) (fun _ _ _ _ _ => True) (fun _ U_ o_ V_ => ∃ v_ L_, o_ = .returned v_ ∧ Q_own_min Z a b h0 n0 v_ V_.heap L_ ∧ FrameEnd U_ o_ V_ L_ ({ frames := 0, cells := 0, slots := 0, locals := 0 } : Room).cells ({ frames := 0, cells := 0, slots := 0, locals := 0 } : Room).slots) := by
  refine MetFree.of_bodySF (by decide +kernel) hisR ?_
  intro p e s m args below meth c s₁ Bd hml0 hP hK
  obtain ⟨rfl, hZ, hh⟩ := hP
  have hx := Bd.exec
  have hby := Bd.bytes
  have hml : c.maxLocals = 2 := hml0
  have hown : s.vm.findClass "java/lang/Math" = some m.cls := findClass_of_methodNamed Bd.named
  have hnm := (name_of_methodNamed Bd.named Bd.method).1
  have X0 : Stand p l e ({ frames := 0, cells := 0, slots := 0, locals := 0 } : Room) s m #[(.int a), (.int b)] below meth c s₁ [] 0 0 := Stand.of_body Bd
  have e0 : s₁.heap = h0 := by rw [← hh, Bd.state]; rfl
  have N0 := Fr.nil n0
  have KK0 := Keep.refl h0 ([] : List Addr)
  have cc0 : Steps p.tables e below (s₁.setTop (entryFrame m #[(.int a), (.int b)] 2)) (s₁.setTop (mkF m 0 #[.val (.int a), .val (.int b)] [])) := XT.entry rfl
  obtain ⟨S0', hS0'⟩ : ∃ S, S = (s₁.setTop (entryFrame m #[(.int a), (.int b)] 2)) := ⟨_, rfl⟩
  rw [← hS0'] at cc0
  have cc21 : Steps p.tables e below S0' (s₁.setTop (mkF m 10 #[.val (.int a), .val (.int b)] [(.int a)])) := Steps.trans cc0 (by
    refine XS.iloadN X0.here hx rfl (own_d hby d9_0) rfl ?_
    refine XS.iloadN X0.here hx rfl (own_d hby d9_1) rfl ?_
    refine XS.icmpNo X0.here hx rfl (own_d hby d9_2) rfl (ii_gt_f h1) ?_
    refine XS.iloadN X0.here hx rfl (own_d hby d9_5) rfl ?_
    refine XS.goto X0.here hx rfl (pc0 := 6) rfl (own_d hby d9_6) (by decide) rfl ?_
    exact Steps.refl _)
  have cE := cc21
  rw [hS0'] at cE
  obtain ⟨fs, hr_, hrun, hended, hW, hsame⟩ := X0.leave (v := some (.int a)) (fun h => by rw [Bd.returns] at h; cases h)
  refine ⟨_, _, cE.trans (X0.ireturnOut hx Bd.returns (rfl) (by simp) (own_d hby d9_10) hr_), hrun, hended, _, _, rfl, ?_, ⟨_, rfl⟩, hW, hsame.mono (by first | decide | omega) (by first | decide | omega)⟩
  show Q_own_min Z a b h0 n0 _ s₁.heap _
  rw [e0]
  exact ⟨rfl, N0, rfl⟩
theorem d10_0 : decode jdk_52_method_48_code 0 = .ok (.iload_n 2, 1) := by decide +kernel
theorem d10_1 : decode jdk_52_method_48_code 1 = .ok (.istore 4, 2) := by decide +kernel
theorem d10_3 : decode jdk_52_method_48_code 3 = .ok (.iload 4, 2) := by decide +kernel
theorem d10_5 : decode jdk_52_method_48_code 5 = .ok (.iload_n 3, 1) := by decide +kernel
theorem d10_6 : decode jdk_52_method_48_code 6 = .ok (.if_icmp .ge 22, 3) := by decide +kernel
theorem d10_9 : decode jdk_52_method_48_code 9 = .ok (.aload_n 0, 1) := by decide +kernel
theorem d10_10 : decode jdk_52_method_48_code 10 = .ok (.iload 4, 2) := by decide +kernel
theorem d10_12 : decode jdk_52_method_48_code 12 = .ok (.invokestatic 71, 3) := by decide +kernel
theorem d10_15 : decode jdk_52_method_48_code 15 = .ok (.iload_n 1, 1) := by decide +kernel
theorem d10_16 : decode jdk_52_method_48_code 16 = .ok (.if_icmp .ne 6, 3) := by decide +kernel
theorem d10_19 : decode jdk_52_method_48_code 19 = .ok (.iload 4, 2) := by decide +kernel
theorem d10_21 : decode jdk_52_method_48_code 21 = .ok (.ireturn, 1) := by decide +kernel
theorem d10_22 : decode jdk_52_method_48_code 22 = .ok (.iinc 4 1, 3) := by decide +kernel
theorem d10_25 : decode jdk_52_method_48_code 25 = .ok (.goto (-22), 3) := by decide +kernel
theorem d10_28 : decode jdk_52_method_48_code 28 = .ok (.iconst (-1), 1) := by decide +kernel
theorem d10_29 : decode jdk_52_method_48_code 29 = .ok (.ireturn, 1) := by decide +kernel
def Q_own_ixu (Z : State) (t : Addr) (kb : ClassId) (cs : List Int32) (h0 : Heap) (n0 : Nat) (v : Option Value) (h : Heap) (L : List Loc) : Prop := ∃ r : Int32, v = some (.int r) ∧ Fr n0 L ∧ h = h0 ∧ (r < 0 ∧ (65533 : Int32) ∉ cs ∨ ¬ r < 0 ∧ (65533 : Int32) ∈ cs)
set_option maxRecDepth 65536 in
set_option maxHeartbeats 40000000 in
theorem own_ixu (l : Launch) (Z : State) (a0 : Array Value) (hw : ∀ d ∈ tables_1, d.before a0 Z = true) (t : Addr) (kb : ClassId) (cs : List Int32) (h0 : Heap) (n0 : Nat) (Z0 : n0 ≤ h0.size) (X00 : Old Z n0 h0) (O3 : StrChars.Road.U3Z Z Z.heap) (A : Arv Z h0 t kb .byte (Int32.ofNat (2 * cs.length)) (StrChars.Road.wideBytes cs) (.int (0 : Int32))) (hl : cs.length ≤ 4000) (hp : ∀ c ∈ cs, ¬ c < 0 ∧ ¬ (65535 : Int32) < c) :
    MetFree l (⟨"java/lang/StringUTF16", "indexOfCharUnsafe", "([BIII)I"⟩ : MethodName) (head1 [Jvm.Cond.code (⟨"java/lang/StringUTF16", "indexOfCharUnsafe", "([BIII)I"⟩ : MethodName) jdk_52_method_48_code 5 (some .int)] ({ frames := 1, cells := 0, slots := 0, locals := 13 } : Room)) (fun a_ U_ => a_ = #[(.ref t), (.int (65533 : Int32)), (.int 0), (.int (Int32.ofNat cs.length))] ∧ Z.Warmed39 U_.vm ∧ U_.heap = h0) (fun _ _ _ _ _ => True) (fun _ U_ o_ V_ => ∃ v_ L_, o_ = .returned v_ ∧ Q_own_ixu Z t kb cs h0 n0 v_ V_.heap L_ ∧ FrameEnd U_ o_ V_ L_ ({ frames := 1, cells := 0, slots := 0, locals := 13 } : Room).cells ({ frames := 1, cells := 0, slots := 0, locals := 13 } : Room).slots) := by
  refine MetFree.of_bodySF (plainFor_of_name own_pn2) hisR ?_
  intro p e s m args below meth c s₁ Bd hml0 hP hK
  obtain ⟨rfl, hZ, hh⟩ := hP
  have hx := Bd.exec
  have hby := Bd.bytes
  have hml : c.maxLocals = 5 := hml0
  have hown : s.vm.findClass "java/lang/StringUTF16" = some m.cls := findClass_of_methodNamed Bd.named
  have hnm := (name_of_methodNamed Bd.named Bd.method).1
  have X0 : Stand p l e ({ frames := 1, cells := 0, slots := 0, locals := 13 } : Room) s m #[(.ref t), (.int (65533 : Int32)), (.int 0), (.int (Int32.ofNat cs.length))] below meth c s₁ [] 0 0 := Stand.of_body Bd
  have e0 : s₁.heap = h0 := by rw [← hh, Bd.state]; rfl
  have N0 := Fr.nil n0
  have KK0 := Keep.refl h0 ([] : List Addr)
  have cc0 : Steps p.tables e below (s₁.setTop (entryFrame m #[(.ref t), (.int (65533 : Int32)), (.int 0), (.int (Int32.ofNat cs.length))] 5)) (s₁.setTop (mkF m 0 #[.val (.ref t), .val (.int (65533 : Int32)), .val (.int 0), .val (.int (Int32.ofNat cs.length)), .unset] [])) := XT.entry rfl
  obtain ⟨S0', hS0'⟩ : ∃ S, S = (s₁.setTop (entryFrame m #[(.ref t), (.int (65533 : Int32)), (.int 0), (.int (Int32.ofNat cs.length))] 5)) := ⟨_, rfl⟩
  rw [← hS0'] at cc0
  have w_67 := hw _ (List.mem_of_getElem? (i := 67) rfl)
  have w_90 := hw _ (List.mem_of_getElem? (i := 90) rfl)
  have cc21 : Steps p.tables e below S0' (s₁.setTop (mkF m 3 #[.val (.ref t), .val (.int (65533 : Int32)), .val (.int 0), .val (.int (Int32.ofNat cs.length)), .val (.int 0)] [])) := Steps.trans cc0 (by
    refine XS.iloadN X0.here hx rfl (own_d hby d10_0) rfl ?_
    refine XS.istore X0.here hx rfl (own_d hby d10_1) rfl rfl ?_
    exact Steps.refl _)
  have loop : ∀ (r i : Nat), i + r = cs.length → (∀ j, j < i → cs.getD j 0 ≠ 65533) → ∀ (Tl : State) (Ll : List Loc), Stand p l e ({ frames := 1, cells := 0, slots := 0, locals := 13 } : Room) s m #[(.ref t), (.int (65533 : Int32)), (.int 0), (.int (Int32.ofNat cs.length))] below meth c Tl Ll 0 0 → Tl.heap = h0 → Fr n0 Ll → Steps p.tables e below S0' (Tl.setTop (mkF m 3 #[.val (.ref t), .val (.int (65533 : Int32)), .val (.int 0), .val (.int (Int32.ofNat cs.length)), .val (.int (Int32.ofNat i))] [])) → ∃ s₂ o, Steps p.tables e below (s₁.setTop (entryFrame m #[(.ref t), (.int (65533 : Int32)), (.int 0), (.int (Int32.ofNat cs.length))] 5)) s₂ ∧ s₂.status = .running ∧ Ended s₂ below o ∧ ∃ v L, o = .returned v ∧ Q_own_ixu Z t kb cs h0 n0 v s₂.heap L ∧ FrameEnd s o s₂ L ({ frames := 1, cells := 0, slots := 0, locals := 13 } : Room).cells ({ frames := 1, cells := 0, slots := 0, locals := 13 } : Room).slots := by
    intro r
    induction r with
    | zero =>
      intro i hi hno Tl Ll Xl el Nl cl
      have hil : i = cs.length := by omega
      have hnm' : (65533 : Int32) ∉ cs := fun hm => by
        obtain ⟨j, hj, e⟩ := List.getElem_of_mem hm
        exact hno j (by omega) (by rw [List.getD_eq_getElem?_getD, List.getElem?_eq_getElem hj]; exact e)
      have cc22 : Steps p.tables e below S0' (Tl.setTop (mkF m 29 #[.val (.ref t), .val (.int (65533 : Int32)), .val (.int 0), .val (.int (Int32.ofNat cs.length)), .val (.int (Int32.ofNat i))] [(.int (-1))])) := Steps.trans cl (by
        refine XS.iload Xl.here hx rfl (own_d hby d10_3) rfl ?_
        refine XS.iloadN Xl.here hx rfl (own_d hby d10_5) rfl ?_
        refine XS.icmpYes Xl.here hx rfl (pc0 := 6) rfl (own_d hby d10_6) rfl (ii_ge_t (nlt32 (by omega) (by omega))) (by decide) rfl ?_
        refine iconstV Xl.here hx rfl (-1) (own_d hby d10_28) (by decide) ?_
        exact Steps.refl _)
      have cE := cc22
      rw [hS0'] at cE
      obtain ⟨fs, hr_, hrun, hended, hW, hsame⟩ := Xl.leave (v := some (.int (-1))) (fun h => by rw [Bd.returns] at h; cases h)
      refine ⟨_, _, cE.trans (Xl.ireturnOut hx Bd.returns (rfl) (by simp) (own_d hby d10_29) hr_), hrun, hended, _, _, rfl, ?_, ⟨_, rfl⟩, hW, hsame.mono (by first | decide | omega) (by first | decide | omega)⟩
      show Q_own_ixu Z t kb cs h0 n0 _ Tl.heap _
      rw [el]
      exact ⟨-1, rfl, Nl, rfl, Or.inl ⟨by decide, hnm'⟩⟩
    | succ r ih =>
      intro i hi hno Tl Ll Xl el Nl cl
      have hic : i < cs.length := by omega
      have hc : cs.getD i 0 ∈ cs := by rw [List.getD_eq_getElem?_getD, List.getElem?_eq_getElem hic]; exact List.getElem_mem _
      have cc22 : Steps p.tables e below S0' (Tl.setTop (mkF m 12 #[.val (.ref t), .val (.int (65533 : Int32)), .val (.int 0), .val (.int (Int32.ofNat cs.length)), .val (.int (Int32.ofNat i))] [(.int (Int32.ofNat i)), (.ref t)])) := Steps.trans cl (by
        refine XS.iload Xl.here hx rfl (own_d hby d10_3) rfl ?_
        refine XS.iloadN Xl.here hx rfl (own_d hby d10_5) rfl ?_
        refine XS.icmpNo Xl.here hx rfl (own_d hby d10_6) rfl (ii_ge_f (lt32 (by omega) (by omega))) ?_
        refine XS.aloadN Xl.here hx rfl (own_d hby d10_9) rfl rfl ?_
        refine XS.iload Xl.here hx rfl (own_d hby d10_10) rfl ?_
        exact Steps.refl _)
      obtain ⟨_, _, ⟨T23, L23, k23, n23⟩, -, X23, ⟨Lc23, hQ23, l23, y23, z23⟩, st23⟩ := Jvm.LawKit.callS Xl hx (y := (⟨"java/lang/StringUTF16", "getChar", "([BI)C"⟩ : MethodName)) hown (mvT hZ (hw _ (List.mem_of_getElem? (i := 88) rfl))) (mvT hZ (hw _ (List.mem_of_getElem? (i := 89) rfl))) (mvT hZ w_67) (mvT hZ w_90) (by decide) (backOf (W := 0) (own_getc l Z a0 hw t kb cs i h0 n0 Z0 X00 O3 A hic hl hp) hZ w_90 w_67 (by decide) (by decide)) (g := (mkF m 12 #[.val (.ref t), .val (.int (65533 : Int32)), .val (.int 0), .val (.int (Int32.ofNat cs.length)), .val (.int (Int32.ofNat i))] [(.int (Int32.ofNat i)), (.ref t)])) rfl (by rw [hml]; rfl) (argsL := [(.ref t), (.int (Int32.ofNat i))]) (rest := []) (lenOf own_pd3 rfl) rfl (by show 2 * 0 + _ ≤ _; exact Nat.le_of_eq rfl) (own_d hby d10_12) (fun _ _ => ⟨rfl, el, Nat.le_of_ble_eq_true rfl, Nat.le_of_ble_eq_true rfl⟩)
      dsimp only [Pt.U, Pt.locs, Pt.cells, Pt.slots] at X23 l23 y23 z23 st23 hQ23
      subst l23 y23 z23
      obtain ⟨rfl, Nq23, eq23⟩ := hQ23
      have N23 := Fr.app Nl Nq23
      have e23 : T23.heap = h0 := eq23
      have cc24 : Steps p.tables e below S0' (T23.setTop (mkF m 16 #[.val (.ref t), .val (.int (65533 : Int32)), .val (.int 0), .val (.int (Int32.ofNat cs.length)), .val (.int (Int32.ofNat i))] [(.int (65533 : Int32)), (.int (cs.getD i 0))])) := Steps.trans (cc22.trans (st23 _ (Steps.refl _))) (by
        refine XS.iloadN X23.here hx rfl (own_d hby d10_15) rfl ?_
        exact Steps.refl _)
      by_cases hq : cs.getD i 0 = 65533
      · skip
        have cc25 : Steps p.tables e below S0' (T23.setTop (mkF m 21 #[.val (.ref t), .val (.int (65533 : Int32)), .val (.int 0), .val (.int (Int32.ofNat cs.length)), .val (.int (Int32.ofNat i))] [(.int (Int32.ofNat i))])) := Steps.trans cc24 (by
          refine XS.icmpNo X23.here hx rfl (own_d hby d10_16) rfl (ii_ne_f hq) ?_
          refine XS.iload X23.here hx rfl (own_d hby d10_19) rfl ?_
          exact Steps.refl _)
        have cE := cc25
        rw [hS0'] at cE
        obtain ⟨fs, hr_, hrun, hended, hW, hsame⟩ := X23.leave (v := some (.int (Int32.ofNat i))) (fun h => by rw [Bd.returns] at h; cases h)
        refine ⟨_, _, cE.trans (X23.ireturnOut hx Bd.returns (rfl) (by simp) (own_d hby d10_21) hr_), hrun, hended, _, _, rfl, ?_, ⟨_, rfl⟩, hW, hsame.mono (by first | decide | omega) (by first | decide | omega)⟩
        show Q_own_ixu Z t kb cs h0 n0 _ T23.heap _
        rw [e23]
        exact ⟨Int32.ofNat i, rfl, N23, rfl, Or.inr ⟨Int32.ofNat_not_neg (by omega), hq ▸ hc⟩⟩
      · skip
        have cc25 : Steps p.tables e below S0' (T23.setTop (mkF m 3 #[.val (.ref t), .val (.int (65533 : Int32)), .val (.int 0), .val (.int (Int32.ofNat cs.length)), .val (.int ((Int32.ofNat i) + 1))] [])) := Steps.trans cc24 (by
          refine XS.icmpYes X23.here hx rfl (pc0 := 16) rfl (own_d hby d10_16) rfl (ii_ne_t hq) (by decide) rfl ?_
          refine iincV X23.here hx rfl 1 (own_d hby d10_22) (by decide) rfl rfl ?_
          refine XS.goto X23.here hx rfl (pc0 := 25) rfl (own_d hby d10_25) (by decide) rfl ?_
          exact Steps.refl _)
        have cn : Steps p.tables e below S0' (T23.setTop (mkF m 3 #[.val (.ref t), .val (.int (65533 : Int32)), .val (.int 0), .val (.int (Int32.ofNat cs.length)), .val (.int (Int32.ofNat (i + 1)))] [])) := by
          have := cc25
          rw [succ32] at this
          exact this
        exact ih (i + 1) (by omega) (fun j hj => by
          by_cases e : j = i
          · subst e; exact hq
          · exact hno j (by omega)) T23 _ X23 e23 N23 cn
  exact loop cs.length 0 (by omega) (fun j hj => absurd hj (Nat.not_lt_zero j)) s₁ _ X0 e0 N0 cc21
theorem d11_0 : decode jdk_52_method_6_code 0 = .ok (.aload_n 0, 1) := by decide +kernel
theorem d11_1 : decode jdk_52_method_6_code 1 = .ok (.arraylength, 1) := by decide +kernel
theorem d11_2 : decode jdk_52_method_6_code 2 = .ok (.iconst 1, 1) := by decide +kernel
theorem d11_3 : decode jdk_52_method_6_code 3 = .ok (.ishr, 1) := by decide +kernel
theorem d11_4 : decode jdk_52_method_6_code 4 = .ok (.ireturn, 1) := by decide +kernel
def Q_own_l16 (Z : State) (t : Addr) (kb : ClassId) (cs : List Int32) (h0 : Heap) (n0 : Nat) (v : Option Value) (h : Heap) (L : List Loc) : Prop := v = some (.int (Int32.ofNat cs.length)) ∧ Fr n0 L ∧ h = h0
set_option maxRecDepth 65536 in
set_option maxHeartbeats 40000000 in
theorem own_l16 (l : Launch) (Z : State) (a0 : Array Value) (hw : ∀ d ∈ tables_1, d.before a0 Z = true) (t : Addr) (kb : ClassId) (cs : List Int32) (h0 : Heap) (n0 : Nat) (Z0 : n0 ≤ h0.size) (A : Arv Z h0 t kb .byte (Int32.ofNat (2 * cs.length)) (StrChars.Road.wideBytes cs) (.int (0 : Int32))) (hl : cs.length ≤ 4000) :
    MetFree l (⟨"java/lang/StringUTF16", "length", "([B)I"⟩ : MethodName) (head1 [Jvm.Cond.code (⟨"java/lang/StringUTF16", "length", "([B)I"⟩ : MethodName) jdk_52_method_6_code 1 (some .int)] ({ frames := 0, cells := 0, slots := 0, locals := 0 } : Room)) (fun a_ U_ => a_ = #[(.ref t)] ∧ Z.Warmed39 U_.vm ∧ U_.heap = h0) (fun _ _ _ _ _ => True) (fun _ U_ o_ V_ => ∃ v_ L_, o_ = .returned v_ ∧ Q_own_l16 Z t kb cs h0 n0 v_ V_.heap L_ ∧ FrameEnd U_ o_ V_ L_ ({ frames := 0, cells := 0, slots := 0, locals := 0 } : Room).cells ({ frames := 0, cells := 0, slots := 0, locals := 0 } : Room).slots) := by
  refine MetFree.of_bodySF (plainFor_of_name own_pn2) hisR ?_
  intro p e s m args below meth c s₁ Bd hml0 hP hK
  obtain ⟨rfl, hZ, hh⟩ := hP
  have hx := Bd.exec
  have hby := Bd.bytes
  have hml : c.maxLocals = 1 := hml0
  have hown : s.vm.findClass "java/lang/StringUTF16" = some m.cls := findClass_of_methodNamed Bd.named
  have hnm := (name_of_methodNamed Bd.named Bd.method).1
  have X0 : Stand p l e ({ frames := 0, cells := 0, slots := 0, locals := 0 } : Room) s m #[(.ref t)] below meth c s₁ [] 0 0 := Stand.of_body Bd
  have e0 : s₁.heap = h0 := by rw [← hh, Bd.state]; rfl
  have N0 := Fr.nil n0
  have KK0 := Keep.refl h0 ([] : List Addr)
  have cc0 : Steps p.tables e below (s₁.setTop (entryFrame m #[(.ref t)] 1)) (s₁.setTop (mkF m 0 #[.val (.ref t)] [])) := XT.entry rfl
  obtain ⟨S0', hS0'⟩ : ∃ S, S = (s₁.setTop (entryFrame m #[(.ref t)] 1)) := ⟨_, rfl⟩
  rw [← hS0'] at cc0
  have cc21 : Steps p.tables e below S0' (s₁.setTop (mkF m 1 #[.val (.ref t)] [(.ref t)])) := Steps.trans cc0 (by
    refine XS.aloadN X0.here hx rfl (own_d hby d11_0) rfl rfl ?_
    exact Steps.refl _)
  obtain ⟨clu22, Aru22, -, Su22, Ngu22, -, -⟩ := id A
  have cl_u22 := X0.arraylength hx (by rw [e0]; exact Aru22.1) (State.isArrayOf_alike (hZ).alike Aru22.2.1) (g := (mkF m 1 #[.val (.ref t)] [(.ref t)])) rfl rfl (own_d hby d11_1) _ (Steps.refl _)
  rw [len_of Su22 Ngu22] at cl_u22
  have cc23 : Steps p.tables e below S0' (s₁.setTop (mkF m 4 #[.val (.ref t)] [(.int ((Int32.ofNat (2 * cs.length)) >>> ((1 : Int32) &&& 31)))])) := Steps.trans (Steps.trans cc21 cl_u22) (by
    refine iconstV X0.here hx rfl 1 (own_d hby d11_2) (by decide) ?_
    refine XT.ishr X0.here hx rfl (own_d hby d11_3) rfl ?_
    exact Steps.refl _)
  rw [StrChars.shr1 (by omega)] at cc23
  have cE := cc23
  rw [hS0'] at cE
  obtain ⟨fs, hr_, hrun, hended, hW, hsame⟩ := X0.leave (v := some (.int (Int32.ofNat cs.length))) (fun h => by rw [Bd.returns] at h; cases h)
  refine ⟨_, _, cE.trans (X0.ireturnOut hx Bd.returns (rfl) (by simp) (own_d hby d11_4) hr_), hrun, hended, _, _, rfl, ?_, ⟨_, rfl⟩, hW, hsame.mono (by first | decide | omega) (by first | decide | omega)⟩
  show Q_own_l16 Z t kb cs h0 n0 _ s₁.heap _
  rw [e0]
  exact ⟨rfl, N0, rfl⟩
theorem d12_0 : decode jdk_52_method_93_code 0 = .ok (.iload_n 0, 1) := by decide +kernel
theorem d12_1 : decode jdk_52_method_93_code 1 = .ok (.iload_n 1, 1) := by decide +kernel
theorem d12_2 : decode jdk_52_method_93_code 2 = .ok (.aload_n 2, 1) := by decide +kernel
theorem d12_3 : decode jdk_52_method_93_code 3 = .ok (.invokestatic 48, 3) := by decide +kernel
theorem d12_6 : decode jdk_52_method_93_code 6 = .ok (.invokestatic 241, 3) := by decide +kernel
theorem d12_9 : decode jdk_52_method_93_code 9 = .ok (.return_, 1) := by decide +kernel
def Q_own_cb16 (Z : State) (t : Addr) (kb : ClassId) (cs : List Int32) (f : Value) (h0 : Heap) (n0 : Nat) (v : Option Value) (h : Heap) (L : List Loc) : Prop := v = none ∧ Fr n0 L ∧ h = h0
set_option maxRecDepth 65536 in
set_option maxHeartbeats 40000000 in
theorem own_cb16 (l : Launch) (Z : State) (a0 : Array Value) (hw : ∀ d ∈ tables_1, d.before a0 Z = true) (t : Addr) (kb : ClassId) (cs : List Int32) (f : Value) (h0 : Heap) (n0 : Nat) (Z0 : n0 ≤ h0.size) (X00 : Old Z n0 h0) (A : Arv Z h0 t kb .byte (Int32.ofNat (2 * cs.length)) (StrChars.Road.wideBytes cs) (.int (0 : Int32))) (hl : cs.length ≤ 4000) (O4 : Sta Z Z.heap "jdk/internal/util/Preconditions" "SIOOBE_FORMATTER" "Ljava/util/function/BiFunction;" f) (hf : f.isRef = true) :
    MetFree l (⟨"java/lang/StringUTF16", "checkBoundsBeginEnd", "(II[B)V"⟩ : MethodName) (head1 [Jvm.Cond.code (⟨"java/lang/StringUTF16", "checkBoundsBeginEnd", "(II[B)V"⟩ : MethodName) jdk_52_method_93_code 3 none] ({ frames := 2, cells := 0, slots := 0, locals := 30 } : Room)) (fun a_ U_ => a_ = #[(.int 0), (.int (Int32.ofNat cs.length)), (.ref t)] ∧ Z.Warmed39 U_.vm ∧ U_.heap = h0) (fun _ _ _ _ _ => True) (fun _ U_ o_ V_ => ∃ v_ L_, o_ = .returned v_ ∧ Q_own_cb16 Z t kb cs f h0 n0 v_ V_.heap L_ ∧ FrameEnd U_ o_ V_ L_ ({ frames := 2, cells := 0, slots := 0, locals := 30 } : Room).cells ({ frames := 2, cells := 0, slots := 0, locals := 30 } : Room).slots) := by
  refine MetFree.of_bodySF (plainFor_of_name own_pn2) hisR ?_
  intro p e s m args below meth c s₁ Bd hml0 hP hK
  obtain ⟨rfl, hZ, hh⟩ := hP
  have hx := Bd.exec
  have hby := Bd.bytes
  have hml : c.maxLocals = 3 := hml0
  have hown : s.vm.findClass "java/lang/StringUTF16" = some m.cls := findClass_of_methodNamed Bd.named
  have hnm := (name_of_methodNamed Bd.named Bd.method).1
  have X0 : Stand p l e ({ frames := 2, cells := 0, slots := 0, locals := 30 } : Room) s m #[(.int 0), (.int (Int32.ofNat cs.length)), (.ref t)] below meth c s₁ [] 0 0 := Stand.of_body Bd
  have e0 : s₁.heap = h0 := by rw [← hh, Bd.state]; rfl
  have N0 := Fr.nil n0
  have KK0 := Keep.refl h0 ([] : List Addr)
  have cc0 : Steps p.tables e below (s₁.setTop (entryFrame m #[(.int 0), (.int (Int32.ofNat cs.length)), (.ref t)] 3)) (s₁.setTop (mkF m 0 #[.val (.int 0), .val (.int (Int32.ofNat cs.length)), .val (.ref t)] [])) := XT.entry rfl
  obtain ⟨S0', hS0'⟩ : ∃ S, S = (s₁.setTop (entryFrame m #[(.int 0), (.int (Int32.ofNat cs.length)), (.ref t)] 3)) := ⟨_, rfl⟩
  rw [← hS0'] at cc0
  have w_6 := hw _ (List.mem_of_getElem? (i := 6) rfl)
  have w_67 := hw _ (List.mem_of_getElem? (i := 67) rfl)
  have w_113 := hw _ (List.mem_of_getElem? (i := 113) rfl)
  have w_116 := hw _ (List.mem_of_getElem? (i := 116) rfl)
  have cc21 : Steps p.tables e below S0' (s₁.setTop (mkF m 3 #[.val (.int 0), .val (.int (Int32.ofNat cs.length)), .val (.ref t)] [(.ref t), (.int (Int32.ofNat cs.length)), (.int 0)])) := Steps.trans cc0 (by
    refine XS.iloadN X0.here hx rfl (own_d hby d12_0) rfl ?_
    refine XS.iloadN X0.here hx rfl (own_d hby d12_1) rfl ?_
    refine XS.aloadN X0.here hx rfl (own_d hby d12_2) rfl rfl ?_
    exact Steps.refl _)
  obtain ⟨_, _, ⟨T22, L22, k22, n22⟩, -, X22, ⟨Lc22, hQ22, l22, y22, z22⟩, st22⟩ := Jvm.LawKit.callS X0 hx (y := (⟨"java/lang/StringUTF16", "length", "([B)I"⟩ : MethodName)) hown (mvT hZ (hw _ (List.mem_of_getElem? (i := 111) rfl))) (mvT hZ (hw _ (List.mem_of_getElem? (i := 112) rfl))) (mvT hZ w_67) (mvT hZ w_113) (by decide) (backOf (W := 2) (own_l16 l Z a0 hw t kb cs h0 n0 Z0 A hl) hZ w_113 w_67 (by decide) (by decide)) (g := (mkF m 3 #[.val (.int 0), .val (.int (Int32.ofNat cs.length)), .val (.ref t)] [(.ref t), (.int (Int32.ofNat cs.length)), (.int 0)])) rfl (by rw [hml]; rfl) (argsL := [(.ref t)]) (rest := [(.int (Int32.ofNat cs.length)), (.int 0)]) (lenOf own_pd4 rfl) rfl (by show 2 * 0 + _ ≤ _; exact Nat.le_of_eq rfl) (own_d hby d12_3) (fun _ _ => ⟨rfl, e0, Nat.le_of_ble_eq_true rfl, Nat.le_of_ble_eq_true rfl⟩)
  dsimp only [Pt.U, Pt.locs, Pt.cells, Pt.slots] at X22 l22 y22 z22 st22 hQ22
  subst l22 y22 z22
  obtain ⟨rfl, Nq22, eq22⟩ := hQ22
  have N22 := Fr.app N0 Nq22
  have e22 : T22.heap = h0 := eq22
  have cc23 : Steps p.tables e below S0' (T22.setTop (mkF m 6 #[.val (.int 0), .val (.int (Int32.ofNat cs.length)), .val (.ref t)] [(.int (Int32.ofNat cs.length)), (.int (Int32.ofNat cs.length)), (.int 0)])) := (cc21.trans (st22 _ (Steps.refl _)))
  obtain ⟨_, _, ⟨T24, L24, k24, n24⟩, -, X24, ⟨Lc24, hQ24, l24, y24, z24⟩, st24⟩ := Jvm.LawKit.callS X22 hx (y := (⟨"java/lang/String", "checkBoundsBeginEnd", "(III)V"⟩ : MethodName)) hown (mvT hZ (hw _ (List.mem_of_getElem? (i := 114) rfl))) (mvT hZ (hw _ (List.mem_of_getElem? (i := 115) rfl))) (mvT hZ w_6) (mvT hZ w_116) (by decide) (backOf (W := 0) (own_cbe l Z a0 hw 0 (Int32.ofNat cs.length) (Int32.ofNat cs.length) f h0 n0 Z0 X00 (by decide) (Int32.ofNat_not_neg (by omega)) (nlt32 (by omega) (Nat.le_refl _)) O4 hf) hZ w_116 w_6 (by decide) (by decide)) (g := (mkF m 6 #[.val (.int 0), .val (.int (Int32.ofNat cs.length)), .val (.ref t)] [(.int (Int32.ofNat cs.length)), (.int (Int32.ofNat cs.length)), (.int 0)])) rfl (by rw [hml]; rfl) (argsL := [(.int 0), (.int (Int32.ofNat cs.length)), (.int (Int32.ofNat cs.length))]) (rest := []) (lenOf own_pd5 rfl) rfl (by show 2 * 0 + _ ≤ _; exact Nat.le_of_eq rfl) (own_d hby d12_6) (fun _ _ => ⟨rfl, e22, Nat.le_of_ble_eq_true rfl, Nat.le_of_ble_eq_true rfl⟩)
  dsimp only [Pt.U, Pt.locs, Pt.cells, Pt.slots] at X24 l24 y24 z24 st24 hQ24
  subst l24 y24 z24
  obtain ⟨rfl, Nq24, eq24⟩ := hQ24
  have N24 := Fr.app N22 Nq24
  have e24 : T24.heap = h0 := eq24
  have cc25 : Steps p.tables e below S0' (T24.setTop (mkF m 9 #[.val (.int 0), .val (.int (Int32.ofNat cs.length)), .val (.ref t)] [])) := (cc23.trans (st24 _ (Steps.refl _)))
  have cE := cc25
  rw [hS0'] at cE
  obtain ⟨fs, hr_, hrun, hended, hW, hsame⟩ := X24.leave (v := none) (fun _ => rfl)
  refine ⟨_, _, cE.trans (X24.returnOut hx Bd.returns (own_d hby d12_9) hr_), hrun, hended, _, _, rfl, ?_, ⟨_, rfl⟩, hW, hsame.mono (by first | decide | omega) (by first | decide | omega)⟩
  show Q_own_cb16 Z t kb cs f h0 n0 _ T24.heap _
  rw [e24]
  exact ⟨rfl, N24, rfl⟩
theorem d13_0 : decode jdk_52_method_47_code 0 = .ok (.iload_n 2, 1) := by decide +kernel
theorem d13_1 : decode jdk_52_method_47_code 1 = .ok (.iload_n 3, 1) := by decide +kernel
theorem d13_2 : decode jdk_52_method_47_code 2 = .ok (.aload_n 0, 1) := by decide +kernel
theorem d13_3 : decode jdk_52_method_47_code 3 = .ok (.invokestatic 96, 3) := by decide +kernel
theorem d13_6 : decode jdk_52_method_47_code 6 = .ok (.aload_n 0, 1) := by decide +kernel
theorem d13_7 : decode jdk_52_method_47_code 7 = .ok (.iload_n 1, 1) := by decide +kernel
theorem d13_8 : decode jdk_52_method_47_code 8 = .ok (.iload_n 2, 1) := by decide +kernel
theorem d13_9 : decode jdk_52_method_47_code 9 = .ok (.iload_n 3, 1) := by decide +kernel
theorem d13_10 : decode jdk_52_method_47_code 10 = .ok (.invokestatic 244, 3) := by decide +kernel
theorem d13_13 : decode jdk_52_method_47_code 13 = .ok (.ireturn, 1) := by decide +kernel
def Q_own_ixc (Z : State) (t : Addr) (kb : ClassId) (cs : List Int32) (f : Value) (h0 : Heap) (n0 : Nat) (v : Option Value) (h : Heap) (L : List Loc) : Prop := ∃ r : Int32, v = some (.int r) ∧ Fr n0 L ∧ h = h0 ∧ (r < 0 ∧ (65533 : Int32) ∉ cs ∨ ¬ r < 0 ∧ (65533 : Int32) ∈ cs)
set_option maxRecDepth 65536 in
set_option maxHeartbeats 40000000 in
theorem own_ixc (l : Launch) (Z : State) (a0 : Array Value) (hw : ∀ d ∈ tables_1, d.before a0 Z = true) (t : Addr) (kb : ClassId) (cs : List Int32) (f : Value) (h0 : Heap) (n0 : Nat) (Z0 : n0 ≤ h0.size) (X00 : Old Z n0 h0) (O3 : StrChars.Road.U3Z Z Z.heap) (A : Arv Z h0 t kb .byte (Int32.ofNat (2 * cs.length)) (StrChars.Road.wideBytes cs) (.int (0 : Int32))) (hl : cs.length ≤ 4000) (hp : ∀ c ∈ cs, ¬ c < 0 ∧ ¬ (65535 : Int32) < c) (O4 : Sta Z Z.heap "jdk/internal/util/Preconditions" "SIOOBE_FORMATTER" "Ljava/util/function/BiFunction;" f) (hf : f.isRef = true) :
    MetFree l (⟨"java/lang/StringUTF16", "indexOfChar", "([BIII)I"⟩ : MethodName) (head1 [Jvm.Cond.code (⟨"java/lang/StringUTF16", "indexOfChar", "([BIII)I"⟩ : MethodName) jdk_52_method_47_code 4 (some .int)] ({ frames := 3, cells := 0, slots := 0, locals := 44 } : Room)) (fun a_ U_ => a_ = #[(.ref t), (.int (65533 : Int32)), (.int 0), (.int (Int32.ofNat cs.length))] ∧ Z.Warmed39 U_.vm ∧ U_.heap = h0) (fun _ _ _ _ _ => True) (fun _ U_ o_ V_ => ∃ v_ L_, o_ = .returned v_ ∧ Q_own_ixc Z t kb cs f h0 n0 v_ V_.heap L_ ∧ FrameEnd U_ o_ V_ L_ ({ frames := 3, cells := 0, slots := 0, locals := 44 } : Room).cells ({ frames := 3, cells := 0, slots := 0, locals := 44 } : Room).slots) := by
  refine MetFree.of_bodySF (plainFor_of_name own_pn2) hisR ?_
  intro p e s m args below meth c s₁ Bd hml0 hP hK
  obtain ⟨rfl, hZ, hh⟩ := hP
  have hx := Bd.exec
  have hby := Bd.bytes
  have hml : c.maxLocals = 4 := hml0
  have hown : s.vm.findClass "java/lang/StringUTF16" = some m.cls := findClass_of_methodNamed Bd.named
  have hnm := (name_of_methodNamed Bd.named Bd.method).1
  have X0 : Stand p l e ({ frames := 3, cells := 0, slots := 0, locals := 44 } : Room) s m #[(.ref t), (.int (65533 : Int32)), (.int 0), (.int (Int32.ofNat cs.length))] below meth c s₁ [] 0 0 := Stand.of_body Bd
  have e0 : s₁.heap = h0 := by rw [← hh, Bd.state]; rfl
  have N0 := Fr.nil n0
  have KK0 := Keep.refl h0 ([] : List Addr)
  have cc0 : Steps p.tables e below (s₁.setTop (entryFrame m #[(.ref t), (.int (65533 : Int32)), (.int 0), (.int (Int32.ofNat cs.length))] 4)) (s₁.setTop (mkF m 0 #[.val (.ref t), .val (.int (65533 : Int32)), .val (.int 0), .val (.int (Int32.ofNat cs.length))] [])) := XT.entry rfl
  obtain ⟨S0', hS0'⟩ : ∃ S, S = (s₁.setTop (entryFrame m #[(.ref t), (.int (65533 : Int32)), (.int 0), (.int (Int32.ofNat cs.length))] 4)) := ⟨_, rfl⟩
  rw [← hS0'] at cc0
  have w_67 := hw _ (List.mem_of_getElem? (i := 67) rfl)
  have w_110 := hw _ (List.mem_of_getElem? (i := 110) rfl)
  have w_124 := hw _ (List.mem_of_getElem? (i := 124) rfl)
  have cc21 : Steps p.tables e below S0' (s₁.setTop (mkF m 3 #[.val (.ref t), .val (.int (65533 : Int32)), .val (.int 0), .val (.int (Int32.ofNat cs.length))] [(.ref t), (.int (Int32.ofNat cs.length)), (.int 0)])) := Steps.trans cc0 (by
    refine XS.iloadN X0.here hx rfl (own_d hby d13_0) rfl ?_
    refine XS.iloadN X0.here hx rfl (own_d hby d13_1) rfl ?_
    refine XS.aloadN X0.here hx rfl (own_d hby d13_2) rfl rfl ?_
    exact Steps.refl _)
  obtain ⟨_, _, ⟨T22, L22, k22, n22⟩, -, X22, ⟨Lc22, hQ22, l22, y22, z22⟩, st22⟩ := Jvm.LawKit.callS X0 hx (y := (⟨"java/lang/StringUTF16", "checkBoundsBeginEnd", "(II[B)V"⟩ : MethodName)) hown (mvT hZ (hw _ (List.mem_of_getElem? (i := 108) rfl))) (mvT hZ (hw _ (List.mem_of_getElem? (i := 109) rfl))) (mvT hZ w_67) (mvT hZ w_110) (by decide) (backOf (W := 0) (own_cb16 l Z a0 hw t kb cs f h0 n0 Z0 X00 A hl O4 hf) hZ w_110 w_67 (by decide) (by decide)) (g := (mkF m 3 #[.val (.ref t), .val (.int (65533 : Int32)), .val (.int 0), .val (.int (Int32.ofNat cs.length))] [(.ref t), (.int (Int32.ofNat cs.length)), (.int 0)])) rfl (by rw [hml]; rfl) (argsL := [(.int 0), (.int (Int32.ofNat cs.length)), (.ref t)]) (rest := []) (lenOf own_pd6 rfl) rfl (by show 2 * 0 + _ ≤ _; exact Nat.le_of_eq rfl) (own_d hby d13_3) (fun _ _ => ⟨rfl, e0, Nat.le_of_ble_eq_true rfl, Nat.le_of_ble_eq_true rfl⟩)
  dsimp only [Pt.U, Pt.locs, Pt.cells, Pt.slots] at X22 l22 y22 z22 st22 hQ22
  subst l22 y22 z22
  obtain ⟨rfl, Nq22, eq22⟩ := hQ22
  have N22 := Fr.app N0 Nq22
  have e22 : T22.heap = h0 := eq22
  have cc23 : Steps p.tables e below S0' (T22.setTop (mkF m 10 #[.val (.ref t), .val (.int (65533 : Int32)), .val (.int 0), .val (.int (Int32.ofNat cs.length))] [(.int (Int32.ofNat cs.length)), (.int 0), (.int (65533 : Int32)), (.ref t)])) := Steps.trans (cc21.trans (st22 _ (Steps.refl _))) (by
    refine XS.aloadN X22.here hx rfl (own_d hby d13_6) rfl rfl ?_
    refine XS.iloadN X22.here hx rfl (own_d hby d13_7) rfl ?_
    refine XS.iloadN X22.here hx rfl (own_d hby d13_8) rfl ?_
    refine XS.iloadN X22.here hx rfl (own_d hby d13_9) rfl ?_
    exact Steps.refl _)
  obtain ⟨_, _, ⟨T24, L24, k24, n24⟩, -, X24, ⟨Lc24, hQ24, l24, y24, z24⟩, st24⟩ := Jvm.LawKit.callS X22 hx (y := (⟨"java/lang/StringUTF16", "indexOfCharUnsafe", "([BIII)I"⟩ : MethodName)) hown (mvT hZ (hw _ (List.mem_of_getElem? (i := 122) rfl))) (mvT hZ (hw _ (List.mem_of_getElem? (i := 123) rfl))) (mvT hZ w_67) (mvT hZ w_124) (by decide) (backOf (W := 0) (own_ixu l Z a0 hw t kb cs h0 n0 Z0 X00 O3 A hl hp) hZ w_124 w_67 (by decide) (by decide)) (g := (mkF m 10 #[.val (.ref t), .val (.int (65533 : Int32)), .val (.int 0), .val (.int (Int32.ofNat cs.length))] [(.int (Int32.ofNat cs.length)), (.int 0), (.int (65533 : Int32)), (.ref t)])) rfl (by rw [hml]; rfl) (argsL := [(.ref t), (.int (65533 : Int32)), (.int 0), (.int (Int32.ofNat cs.length))]) (rest := []) (lenOf own_pd7 rfl) rfl (by show 2 * 0 + _ ≤ _; exact Nat.le_of_eq rfl) (own_d hby d13_10) (fun _ _ => ⟨rfl, e22, Nat.le_of_ble_eq_true rfl, Nat.le_of_ble_eq_true rfl⟩)
  dsimp only [Pt.U, Pt.locs, Pt.cells, Pt.slots] at X24 l24 y24 z24 st24 hQ24
  subst l24 y24 z24
  obtain ⟨rr, rfl, Nq24, eq24, hr⟩ := hQ24
  have N24 := Fr.app N22 Nq24
  have e24 : T24.heap = h0 := eq24
  have cc25 : Steps p.tables e below S0' (T24.setTop (mkF m 13 #[.val (.ref t), .val (.int (65533 : Int32)), .val (.int 0), .val (.int (Int32.ofNat cs.length))] [(.int rr)])) := (cc23.trans (st24 _ (Steps.refl _)))
  have cE := cc25
  rw [hS0'] at cE
  obtain ⟨fs, hr_, hrun, hended, hW, hsame⟩ := X24.leave (v := some (.int rr)) (fun h => by rw [Bd.returns] at h; cases h)
  refine ⟨_, _, cE.trans (X24.ireturnOut hx Bd.returns (rfl) (by simp) (own_d hby d13_13) hr_), hrun, hended, _, _, rfl, ?_, ⟨_, rfl⟩, hW, hsame.mono (by first | decide | omega) (by first | decide | omega)⟩
  show Q_own_ixc Z t kb cs f h0 n0 _ T24.heap _
  rw [e24]
  exact ⟨rr, rfl, N24, rfl, hr⟩
theorem d14_0 : decode jdk_52_method_40_code 0 = .ok (.iload_n 2, 1) := by decide +kernel
theorem d14_1 : decode jdk_52_method_40_code 1 = .ok (.iconst 0, 1) := by decide +kernel
theorem d14_2 : decode jdk_52_method_40_code 2 = .ok (.invokestatic 224, 3) := by decide +kernel
theorem d14_5 : decode jdk_52_method_40_code 5 = .ok (.istore_n 2, 1) := by decide +kernel
theorem d14_6 : decode jdk_52_method_40_code 6 = .ok (.iload_n 3, 1) := by decide +kernel
theorem d14_7 : decode jdk_52_method_40_code 7 = .ok (.aload_n 0, 1) := by decide +kernel
theorem d14_8 : decode jdk_52_method_40_code 8 = .ok (.arraylength, 1) := by decide +kernel
theorem d14_9 : decode jdk_52_method_40_code 9 = .ok (.iconst 1, 1) := by decide +kernel
theorem d14_10 : decode jdk_52_method_40_code 10 = .ok (.ishr, 1) := by decide +kernel
theorem d14_11 : decode jdk_52_method_40_code 11 = .ok (.invokestatic 183, 3) := by decide +kernel
theorem d14_14 : decode jdk_52_method_40_code 14 = .ok (.istore_n 3, 1) := by decide +kernel
theorem d14_15 : decode jdk_52_method_40_code 15 = .ok (.iload_n 2, 1) := by decide +kernel
theorem d14_16 : decode jdk_52_method_40_code 16 = .ok (.iload_n 3, 1) := by decide +kernel
theorem d14_17 : decode jdk_52_method_40_code 17 = .ok (.if_icmp .lt 5, 3) := by decide +kernel
theorem d14_22 : decode jdk_52_method_40_code 22 = .ok (.iload_n 1, 1) := by decide +kernel
theorem d14_23 : decode jdk_52_method_40_code 23 = .ok (.ldc 227, 2) := by decide +kernel
theorem d14_25 : decode jdk_52_method_40_code 25 = .ok (.if_icmp .ge 11, 3) := by decide +kernel
theorem d14_28 : decode jdk_52_method_40_code 28 = .ok (.aload_n 0, 1) := by decide +kernel
theorem d14_29 : decode jdk_52_method_40_code 29 = .ok (.iload_n 1, 1) := by decide +kernel
theorem d14_30 : decode jdk_52_method_40_code 30 = .ok (.iload_n 2, 1) := by decide +kernel
theorem d14_31 : decode jdk_52_method_40_code 31 = .ok (.iload_n 3, 1) := by decide +kernel
theorem d14_32 : decode jdk_52_method_40_code 32 = .ok (.invokestatic 228, 3) := by decide +kernel
theorem d14_35 : decode jdk_52_method_40_code 35 = .ok (.ireturn, 1) := by decide +kernel
def Q_own_ix16 (Z : State) (t : Addr) (kb : ClassId) (cs : List Int32) (f : Value) (h0 : Heap) (n0 : Nat) (v : Option Value) (h : Heap) (L : List Loc) : Prop := ∃ r : Int32, v = some (.int r) ∧ Fr n0 L ∧ h = h0 ∧ (r < 0 ∧ (65533 : Int32) ∉ cs ∨ ¬ r < 0 ∧ (65533 : Int32) ∈ cs)
set_option maxRecDepth 65536 in
set_option maxHeartbeats 40000000 in
theorem own_ix16 (l : Launch) (Z : State) (a0 : Array Value) (hw : ∀ d ∈ tables_1, d.before a0 Z = true) (t : Addr) (kb : ClassId) (cs : List Int32) (f : Value) (h0 : Heap) (n0 : Nat) (Z0 : n0 ≤ h0.size) (X00 : Old Z n0 h0) (O3 : StrChars.Road.U3Z Z Z.heap) (A : Arv Z h0 t kb .byte (Int32.ofNat (2 * cs.length)) (StrChars.Road.wideBytes cs) (.int (0 : Int32))) (hl : cs.length ≤ 4000) (hp : ∀ c ∈ cs, ¬ c < 0 ∧ ¬ (65535 : Int32) < c) (h0' : 0 < cs.length) (O4 : Sta Z Z.heap "jdk/internal/util/Preconditions" "SIOOBE_FORMATTER" "Ljava/util/function/BiFunction;" f) (hf : f.isRef = true) :
    MetFree l (⟨"java/lang/StringUTF16", "indexOf", "([BIII)I"⟩ : MethodName) (head1 [Jvm.Cond.code (⟨"java/lang/StringUTF16", "indexOf", "([BIII)I"⟩ : MethodName) jdk_52_method_40_code 4 (some .int)] ({ frames := 4, cells := 0, slots := 0, locals := 59 } : Room)) (fun a_ U_ => a_ = #[(.ref t), (.int (65533 : Int32)), (.int 0), (.int (Int32.ofNat cs.length))] ∧ Z.Warmed39 U_.vm ∧ U_.heap = h0) (fun _ _ _ _ _ => True) (fun _ U_ o_ V_ => ∃ v_ L_, o_ = .returned v_ ∧ Q_own_ix16 Z t kb cs f h0 n0 v_ V_.heap L_ ∧ FrameEnd U_ o_ V_ L_ ({ frames := 4, cells := 0, slots := 0, locals := 59 } : Room).cells ({ frames := 4, cells := 0, slots := 0, locals := 59 } : Room).slots) := by
  refine MetFree.of_bodySF (plainFor_of_name own_pn2) hisR ?_
  intro p e s m args below meth c s₁ Bd hml0 hP hK
  obtain ⟨rfl, hZ, hh⟩ := hP
  have hx := Bd.exec
  have hby := Bd.bytes
  have hml : c.maxLocals = 4 := hml0
  have hown : s.vm.findClass "java/lang/StringUTF16" = some m.cls := findClass_of_methodNamed Bd.named
  have hnm := (name_of_methodNamed Bd.named Bd.method).1
  have X0 : Stand p l e ({ frames := 4, cells := 0, slots := 0, locals := 59 } : Room) s m #[(.ref t), (.int (65533 : Int32)), (.int 0), (.int (Int32.ofNat cs.length))] below meth c s₁ [] 0 0 := Stand.of_body Bd
  have e0 : s₁.heap = h0 := by rw [← hh, Bd.state]; rfl
  have N0 := Fr.nil n0
  have KK0 := Keep.refl h0 ([] : List Addr)
  have cc0 : Steps p.tables e below (s₁.setTop (entryFrame m #[(.ref t), (.int (65533 : Int32)), (.int 0), (.int (Int32.ofNat cs.length))] 4)) (s₁.setTop (mkF m 0 #[.val (.ref t), .val (.int (65533 : Int32)), .val (.int 0), .val (.int (Int32.ofNat cs.length))] [])) := XT.entry rfl
  obtain ⟨S0', hS0'⟩ : ∃ S, S = (s₁.setTop (entryFrame m #[(.ref t), (.int (65533 : Int32)), (.int 0), (.int (Int32.ofNat cs.length))] 4)) := ⟨_, rfl⟩
  rw [← hS0'] at cc0
  have w_67 := hw _ (List.mem_of_getElem? (i := 67) rfl)
  have w_99 := hw _ (List.mem_of_getElem? (i := 99) rfl)
  have w_100 := hw _ (List.mem_of_getElem? (i := 100) rfl)
  have w_103 := hw _ (List.mem_of_getElem? (i := 103) rfl)
  have w_107 := hw _ (List.mem_of_getElem? (i := 107) rfl)
  have cc21 : Steps p.tables e below S0' (s₁.setTop (mkF m 2 #[.val (.ref t), .val (.int (65533 : Int32)), .val (.int 0), .val (.int (Int32.ofNat cs.length))] [(.int 0), (.int 0)])) := Steps.trans cc0 (by
    refine XS.iloadN X0.here hx rfl (own_d hby d14_0) rfl ?_
    refine iconstV X0.here hx rfl 0 (own_d hby d14_1) (by decide) ?_
    exact Steps.refl _)
  obtain ⟨_, _, ⟨T22, L22, k22, n22⟩, -, X22, ⟨Lc22, hQ22, l22, y22, z22⟩, st22⟩ := Jvm.LawKit.callS X0 hx (y := (⟨"java/lang/Math", "max", "(II)I"⟩ : MethodName)) hown (mvT hZ (hw _ (List.mem_of_getElem? (i := 97) rfl))) (mvT hZ (hw _ (List.mem_of_getElem? (i := 98) rfl))) (mvT hZ w_99) (mvT hZ w_100) (by decide) (backOf (W := 0) (own_max l Z a0 hw 0 0 h0 n0 Z0 (by decide)) hZ w_100 w_99 (by decide) (by decide)) (g := (mkF m 2 #[.val (.ref t), .val (.int (65533 : Int32)), .val (.int 0), .val (.int (Int32.ofNat cs.length))] [(.int 0), (.int 0)])) rfl (by rw [hml]; rfl) (argsL := [(.int 0), (.int 0)]) (rest := []) (lenOf own_pd8 rfl) rfl (by show 2 * 0 + _ ≤ _; exact Nat.le_of_eq rfl) (own_d hby d14_2) (fun _ _ => ⟨rfl, e0, Nat.le_of_ble_eq_true rfl, Nat.le_of_ble_eq_true rfl⟩)
  dsimp only [Pt.U, Pt.locs, Pt.cells, Pt.slots] at X22 l22 y22 z22 st22 hQ22
  subst l22 y22 z22
  obtain ⟨rfl, Nq22, eq22⟩ := hQ22
  have N22 := Fr.app N0 Nq22
  have e22 : T22.heap = h0 := eq22
  have cc23 : Steps p.tables e below S0' (T22.setTop (mkF m 8 #[.val (.ref t), .val (.int (65533 : Int32)), .val (.int 0), .val (.int (Int32.ofNat cs.length))] [(.ref t), (.int (Int32.ofNat cs.length))])) := Steps.trans (cc21.trans (st22 _ (Steps.refl _))) (by
    refine XS.istoreN X22.here hx rfl (own_d hby d14_5) rfl rfl ?_
    refine XS.iloadN X22.here hx rfl (own_d hby d14_6) rfl ?_
    refine XS.aloadN X22.here hx rfl (own_d hby d14_7) rfl rfl ?_
    exact Steps.refl _)
  obtain ⟨clu24, Aru24, -, Su24, Ngu24, -, -⟩ := id A
  have cl_u24 := X22.arraylength hx (by rw [e22]; exact Aru24.1) (State.isArrayOf_alike (hZ).alike Aru24.2.1) (g := (mkF m 8 #[.val (.ref t), .val (.int (65533 : Int32)), .val (.int 0), .val (.int (Int32.ofNat cs.length))] [(.ref t), (.int (Int32.ofNat cs.length))])) rfl rfl (own_d hby d14_8) _ (Steps.refl _)
  rw [len_of Su24 Ngu24] at cl_u24
  have cc25 : Steps p.tables e below S0' (T22.setTop (mkF m 11 #[.val (.ref t), .val (.int (65533 : Int32)), .val (.int 0), .val (.int (Int32.ofNat cs.length))] [(.int ((Int32.ofNat (2 * cs.length)) >>> ((1 : Int32) &&& 31))), (.int (Int32.ofNat cs.length))])) := Steps.trans (Steps.trans cc23 cl_u24) (by
    refine iconstV X22.here hx rfl 1 (own_d hby d14_9) (by decide) ?_
    refine XT.ishr X22.here hx rfl (own_d hby d14_10) rfl ?_
    exact Steps.refl _)
  rw [StrChars.shr1 (by omega)] at cc25
  obtain ⟨_, _, ⟨T26, L26, k26, n26⟩, -, X26, ⟨Lc26, hQ26, l26, y26, z26⟩, st26⟩ := Jvm.LawKit.callS X22 hx (y := (⟨"java/lang/Math", "min", "(II)I"⟩ : MethodName)) hown (mvT hZ (hw _ (List.mem_of_getElem? (i := 101) rfl))) (mvT hZ (hw _ (List.mem_of_getElem? (i := 102) rfl))) (mvT hZ w_99) (mvT hZ w_103) (by decide) (backOf (W := 0) (own_min l Z a0 hw (Int32.ofNat cs.length) (Int32.ofNat cs.length) h0 n0 Z0 (nlt32 (by omega) (Nat.le_refl _))) hZ w_103 w_99 (by decide) (by decide)) (g := (mkF m 11 #[.val (.ref t), .val (.int (65533 : Int32)), .val (.int 0), .val (.int (Int32.ofNat cs.length))] [(.int (Int32.ofNat cs.length)), (.int (Int32.ofNat cs.length))])) rfl (by rw [hml]; rfl) (argsL := [(.int (Int32.ofNat cs.length)), (.int (Int32.ofNat cs.length))]) (rest := []) (lenOf own_pd8 rfl) rfl (by show 2 * 0 + _ ≤ _; exact Nat.le_of_eq rfl) (own_d hby d14_11) (fun _ _ => ⟨rfl, e22, Nat.le_of_ble_eq_true rfl, Nat.le_of_ble_eq_true rfl⟩)
  dsimp only [Pt.U, Pt.locs, Pt.cells, Pt.slots] at X26 l26 y26 z26 st26 hQ26
  subst l26 y26 z26
  obtain ⟨rfl, Nq26, eq26⟩ := hQ26
  have N26 := Fr.app N22 Nq26
  have e26 : T26.heap = h0 := eq26
  have cc27 : Steps p.tables e below S0' (T26.setTop (mkF m 32 #[.val (.ref t), .val (.int (65533 : Int32)), .val (.int 0), .val (.int (Int32.ofNat cs.length))] [(.int (Int32.ofNat cs.length)), (.int 0), (.int (65533 : Int32)), (.ref t)])) := Steps.trans (cc25.trans (st26 _ (Steps.refl _))) (by
    refine XS.istoreN X26.here hx rfl (own_d hby d14_14) rfl rfl ?_
    refine XS.iloadN X26.here hx rfl (own_d hby d14_15) rfl ?_
    refine XS.iloadN X26.here hx rfl (own_d hby d14_16) rfl ?_
    refine XS.icmpYes X26.here hx rfl (pc0 := 17) rfl (own_d hby d14_17) rfl (ii_lt_t (pos32 (by omega) h0')) (by decide) rfl ?_
    refine XS.iloadN X26.here hx rfl (own_d hby d14_22) rfl ?_
    refine X26.ldcI hx hown (mvT hZ (hw _ (List.mem_of_getElem? (i := 104) rfl))) rfl (own_d hby d14_23) ?_
    refine XS.icmpNo X26.here hx rfl (own_d hby d14_25) rfl (ii_ge_f (by decide)) ?_
    refine XS.aloadN X26.here hx rfl (own_d hby d14_28) rfl rfl ?_
    refine XS.iloadN X26.here hx rfl (own_d hby d14_29) rfl ?_
    refine XS.iloadN X26.here hx rfl (own_d hby d14_30) rfl ?_
    refine XS.iloadN X26.here hx rfl (own_d hby d14_31) rfl ?_
    exact Steps.refl _)
  obtain ⟨_, _, ⟨T28, L28, k28, n28⟩, -, X28, ⟨Lc28, hQ28, l28, y28, z28⟩, st28⟩ := Jvm.LawKit.callS X26 hx (y := (⟨"java/lang/StringUTF16", "indexOfChar", "([BIII)I"⟩ : MethodName)) hown (mvT hZ (hw _ (List.mem_of_getElem? (i := 105) rfl))) (mvT hZ (hw _ (List.mem_of_getElem? (i := 106) rfl))) (mvT hZ w_67) (mvT hZ w_107) (by decide) (backOf (W := 0) (own_ixc l Z a0 hw t kb cs f h0 n0 Z0 X00 O3 A hl hp O4 hf) hZ w_107 w_67 (by decide) (by decide)) (g := (mkF m 32 #[.val (.ref t), .val (.int (65533 : Int32)), .val (.int 0), .val (.int (Int32.ofNat cs.length))] [(.int (Int32.ofNat cs.length)), (.int 0), (.int (65533 : Int32)), (.ref t)])) rfl (by rw [hml]; rfl) (argsL := [(.ref t), (.int (65533 : Int32)), (.int 0), (.int (Int32.ofNat cs.length))]) (rest := []) (lenOf own_pd7 rfl) rfl (by show 2 * 0 + _ ≤ _; exact Nat.le_of_eq rfl) (own_d hby d14_32) (fun _ _ => ⟨rfl, e26, Nat.le_of_ble_eq_true rfl, Nat.le_of_ble_eq_true rfl⟩)
  dsimp only [Pt.U, Pt.locs, Pt.cells, Pt.slots] at X28 l28 y28 z28 st28 hQ28
  subst l28 y28 z28
  obtain ⟨rr, rfl, Nq28, eq28, hr⟩ := hQ28
  have N28 := Fr.app N26 Nq28
  have e28 : T28.heap = h0 := eq28
  have cc29 : Steps p.tables e below S0' (T28.setTop (mkF m 35 #[.val (.ref t), .val (.int (65533 : Int32)), .val (.int 0), .val (.int (Int32.ofNat cs.length))] [(.int rr)])) := (cc27.trans (st28 _ (Steps.refl _)))
  have cE := cc29
  rw [hS0'] at cE
  obtain ⟨fs, hr_, hrun, hended, hW, hsame⟩ := X28.leave (v := some (.int rr)) (fun h => by rw [Bd.returns] at h; cases h)
  refine ⟨_, _, cE.trans (X28.ireturnOut hx Bd.returns (rfl) (by simp) (own_d hby d14_35) hr_), hrun, hended, _, _, rfl, ?_, ⟨_, rfl⟩, hW, hsame.mono (by first | decide | omega) (by first | decide | omega)⟩
  show Q_own_ix16 Z t kb cs f h0 n0 _ T28.heap _
  rw [e28]
  exact ⟨rr, rfl, N28, rfl, hr⟩
theorem d15_0 : decode jdk_42_method_80_code 0 = .ok (.aload_n 0, 1) := by decide +kernel
theorem d15_1 : decode jdk_42_method_80_code 1 = .ok (.invokevirtual 492, 3) := by decide +kernel
theorem d15_4 : decode jdk_42_method_80_code 4 = .ok (.ifCond .eq 19, 3) := by decide +kernel
theorem d15_7 : decode jdk_42_method_80_code 7 = .ok (.aload_n 0, 1) := by decide +kernel
theorem d15_8 : decode jdk_42_method_80_code 8 = .ok (.getfield 9, 3) := by decide +kernel
theorem d15_11 : decode jdk_42_method_80_code 11 = .ok (.iload_n 1, 1) := by decide +kernel
theorem d15_12 : decode jdk_42_method_80_code 12 = .ok (.iload_n 2, 1) := by decide +kernel
theorem d15_13 : decode jdk_42_method_80_code 13 = .ok (.aload_n 0, 1) := by decide +kernel
theorem d15_14 : decode jdk_42_method_80_code 14 = .ok (.invokevirtual 505, 3) := by decide +kernel
theorem d15_17 : decode jdk_42_method_80_code 17 = .ok (.invokestatic 637, 3) := by decide +kernel
theorem d15_20 : decode jdk_42_method_80_code 20 = .ok (.goto 16, 3) := by decide +kernel
theorem d15_23 : decode jdk_42_method_80_code 23 = .ok (.aload_n 0, 1) := by decide +kernel
theorem d15_24 : decode jdk_42_method_80_code 24 = .ok (.getfield 9, 3) := by decide +kernel
theorem d15_27 : decode jdk_42_method_80_code 27 = .ok (.iload_n 1, 1) := by decide +kernel
theorem d15_28 : decode jdk_42_method_80_code 28 = .ok (.iload_n 2, 1) := by decide +kernel
theorem d15_29 : decode jdk_42_method_80_code 29 = .ok (.aload_n 0, 1) := by decide +kernel
theorem d15_30 : decode jdk_42_method_80_code 30 = .ok (.invokevirtual 505, 3) := by decide +kernel
theorem d15_33 : decode jdk_42_method_80_code 33 = .ok (.invokestatic 640, 3) := by decide +kernel
theorem d15_36 : decode jdk_42_method_80_code 36 = .ok (.ireturn, 1) := by decide +kernel
def Q_own_ix2 (Z : State) (x : Addr) (cs : List Int32) (z : Int32) (f : Value) (h0 : Heap) (n0 : Nat) (v : Option Value) (h : Heap) (L : List Loc) : Prop := ∃ r : Int32, v = some (.int r) ∧ Fr n0 L ∧ h = h0 ∧ (r < 0 ∧ (65533 : Int32) ∉ cs ∨ ¬ r < 0 ∧ (65533 : Int32) ∈ cs)
set_option maxRecDepth 65536 in
set_option maxHeartbeats 40000000 in
theorem own_ix2 (l : Launch) (Z : State) (a0 : Array Value) (hw : ∀ d ∈ tables_1, d.before a0 Z = true) (x : Addr) (cs : List Int32) (z : Int32) (f : Value) (h0 : Heap) (n0 : Nat) (Z0 : n0 ≤ h0.size) (X00 : Old Z n0 h0) (O2 : Sta Z Z.heap "java/lang/String" "COMPACT_STRINGS" "Z" (.int z)) (P5 : ¬ z = 0) (O3 : StrChars.Road.U3Z Z Z.heap) (O4 : Sta Z Z.heap "jdk/internal/util/Preconditions" "SIOOBE_FORMATTER" "Ljava/util/function/BiFunction;" f) (hf : f.isRef = true) (Hx : own_Str Z h0 x cs) :
    MetFree l (⟨"java/lang/String", "indexOf", "(II)I"⟩ : MethodName) (head1 [Jvm.Cond.code (⟨"java/lang/String", "indexOf", "(II)I"⟩ : MethodName) jdk_42_method_80_code 3 (some .int)] ({ frames := 5, cells := 0, slots := 0, locals := 77 } : Room)) (fun a_ U_ => a_ = #[(.ref x), (.int (65533 : Int32)), (.int 0)] ∧ Z.Warmed39 U_.vm ∧ U_.heap = h0) (fun _ _ _ _ _ => True) (fun _ U_ o_ V_ => ∃ v_ L_, o_ = .returned v_ ∧ Q_own_ix2 Z x cs z f h0 n0 v_ V_.heap L_ ∧ FrameEnd U_ o_ V_ L_ ({ frames := 5, cells := 0, slots := 0, locals := 77 } : Room).cells ({ frames := 5, cells := 0, slots := 0, locals := 77 } : Room).slots) := by
  refine MetFree.of_bodySF (plainFor_of_name own_pn0) hisR ?_
  intro p e s m args below meth c s₁ Bd hml0 hP hK
  obtain ⟨rfl, hZ, hh⟩ := hP
  have hx := Bd.exec
  have hby := Bd.bytes
  have hml : c.maxLocals = 3 := hml0
  have hown : s.vm.findClass "java/lang/String" = some m.cls := findClass_of_methodNamed Bd.named
  have hnm := (name_of_methodNamed Bd.named Bd.method).1
  have X0 : Stand p l e ({ frames := 5, cells := 0, slots := 0, locals := 77 } : Room) s m #[(.ref x), (.int (65533 : Int32)), (.int 0)] below meth c s₁ [] 0 0 := Stand.of_body Bd
  have e0 : s₁.heap = h0 := by rw [← hh, Bd.state]; rfl
  have N0 := Fr.nil n0
  have KK0 := Keep.refl h0 ([] : List Addr)
  have cc0 : Steps p.tables e below (s₁.setTop (entryFrame m #[(.ref x), (.int (65533 : Int32)), (.int 0)] 3)) (s₁.setTop (mkF m 0 #[.val (.ref x), .val (.int (65533 : Int32)), .val (.int 0)] [])) := XT.entry rfl
  obtain ⟨S0', hS0'⟩ : ∃ S, S = (s₁.setTop (entryFrame m #[(.ref x), (.int (65533 : Int32)), (.int 0)] 3)) := ⟨_, rfl⟩
  rw [← hS0'] at cc0
  have w_5 := hw _ (List.mem_of_getElem? (i := 5) rfl)
  have w_24 := hw _ (List.mem_of_getElem? (i := 24) rfl)
  have w_44 := hw _ (List.mem_of_getElem? (i := 44) rfl)
  have w_47 := hw _ (List.mem_of_getElem? (i := 47) rfl)
  have w_48 := hw _ (List.mem_of_getElem? (i := 48) rfl)
  have w_49 := hw _ (List.mem_of_getElem? (i := 49) rfl)
  have w_50 := hw _ (List.mem_of_getElem? (i := 50) rfl)
  have w_59 := hw _ (List.mem_of_getElem? (i := 59) rfl)
  have w_60 := hw _ (List.mem_of_getElem? (i := 60) rfl)
  have w_67 := hw _ (List.mem_of_getElem? (i := 67) rfl)
  have w_96 := hw _ (List.mem_of_getElem? (i := 96) rfl)
  have hw_wordsLen : ∀ d ∈ StrChars.Road.wordsLen, d.before a0 Z = true := fun d hd => hw d ((by decide +kernel : ∀ d ∈ StrChars.Road.wordsLen, d ∈ tables_1) d hd)
  obtain ⟨Ex, px, lx, cdx, Nx, vsx, tx, kx, codx, Cx, Vx, Ax⟩ := Hx
  have hcd : cdx = 0 ∨ cdx = 1 := codx.imp And.left And.left
  have cc21 : Steps p.tables e below S0' (s₁.setTop (mkF m 1 #[.val (.ref x), .val (.int (65533 : Int32)), .val (.int 0)] [(.ref x)])) := Steps.trans cc0 (by
    refine XS.aloadN X0.here hx rfl (own_d hby d15_0) rfl rfl ?_
    exact Steps.refl _)
  obtain ⟨cq22, kq22, qa22, qb22, qc22⟩ := isOf hZ e0 Ex
  obtain ⟨_, _, ⟨T22, L22, k22, n22⟩, -, X22, ⟨Lc22, hQ22, l22, y22, z22⟩, st22⟩ := X0.virtualBack hx (y := (⟨"java/lang/String", "isLatin1", "()Z"⟩ : MethodName)) (z := (⟨"java/lang/String", "isLatin1", "()Z"⟩ : MethodName)) hown (mvT hZ (hw _ (List.mem_of_getElem? (i := 41) rfl))) (mvT hZ (hw _ (List.mem_of_getElem? (i := 42) rfl))) (notFace_of_selects (args := #[]) (mvT hZ w_44)) (mvT hZ w_44) (mvT hZ (hw _ (List.mem_of_getElem? (i := 43) rfl))) (by decide) (backOf (W := 0) (own_isL l Z a0 hw x cdx z h0 n0 Z0 X00 O2 P5 Cx hcd) hZ (hw _ (List.mem_of_getElem? (i := 45) rfl)) (hw _ (List.mem_of_getElem? (i := 6) rfl)) (by decide) (by decide)) qa22 qc22 (g := (mkF m 1 #[.val (.ref x), .val (.int (65533 : Int32)), .val (.int 0)] [(.ref x)])) rfl (by rw [hml]; rfl) (Steps.refl _) (argsL := []) (rest := []) (lenOf own_pd9 rfl) rfl (by show 2 * 0 + _ ≤ _; exact Nat.le_of_eq rfl) (own_d hby d15_1) (fun _ _ => ⟨rfl, e0, Nat.le_of_ble_eq_true rfl, Nat.le_of_ble_eq_true rfl⟩)
  dsimp only [Pt.U, Pt.locs, Pt.cells, Pt.slots] at X22 l22 y22 z22 st22 hQ22
  subst l22 y22 z22
  obtain ⟨rfl, Nq22, eq22⟩ := hQ22
  have N22 := Fr.app N0 Nq22
  have e22 : T22.heap = h0 := eq22
  have cc23 : Steps p.tables e below S0' (T22.setTop (mkF m 4 #[.val (.ref x), .val (.int (65533 : Int32)), .val (.int 0)] [(.int (1 - cdx))])) := (Steps.trans cc21 st22)
  have codx' := codx
  rcases codx' with ⟨rfl, hN, hv, hlat⟩ | ⟨rfl, rfl, rfl, hwd⟩
  · skip
    have cc24 : Steps p.tables e below S0' (T22.setTop (mkF m 8 #[.val (.ref x), .val (.int (65533 : Int32)), .val (.int 0)] [(.ref x)])) := Steps.trans cc23 (by
      refine XS.ifNo X22.here hx rfl (own_d hby d15_4) rfl (i0_eq_f (by decide)) ?_
      refine XS.aloadN X22.here hx rfl (own_d hby d15_7) rfl rfl ?_
      exact Steps.refl _)
    obtain ⟨T25, X25, e25, st25⟩ := getF X22 hx hZ hown (host := "") (Or.inl w_24) Via.refl e22 Vx (g := (mkF m 8 #[.val (.ref x), .val (.int (65533 : Int32)), .val (.int 0)] [(.ref x)])) rfl rfl (own_d hby d15_8)
    have cc26 : Steps p.tables e below S0' (T25.setTop (mkF m 14 #[.val (.ref x), .val (.int (65533 : Int32)), .val (.int 0)] [(.ref x), (.int 0), (.int (65533 : Int32)), (.ref tx)])) := Steps.trans (cc24.trans (st25 _ (Steps.refl _))) (by
      refine XS.iloadN X25.here hx rfl (own_d hby d15_11) rfl ?_
      refine XS.iloadN X25.here hx rfl (own_d hby d15_12) rfl ?_
      refine XS.aloadN X25.here hx rfl (own_d hby d15_13) rfl rfl ?_
      exact Steps.refl _)
    obtain ⟨cq27, kq27, qa27, qb27, qc27⟩ := isOf hZ e25 Ex
    obtain ⟨_, _, ⟨T27, L27, k27, n27⟩, -, X27, ⟨Lc27, hQ27, l27, y27, z27⟩, st27⟩ := X25.virtualBack hx (y := (⟨"java/lang/String", "length", "()I"⟩ : MethodName)) (z := (⟨"java/lang/String", "length", "()I"⟩ : MethodName)) hown (mvT hZ w_47) (mvT hZ w_48) (notFace_of_selects (args := #[]) (mvT hZ w_50)) (mvT hZ w_50) (mvT hZ w_49) (by decide) (StrChars.Road.lenW (W := 3) hZ hw_wordsLen (kI := 4) w_5 Ex Vx Cx Ax codx px (O2.ext X00.2) P5 lx (by decide) (by decide)) qa27 qc27 (g := (mkF m 14 #[.val (.ref x), .val (.int (65533 : Int32)), .val (.int 0)] [(.ref x), (.int 0), (.int (65533 : Int32)), (.ref tx)])) rfl (by rw [hml]; rfl) (Steps.refl _) (argsL := []) (rest := [(.int 0), (.int (65533 : Int32)), (.ref tx)]) (lenOf own_pd10 rfl) rfl (by show 2 * 0 + _ ≤ _; exact Nat.le_of_eq rfl) (own_d hby d15_14) (fun _ _ => ⟨rfl, e25, Nat.le_of_ble_eq_true rfl, Nat.le_of_ble_eq_true rfl⟩)
    dsimp only [Pt.U, Pt.locs, Pt.cells, Pt.slots] at X27 l27 y27 z27 st27 hQ27
    subst l27 y27 z27
    obtain ⟨rfl, rfl, eq27⟩ := hQ27
    have N27 := Fr.app N22 (Fr.nil n0)
    have e27 : T27.heap = h0 := eq27
    have cc28 : Steps p.tables e below S0' (T27.setTop (mkF m 17 #[.val (.ref x), .val (.int (65533 : Int32)), .val (.int 0)] [(.int (Int32.ofNat cs.length)), (.int 0), (.int (65533 : Int32)), (.ref tx)])) := (Steps.trans cc26 st27)
    obtain ⟨_, _, ⟨T29, L29, k29, n29⟩, -, X29, ⟨Lc29, hQ29, l29, y29, z29⟩, st29⟩ := Jvm.LawKit.callS X27 hx (y := (⟨"java/lang/StringLatin1", "indexOf", "([BIII)I"⟩ : MethodName)) hown (mvT hZ (hw _ (List.mem_of_getElem? (i := 57) rfl))) (mvT hZ (hw _ (List.mem_of_getElem? (i := 58) rfl))) (mvT hZ w_59) (mvT hZ w_60) (by decide) (backOf (W := 0) (own_lix l Z a0 hw tx (Int32.ofNat cs.length) h0 n0 Z0 ) hZ w_60 w_59 (by decide) (by decide)) (g := (mkF m 17 #[.val (.ref x), .val (.int (65533 : Int32)), .val (.int 0)] [(.int (Int32.ofNat cs.length)), (.int 0), (.int (65533 : Int32)), (.ref tx)])) rfl (by rw [hml]; rfl) (argsL := [(.ref tx), (.int (65533 : Int32)), (.int 0), (.int (Int32.ofNat cs.length))]) (rest := []) (lenOf own_pd7 rfl) rfl (by show 2 * 0 + _ ≤ _; exact Nat.le_of_eq rfl) (own_d hby d15_17) (fun _ _ => ⟨rfl, e27, Nat.le_of_ble_eq_true rfl, Nat.le_of_ble_eq_true rfl⟩)
    dsimp only [Pt.U, Pt.locs, Pt.cells, Pt.slots] at X29 l29 y29 z29 st29 hQ29
    subst l29 y29 z29
    obtain ⟨rfl, Nq29, eq29⟩ := hQ29
    have N29 := Fr.app N27 Nq29
    have e29 : T29.heap = h0 := eq29
    have cc30 : Steps p.tables e below S0' (T29.setTop (mkF m 36 #[.val (.ref x), .val (.int (65533 : Int32)), .val (.int 0)] [(.int (-1))])) := Steps.trans (cc28.trans (st29 _ (Steps.refl _))) (by
      refine XS.goto X29.here hx rfl (pc0 := 20) rfl (own_d hby d15_20) (by decide) rfl ?_
      exact Steps.refl _)
    have cE := cc30
    rw [hS0'] at cE
    obtain ⟨fs, hr_, hrun, hended, hW, hsame⟩ := X29.leave (v := some (.int (-1))) (fun h => by rw [Bd.returns] at h; cases h)
    refine ⟨_, _, cE.trans (X29.ireturnOut hx Bd.returns (rfl) (by simp) (own_d hby d15_36) hr_), hrun, hended, _, _, rfl, ?_, ⟨_, rfl⟩, hW, hsame.mono (by first | decide | omega) (by first | decide | omega)⟩
    show Q_own_ix2 Z x cs z f h0 n0 _ T29.heap _
    rw [e29]
    exact ⟨-1, rfl, N29, rfl, Or.inl ⟨by decide, fun hm => hlat _ hm (by decide)⟩⟩
  · skip
    have cc24 : Steps p.tables e below S0' (T22.setTop (mkF m 24 #[.val (.ref x), .val (.int (65533 : Int32)), .val (.int 0)] [(.ref x)])) := Steps.trans cc23 (by
      refine XS.ifYes X22.here hx rfl (pc0 := 4) rfl (own_d hby d15_4) rfl (i0_eq_t (by decide)) (by decide) rfl ?_
      refine XS.aloadN X22.here hx rfl (own_d hby d15_23) rfl rfl ?_
      exact Steps.refl _)
    obtain ⟨T25, X25, e25, st25⟩ := getF X22 hx hZ hown (host := "") (Or.inl w_24) Via.refl e22 Vx (g := (mkF m 24 #[.val (.ref x), .val (.int (65533 : Int32)), .val (.int 0)] [(.ref x)])) rfl rfl (own_d hby d15_24)
    have cc26 : Steps p.tables e below S0' (T25.setTop (mkF m 30 #[.val (.ref x), .val (.int (65533 : Int32)), .val (.int 0)] [(.ref x), (.int 0), (.int (65533 : Int32)), (.ref tx)])) := Steps.trans (cc24.trans (st25 _ (Steps.refl _))) (by
      refine XS.iloadN X25.here hx rfl (own_d hby d15_27) rfl ?_
      refine XS.iloadN X25.here hx rfl (own_d hby d15_28) rfl ?_
      refine XS.aloadN X25.here hx rfl (own_d hby d15_29) rfl rfl ?_
      exact Steps.refl _)
    obtain ⟨cq27, kq27, qa27, qb27, qc27⟩ := isOf hZ e25 Ex
    obtain ⟨_, _, ⟨T27, L27, k27, n27⟩, -, X27, ⟨Lc27, hQ27, l27, y27, z27⟩, st27⟩ := X25.virtualBack hx (y := (⟨"java/lang/String", "length", "()I"⟩ : MethodName)) (z := (⟨"java/lang/String", "length", "()I"⟩ : MethodName)) hown (mvT hZ w_47) (mvT hZ w_48) (notFace_of_selects (args := #[]) (mvT hZ w_50)) (mvT hZ w_50) (mvT hZ w_49) (by decide) (StrChars.Road.lenW (W := 3) hZ hw_wordsLen (kI := 4) w_5 Ex Vx Cx Ax codx px (O2.ext X00.2) P5 lx (by decide) (by decide)) qa27 qc27 (g := (mkF m 30 #[.val (.ref x), .val (.int (65533 : Int32)), .val (.int 0)] [(.ref x), (.int 0), (.int (65533 : Int32)), (.ref tx)])) rfl (by rw [hml]; rfl) (Steps.refl _) (argsL := []) (rest := [(.int 0), (.int (65533 : Int32)), (.ref tx)]) (lenOf own_pd10 rfl) rfl (by show 2 * 0 + _ ≤ _; exact Nat.le_of_eq rfl) (own_d hby d15_30) (fun _ _ => ⟨rfl, e25, Nat.le_of_ble_eq_true rfl, Nat.le_of_ble_eq_true rfl⟩)
    dsimp only [Pt.U, Pt.locs, Pt.cells, Pt.slots] at X27 l27 y27 z27 st27 hQ27
    subst l27 y27 z27
    obtain ⟨rfl, rfl, eq27⟩ := hQ27
    have N27 := Fr.app N22 (Fr.nil n0)
    have e27 : T27.heap = h0 := eq27
    have hpos : 0 < cs.length := by obtain ⟨c, hc, -⟩ := hwd; exact List.length_pos_of_mem hc
    have cc28 : Steps p.tables e below S0' (T27.setTop (mkF m 33 #[.val (.ref x), .val (.int (65533 : Int32)), .val (.int 0)] [(.int (Int32.ofNat cs.length)), (.int 0), (.int (65533 : Int32)), (.ref tx)])) := (Steps.trans cc26 st27)
    obtain ⟨_, _, ⟨T29, L29, k29, n29⟩, -, X29, ⟨Lc29, hQ29, l29, y29, z29⟩, st29⟩ := Jvm.LawKit.callS X27 hx (y := (⟨"java/lang/StringUTF16", "indexOf", "([BIII)I"⟩ : MethodName)) hown (mvT hZ (hw _ (List.mem_of_getElem? (i := 94) rfl))) (mvT hZ (hw _ (List.mem_of_getElem? (i := 95) rfl))) (mvT hZ w_67) (mvT hZ w_96) (by decide) (backOf (W := 0) (own_ix16 l Z a0 hw tx kx cs f h0 n0 Z0 X00 O3 Ax lx px hpos O4 hf) hZ w_96 w_67 (by decide) (by decide)) (g := (mkF m 33 #[.val (.ref x), .val (.int (65533 : Int32)), .val (.int 0)] [(.int (Int32.ofNat cs.length)), (.int 0), (.int (65533 : Int32)), (.ref tx)])) rfl (by rw [hml]; rfl) (argsL := [(.ref tx), (.int (65533 : Int32)), (.int 0), (.int (Int32.ofNat cs.length))]) (rest := []) (lenOf own_pd7 rfl) rfl (by show 2 * 0 + _ ≤ _; exact Nat.le_of_eq rfl) (own_d hby d15_33) (fun _ _ => ⟨rfl, e27, Nat.le_of_ble_eq_true rfl, Nat.le_of_ble_eq_true rfl⟩)
    dsimp only [Pt.U, Pt.locs, Pt.cells, Pt.slots] at X29 l29 y29 z29 st29 hQ29
    subst l29 y29 z29
    obtain ⟨rr, rfl, Nq29, eq29, hr⟩ := hQ29
    have N29 := Fr.app N27 Nq29
    have e29 : T29.heap = h0 := eq29
    have cc30 : Steps p.tables e below S0' (T29.setTop (mkF m 36 #[.val (.ref x), .val (.int (65533 : Int32)), .val (.int 0)] [(.int rr)])) := (cc28.trans (st29 _ (Steps.refl _)))
    have cE := cc30
    rw [hS0'] at cE
    obtain ⟨fs, hr_, hrun, hended, hW, hsame⟩ := X29.leave (v := some (.int rr)) (fun h => by rw [Bd.returns] at h; cases h)
    refine ⟨_, _, cE.trans (X29.ireturnOut hx Bd.returns (rfl) (by simp) (own_d hby d15_36) hr_), hrun, hended, _, _, rfl, ?_, ⟨_, rfl⟩, hW, hsame.mono (by first | decide | omega) (by first | decide | omega)⟩
    show Q_own_ix2 Z x cs z f h0 n0 _ T29.heap _
    rw [e29]
    exact ⟨rr, rfl, N29, rfl, hr⟩
theorem d16_0 : decode jdk_42_method_79_code 0 = .ok (.aload_n 0, 1) := by decide +kernel
theorem d16_1 : decode jdk_42_method_79_code 1 = .ok (.iload_n 1, 1) := by decide +kernel
theorem d16_2 : decode jdk_42_method_79_code 2 = .ok (.iconst 0, 1) := by decide +kernel
theorem d16_3 : decode jdk_42_method_79_code 3 = .ok (.invokevirtual 633, 3) := by decide +kernel
theorem d16_6 : decode jdk_42_method_79_code 6 = .ok (.ireturn, 1) := by decide +kernel
def Q_own_ix1 (Z : State) (x : Addr) (cs : List Int32) (z : Int32) (f : Value) (h0 : Heap) (n0 : Nat) (v : Option Value) (h : Heap) (L : List Loc) : Prop := ∃ r : Int32, v = some (.int r) ∧ Fr n0 L ∧ h = h0 ∧ (r < 0 ∧ (65533 : Int32) ∉ cs ∨ ¬ r < 0 ∧ (65533 : Int32) ∈ cs)
set_option maxRecDepth 65536 in
set_option maxHeartbeats 40000000 in
theorem own_ix1 (l : Launch) (Z : State) (a0 : Array Value) (hw : ∀ d ∈ tables_1, d.before a0 Z = true) (x : Addr) (cs : List Int32) (z : Int32) (f : Value) (h0 : Heap) (n0 : Nat) (Z0 : n0 ≤ h0.size) (X00 : Old Z n0 h0) (O2 : Sta Z Z.heap "java/lang/String" "COMPACT_STRINGS" "Z" (.int z)) (P5 : ¬ z = 0) (O3 : StrChars.Road.U3Z Z Z.heap) (O4 : Sta Z Z.heap "jdk/internal/util/Preconditions" "SIOOBE_FORMATTER" "Ljava/util/function/BiFunction;" f) (hf : f.isRef = true) (Hx : own_Str Z h0 x cs) :
    MetFree l (⟨"java/lang/String", "indexOf", "(I)I"⟩ : MethodName) (head1 [Jvm.Cond.code (⟨"java/lang/String", "indexOf", "(I)I"⟩ : MethodName) jdk_42_method_79_code 2 (some .int)] ({ frames := 6, cells := 0, slots := 0, locals := 91 } : Room)) (fun a_ U_ => a_ = #[(.ref x), (.int (65533 : Int32))] ∧ Z.Warmed39 U_.vm ∧ U_.heap = h0) (fun _ _ _ _ _ => True) (fun _ U_ o_ V_ => ∃ v_ L_, o_ = .returned v_ ∧ Q_own_ix1 Z x cs z f h0 n0 v_ V_.heap L_ ∧ FrameEnd U_ o_ V_ L_ ({ frames := 6, cells := 0, slots := 0, locals := 91 } : Room).cells ({ frames := 6, cells := 0, slots := 0, locals := 91 } : Room).slots) := by
  refine MetFree.of_bodySF (plainFor_of_name own_pn0) hisR ?_
  intro p e s m args below meth c s₁ Bd hml0 hP hK
  obtain ⟨rfl, hZ, hh⟩ := hP
  have hx := Bd.exec
  have hby := Bd.bytes
  have hml : c.maxLocals = 2 := hml0
  have hown : s.vm.findClass "java/lang/String" = some m.cls := findClass_of_methodNamed Bd.named
  have hnm := (name_of_methodNamed Bd.named Bd.method).1
  have X0 : Stand p l e ({ frames := 6, cells := 0, slots := 0, locals := 91 } : Room) s m #[(.ref x), (.int (65533 : Int32))] below meth c s₁ [] 0 0 := Stand.of_body Bd
  have e0 : s₁.heap = h0 := by rw [← hh, Bd.state]; rfl
  have N0 := Fr.nil n0
  have KK0 := Keep.refl h0 ([] : List Addr)
  have cc0 : Steps p.tables e below (s₁.setTop (entryFrame m #[(.ref x), (.int (65533 : Int32))] 2)) (s₁.setTop (mkF m 0 #[.val (.ref x), .val (.int (65533 : Int32))] [])) := XT.entry rfl
  obtain ⟨S0', hS0'⟩ : ∃ S, S = (s₁.setTop (entryFrame m #[(.ref x), (.int (65533 : Int32))] 2)) := ⟨_, rfl⟩
  rw [← hS0'] at cc0
  have w_39 := hw _ (List.mem_of_getElem? (i := 39) rfl)
  have cc21 : Steps p.tables e below S0' (s₁.setTop (mkF m 3 #[.val (.ref x), .val (.int (65533 : Int32))] [(.int 0), (.int (65533 : Int32)), (.ref x)])) := Steps.trans cc0 (by
    refine XS.aloadN X0.here hx rfl (own_d hby d16_0) rfl rfl ?_
    refine XS.iloadN X0.here hx rfl (own_d hby d16_1) rfl ?_
    refine iconstV X0.here hx rfl 0 (own_d hby d16_2) (by decide) ?_
    exact Steps.refl _)
  obtain ⟨cq22, kq22, qa22, qb22, qc22⟩ := isOf hZ e0 Hx.1
  obtain ⟨_, _, ⟨T22, L22, k22, n22⟩, -, X22, ⟨Lc22, hQ22, l22, y22, z22⟩, st22⟩ := X0.virtualBack hx (y := (⟨"java/lang/String", "indexOf", "(II)I"⟩ : MethodName)) (z := (⟨"java/lang/String", "indexOf", "(II)I"⟩ : MethodName)) hown (mvT hZ (hw _ (List.mem_of_getElem? (i := 36) rfl))) (mvT hZ (hw _ (List.mem_of_getElem? (i := 37) rfl))) (notFace_of_selects (args := #[]) (mvT hZ w_39)) (mvT hZ w_39) (mvT hZ (hw _ (List.mem_of_getElem? (i := 38) rfl))) (by decide) (backOf (W := 0) (own_ix2 l Z a0 hw x cs z f h0 n0 Z0 X00 O2 P5 O3 O4 hf Hx) hZ (hw _ (List.mem_of_getElem? (i := 40) rfl)) (hw _ (List.mem_of_getElem? (i := 6) rfl)) (by decide) (by decide)) qa22 qc22 (g := (mkF m 3 #[.val (.ref x), .val (.int (65533 : Int32))] [(.int 0), (.int (65533 : Int32)), (.ref x)])) rfl (by rw [hml]; rfl) (Steps.refl _) (argsL := [(.int (65533 : Int32)), (.int 0)]) (rest := []) (lenOf own_pd8 rfl) rfl (by show 2 * 0 + _ ≤ _; exact Nat.le_of_eq rfl) (own_d hby d16_3) (fun _ _ => ⟨rfl, e0, Nat.le_of_ble_eq_true rfl, Nat.le_of_ble_eq_true rfl⟩)
  dsimp only [Pt.U, Pt.locs, Pt.cells, Pt.slots] at X22 l22 y22 z22 st22 hQ22
  subst l22 y22 z22
  obtain ⟨rr, rfl, Nq22, eq22, hr⟩ := hQ22
  have N22 := Fr.app N0 Nq22
  have e22 : T22.heap = h0 := eq22
  have cc23 : Steps p.tables e below S0' (T22.setTop (mkF m 6 #[.val (.ref x), .val (.int (65533 : Int32))] [(.int rr)])) := (Steps.trans cc21 st22)
  have cE := cc23
  rw [hS0'] at cE
  obtain ⟨fs, hr_, hrun, hended, hW, hsame⟩ := X22.leave (v := some (.int rr)) (fun h => by rw [Bd.returns] at h; cases h)
  refine ⟨_, _, cE.trans (X22.ireturnOut hx Bd.returns (rfl) (by simp) (own_d hby d16_6) hr_), hrun, hended, _, _, rfl, ?_, ⟨_, rfl⟩, hW, hsame.mono (by first | decide | omega) (by first | decide | omega)⟩
  show Q_own_ix1 Z x cs z f h0 n0 _ T22.heap _
  rw [e22]
  exact ⟨rr, rfl, N22, rfl, hr⟩
theorem d17_0 : decode prog_10_method_3_code 0 = .ok (.aload_n 0, 1) := by decide +kernel
theorem d17_1 : decode prog_10_method_3_code 1 = .ok (.ldc 31, 2) := by decide +kernel
theorem d17_3 : decode prog_10_method_3_code 3 = .ok (.invokevirtual 32, 3) := by decide +kernel
theorem d17_6 : decode prog_10_method_3_code 6 = .ok (.ifCond .lt 7, 3) := by decide +kernel
theorem d17_9 : decode prog_10_method_3_code 9 = .ok (.iconst 1, 1) := by decide +kernel
theorem d17_10 : decode prog_10_method_3_code 10 = .ok (.goto 4, 3) := by decide +kernel
theorem d17_13 : decode prog_10_method_3_code 13 = .ok (.iconst 0, 1) := by decide +kernel
theorem d17_14 : decode prog_10_method_3_code 14 = .ok (.ireturn, 1) := by decide +kernel
def Q_own_lost (Z : State) (x : Addr) (cs : List Int32) (z : Int32) (f : Value) (h0 : Heap) (n0 : Nat) (v : Option Value) (h : Heap) (L : List Loc) : Prop := ∃ r : Int32, v = some (.int r) ∧ Fr n0 L ∧ h = h0 ∧ (r = 0 ∧ (65533 : Int32) ∉ cs ∨ r = 1 ∧ (65533 : Int32) ∈ cs)
set_option maxRecDepth 65536 in
set_option maxHeartbeats 40000000 in
theorem own_lost (l : Launch) (Z : State) (a0 : Array Value) (hw : ∀ d ∈ tables_1, d.before a0 Z = true) (x : Addr) (cs : List Int32) (z : Int32) (f : Value) (h0 : Heap) (n0 : Nat) (Z0 : n0 ≤ h0.size) (X00 : Old Z n0 h0) (O2 : Sta Z Z.heap "java/lang/String" "COMPACT_STRINGS" "Z" (.int z)) (P5 : ¬ z = 0) (O3 : StrChars.Road.U3Z Z Z.heap) (O4 : Sta Z Z.heap "jdk/internal/util/Preconditions" "SIOOBE_FORMATTER" "Ljava/util/function/BiFunction;" f) (hf : f.isRef = true) (Hx : own_Str Z h0 x cs) :
    MetFree l (⟨"com/example/blodis/blodis/corpus/LocaleText", "lostBytes", "(Ljava/lang/String;)Z"⟩ : MethodName) (head1 [Jvm.Cond.code (⟨"com/example/blodis/blodis/corpus/LocaleText", "lostBytes", "(Ljava/lang/String;)Z"⟩ : MethodName) prog_10_method_3_code 1 (some .boolean)] ({ frames := 7, cells := 0, slots := 0, locals := 104 } : Room)) (fun a_ U_ => a_ = #[(.ref x)] ∧ Z.Warmed39 U_.vm ∧ U_.heap = h0) (fun _ _ _ _ _ => True) (fun _ U_ o_ V_ => ∃ v_ L_, o_ = .returned v_ ∧ Q_own_lost Z x cs z f h0 n0 v_ V_.heap L_ ∧ FrameEnd U_ o_ V_ L_ ({ frames := 7, cells := 0, slots := 0, locals := 104 } : Room).cells ({ frames := 7, cells := 0, slots := 0, locals := 104 } : Room).slots) := by
  refine MetFree.of_bodySF (plainFor_of_name own_pn4) hisR ?_
  intro p e s m args below meth c s₁ Bd hml0 hP hK
  obtain ⟨rfl, hZ, hh⟩ := hP
  have hx := Bd.exec
  have hby := Bd.bytes
  have hml : c.maxLocals = 1 := hml0
  have hown : s.vm.findClass "com/example/blodis/blodis/corpus/LocaleText" = some m.cls := findClass_of_methodNamed Bd.named
  have hnm := (name_of_methodNamed Bd.named Bd.method).1
  have X0 : Stand p l e ({ frames := 7, cells := 0, slots := 0, locals := 104 } : Room) s m #[(.ref x)] below meth c s₁ [] 0 0 := Stand.of_body Bd
  have e0 : s₁.heap = h0 := by rw [← hh, Bd.state]; rfl
  have N0 := Fr.nil n0
  have KK0 := Keep.refl h0 ([] : List Addr)
  have cc0 : Steps p.tables e below (s₁.setTop (entryFrame m #[(.ref x)] 1)) (s₁.setTop (mkF m 0 #[.val (.ref x)] [])) := XT.entry rfl
  obtain ⟨S0', hS0'⟩ : ∃ S, S = (s₁.setTop (entryFrame m #[(.ref x)] 1)) := ⟨_, rfl⟩
  rw [← hS0'] at cc0
  have w_34 := hw _ (List.mem_of_getElem? (i := 34) rfl)
  have cc21 : Steps p.tables e below S0' (s₁.setTop (mkF m 3 #[.val (.ref x)] [(.int (65533 : Int32)), (.ref x)])) := Steps.trans cc0 (by
    refine XS.aloadN X0.here hx rfl (own_d hby d17_0) rfl rfl ?_
    refine X0.ldcI hx hown (mvT hZ (hw _ (List.mem_of_getElem? (i := 30) rfl))) rfl (own_d hby d17_1) ?_
    exact Steps.refl _)
  obtain ⟨cq22, kq22, qa22, qb22, qc22⟩ := isOf hZ e0 Hx.1
  obtain ⟨_, _, ⟨T22, L22, k22, n22⟩, -, X22, ⟨Lc22, hQ22, l22, y22, z22⟩, st22⟩ := X0.virtualBack hx (y := (⟨"java/lang/String", "indexOf", "(I)I"⟩ : MethodName)) (z := (⟨"java/lang/String", "indexOf", "(I)I"⟩ : MethodName)) hown (mvT hZ (hw _ (List.mem_of_getElem? (i := 31) rfl))) (mvT hZ (hw _ (List.mem_of_getElem? (i := 32) rfl))) (notFace_of_selects (args := #[]) (mvT hZ w_34)) (mvT hZ w_34) (mvT hZ (hw _ (List.mem_of_getElem? (i := 33) rfl))) (by decide) (backOf (W := 0) (own_ix1 l Z a0 hw x cs z f h0 n0 Z0 X00 O2 P5 O3 O4 hf Hx) hZ (hw _ (List.mem_of_getElem? (i := 35) rfl)) (hw _ (List.mem_of_getElem? (i := 6) rfl)) (by decide) (by decide)) qa22 qc22 (g := (mkF m 3 #[.val (.ref x)] [(.int (65533 : Int32)), (.ref x)])) rfl (by rw [hml]; rfl) (Steps.refl _) (argsL := [(.int (65533 : Int32))]) (rest := []) (lenOf own_pd11 rfl) rfl (by show 2 * 0 + _ ≤ _; exact Nat.le_of_eq rfl) (own_d hby d17_3) (fun _ _ => ⟨rfl, e0, Nat.le_of_ble_eq_true rfl, Nat.le_of_ble_eq_true rfl⟩)
  dsimp only [Pt.U, Pt.locs, Pt.cells, Pt.slots] at X22 l22 y22 z22 st22 hQ22
  subst l22 y22 z22
  obtain ⟨rr, rfl, Nq22, eq22, hr⟩ := hQ22
  have N22 := Fr.app N0 Nq22
  have e22 : T22.heap = h0 := eq22
  have cc23 : Steps p.tables e below S0' (T22.setTop (mkF m 6 #[.val (.ref x)] [(.int rr)])) := (Steps.trans cc21 st22)
  rcases hr with ⟨q1, q2⟩ | ⟨q1, q2⟩
  · skip
    have cc24 : Steps p.tables e below S0' (T22.setTop (mkF m 14 #[.val (.ref x)] [(.int 0)])) := Steps.trans cc23 (by
      refine XS.ifYes X22.here hx rfl (pc0 := 6) rfl (own_d hby d17_6) rfl (i0_lt_t q1) (by decide) rfl ?_
      refine iconstV X22.here hx rfl 0 (own_d hby d17_13) (by decide) ?_
      exact Steps.refl _)
    have cE := cc24
    rw [hS0'] at cE
    obtain ⟨fs, hr_, hrun, hended, hW, hsame⟩ := X22.leave (v := some (.int 0)) (fun h => by rw [Bd.returns] at h; cases h)
    refine ⟨_, _, cE.trans (X22.ireturnOut hx Bd.returns (rfl) (by simp) (own_d hby d17_14) hr_), hrun, hended, _, _, rfl, ?_, ⟨_, rfl⟩, hW, hsame.mono (by first | decide | omega) (by first | decide | omega)⟩
    show Q_own_lost Z x cs z f h0 n0 _ T22.heap _
    rw [e22]
    exact ⟨0, rfl, N22, rfl, Or.inl ⟨rfl, q2⟩⟩
  · skip
    have cc24 : Steps p.tables e below S0' (T22.setTop (mkF m 14 #[.val (.ref x)] [(.int 1)])) := Steps.trans cc23 (by
      refine XS.ifNo X22.here hx rfl (own_d hby d17_6) rfl (i0_lt_f q1) ?_
      refine iconstV X22.here hx rfl 1 (own_d hby d17_9) (by decide) ?_
      refine XS.goto X22.here hx rfl (pc0 := 10) rfl (own_d hby d17_10) (by decide) rfl ?_
      exact Steps.refl _)
    have cE := cc24
    rw [hS0'] at cE
    obtain ⟨fs, hr_, hrun, hended, hW, hsame⟩ := X22.leave (v := some (.int 1)) (fun h => by rw [Bd.returns] at h; cases h)
    refine ⟨_, _, cE.trans (X22.ireturnOut hx Bd.returns (rfl) (by simp) (own_d hby d17_14) hr_), hrun, hended, _, _, rfl, ?_, ⟨_, rfl⟩, hW, hsame.mono (by first | decide | omega) (by first | decide | omega)⟩
    show Q_own_lost Z x cs z f h0 n0 _ T22.heap _
    rw [e22]
    exact ⟨1, rfl, N22, rfl, Or.inr ⟨rfl, q2⟩⟩
theorem d18_0 : decode method_2_code 0 = .ok (.iload_n 0, 1) := by decide +kernel
theorem d18_1 : decode method_2_code 1 = .ok (.iconst 3, 1) := by decide +kernel
theorem d18_2 : decode method_2_code 2 = .ok (.iand, 1) := by decide +kernel
theorem d18_3 : decode method_2_code 3 = .ok (.ifCond .ne 6, 3) := by decide +kernel
theorem d18_6 : decode method_2_code 6 = .ok (.ldc 7, 2) := by decide +kernel
theorem d18_8 : decode method_2_code 8 = .ok (.ireturn, 1) := by decide +kernel
theorem d18_9 : decode method_2_code 9 = .ok (.iload_n 0, 1) := by decide +kernel
theorem d18_10 : decode method_2_code 10 = .ok (.iconst 2, 1) := by decide +kernel
theorem d18_11 : decode method_2_code 11 = .ok (.iushr, 1) := by decide +kernel
theorem d18_12 : decode method_2_code 12 = .ok (.i2c, 1) := by decide +kernel
theorem d18_13 : decode method_2_code 13 = .ok (.ireturn, 1) := by decide +kernel
def Q_own_draw (Z : State) (q : Int32) (h0 : Heap) (n0 : Nat) (v : Option Value) (h : Heap) (L : List Loc) : Prop := ∃ c : Int32, v = some (.int c) ∧ Fr n0 L ∧ h = h0 ∧ ¬ c < 0 ∧ ¬ (65535 : Int32) < c
set_option maxRecDepth 65536 in
set_option maxHeartbeats 40000000 in
theorem own_draw (l : Launch) (Z : State) (a0 : Array Value) (hw : ∀ d ∈ tables_1, d.before a0 Z = true) (q : Int32) (h0 : Heap) (n0 : Nat) (Z0 : n0 ≤ h0.size)  :
    MetFree l (⟨"com/example/blodis/blodis/corpus/LocaleTextLostBytesPinLaw", "draw", "(I)C"⟩ : MethodName) (head1 [Jvm.Cond.code (⟨"com/example/blodis/blodis/corpus/LocaleTextLostBytesPinLaw", "draw", "(I)C"⟩ : MethodName) method_2_code 1 (some .char)] ({ frames := 0, cells := 0, slots := 0, locals := 0 } : Room)) (fun a_ U_ => a_ = #[(.int q)] ∧ Z.Warmed39 U_.vm ∧ U_.heap = h0) (fun _ _ _ _ _ => True) (fun _ U_ o_ V_ => ∃ v_ L_, o_ = .returned v_ ∧ Q_own_draw Z q h0 n0 v_ V_.heap L_ ∧ FrameEnd U_ o_ V_ L_ ({ frames := 0, cells := 0, slots := 0, locals := 0 } : Room).cells ({ frames := 0, cells := 0, slots := 0, locals := 0 } : Room).slots) := by
  refine MetFree.of_bodySF (plainFor_of_name own_pn5) hisR ?_
  intro p e s m args below meth c s₁ Bd hml0 hP hK
  obtain ⟨rfl, hZ, hh⟩ := hP
  have hx := Bd.exec
  have hby := Bd.bytes
  have hml : c.maxLocals = 1 := hml0
  have hown : s.vm.findClass "com/example/blodis/blodis/corpus/LocaleTextLostBytesPinLaw" = some m.cls := findClass_of_methodNamed Bd.named
  have hnm := (name_of_methodNamed Bd.named Bd.method).1
  have X0 : Stand p l e ({ frames := 0, cells := 0, slots := 0, locals := 0 } : Room) s m #[(.int q)] below meth c s₁ [] 0 0 := Stand.of_body Bd
  have e0 : s₁.heap = h0 := by rw [← hh, Bd.state]; rfl
  have N0 := Fr.nil n0
  have KK0 := Keep.refl h0 ([] : List Addr)
  have cc0 : Steps p.tables e below (s₁.setTop (entryFrame m #[(.int q)] 1)) (s₁.setTop (mkF m 0 #[.val (.int q)] [])) := XT.entry rfl
  obtain ⟨S0', hS0'⟩ : ∃ S, S = (s₁.setTop (entryFrame m #[(.int q)] 1)) := ⟨_, rfl⟩
  rw [← hS0'] at cc0
  have cc21 : Steps p.tables e below S0' (s₁.setTop (mkF m 3 #[.val (.int q)] [(.int (q &&& (3 : Int32)))])) := Steps.trans cc0 (by
    refine XS.iloadN X0.here hx rfl (own_d hby d18_0) rfl ?_
    refine iconstV X0.here hx rfl 3 (own_d hby d18_1) (by decide) ?_
    refine XS.iand X0.here hx rfl (own_d hby d18_2) rfl ?_
    exact Steps.refl _)
  by_cases hq : q &&& (3 : Int32) = 0
  · skip
    have cc22 : Steps p.tables e below S0' (s₁.setTop (mkF m 8 #[.val (.int q)] [(.int (65533 : Int32))])) := Steps.trans cc21 (by
      refine XS.ifNo X0.here hx rfl (own_d hby d18_3) rfl (i0_ne_f hq) ?_
      refine X0.ldcI hx hown (mvT hZ (hw _ (List.mem_of_getElem? (i := 64) rfl))) rfl (own_d hby d18_6) ?_
      exact Steps.refl _)
    have cE := cc22
    rw [hS0'] at cE
    obtain ⟨fs, hr_, hrun, hended, hW, hsame⟩ := X0.leave (v := some (.int (65533 : Int32))) (fun h => by rw [Bd.returns] at h; cases h)
    refine ⟨_, _, cE.trans (X0.ireturnOut hx Bd.returns (rfl) (by simp) (own_d hby d18_8) hr_), hrun, hended, _, _, rfl, ?_, ⟨_, rfl⟩, hW, hsame.mono (by first | decide | omega) (by first | decide | omega)⟩
    show Q_own_draw Z q h0 n0 _ s₁.heap _
    rw [e0]
    exact ⟨_, rfl, N0, rfl, by decide, by decide⟩
  · skip
    have cc22 : Steps p.tables e below S0' (s₁.setTop (mkF m 13 #[.val (.int q)] [(.int ((XT.ushr q (2 : Int32)).toUInt32.toUInt16.toUInt32.toInt32))])) := Steps.trans cc21 (by
      refine XS.ifYes X0.here hx rfl (pc0 := 3) rfl (own_d hby d18_3) rfl (i0_ne_t hq) (by decide) rfl ?_
      refine XS.iloadN X0.here hx rfl (own_d hby d18_9) rfl ?_
      refine iconstV X0.here hx rfl 2 (own_d hby d18_10) (by decide) ?_
      refine XT.iushr X0.here hx rfl (own_d hby d18_11) rfl ?_
      refine XT.i2c X0.here hx rfl (own_d hby d18_12) rfl ?_
      exact Steps.refl _)
    have cE := cc22
    rw [hS0'] at cE
    obtain ⟨fs, hr_, hrun, hended, hW, hsame⟩ := X0.leave (v := some (.int ((XT.ushr q (2 : Int32)).toUInt32.toUInt16.toUInt32.toInt32))) (fun h => by rw [Bd.returns] at h; cases h)
    refine ⟨_, _, cE.trans (X0.ireturnOut hx Bd.returns (narrow_c _) (by simp) (own_d hby d18_13) hr_), hrun, hended, _, _, rfl, ?_, ⟨_, rfl⟩, hW, hsame.mono (by first | decide | omega) (by first | decide | omega)⟩
    show Q_own_draw Z q h0 n0 _ s₁.heap _
    rw [e0]
    exact ⟨_, rfl, N0, rfl, own_i2c _⟩
def Q_own_law (Z : State) (p1 p2 p3 p4 z : Int32) (f : Value) (h0 : Heap) (n0 : Nat) (v : Option Value) (h : Heap) (L : List Loc) : Prop := v = some (.int 1) ∧ Fr n0 L
set_option maxRecDepth 65536 in
set_option maxHeartbeats 40000000 in
theorem own_law (l : Launch) (Z : State) (a0 : Array Value) (hw : ∀ d ∈ tables_1, d.before a0 Z = true) (ws : List Jvm.Cond) (p1 p2 p3 p4 z : Int32) (f : Value) (h0 : Heap) (n0 : Nat) (Z0 : n0 ≤ h0.size) (X00 : Old Z n0 h0) (O2 : Sta Z Z.heap "java/lang/String" "COMPACT_STRINGS" "Z" (.int z)) (P5 : ¬ z = 0) (O3 : StrChars.Road.U3Z Z Z.heap) (O4 : Sta Z Z.heap "jdk/internal/util/Preconditions" "SIOOBE_FORMATTER" "Ljava/util/function/BiFunction;" f) (hf : f.isRef = true) :
    MetFree l x (head1 (Jvm.Cond.code x code maxLocals ret :: ws) room_1) (fun a_ U_ => a_ = #[(.int p1), (.int p2), (.int p3), (.int p4)] ∧ Z.Warmed39 U_.vm ∧ U_.heap = h0 ∧ CHv Z EL U_.vm h0) (fun _ _ _ _ _ => True) (fun _ U_ o_ V_ => ∃ v_ L_, o_ = .returned v_ ∧ Q_own_law Z p1 p2 p3 p4 z f h0 n0 v_ V_.heap L_ ∧ CHr Z EL U_.vm U_.heap V_.vm V_.heap ∧ ReturnedEndW U_ o_ V_ L_ room_1.cells room_1.slots) := by
  refine MetFree.of_bodySF (plainFor_of_name own_pn5) hisR ?_
  intro p e s m args below meth c s₁ Bd hml0 hP hK
  obtain ⟨rfl, hZ, hh, hCH⟩ := hP
  have hx := Bd.exec
  have hby := Bd.bytes
  have hml : c.maxLocals = 10 := hml0
  have hown : s.vm.findClass "com/example/blodis/blodis/corpus/LocaleTextLostBytesPinLaw" = some m.cls := findClass_of_methodNamed Bd.named
  have hnm := (name_of_methodNamed Bd.named Bd.method).1
  have X0 : Stand p l e room_1 (s.setVm s.vm) m #[(.int p1), (.int p2), (.int p3), (.int p4)] below meth c s₁ [] 0 0 := Stand.of_body Bd
  have e0 : s₁.heap = h0 := by rw [← hh, Bd.state]; rfl
  have N0 := Fr.nil n0
  have KK0 := Keep.refl h0 ([] : List Addr)
  have C0 := CHr.refl hCH
  have hS0 : s.Since s.vm 0 := (State.WarmedH.refl s).since 0
  have hk0 : 0 ≤ h0.size := Nat.zero_le _
  have hEL : EW Z a0 EL := own_EW hw
  have cc0 : Steps p.tables e below (s₁.setTop (entryFrame m #[(.int p1), (.int p2), (.int p3), (.int p4)] maxLocals)) (s₁.setTop (mkF m 0 #[.val (.int p1), .val (.int p2), .val (.int p3), .val (.int p4), .unset, .unset, .unset, .unset, .unset, .unset] [])) := XT.entry rfl
  obtain ⟨S0', hS0'⟩ : ∃ S, S = (s₁.setTop (entryFrame m #[(.int p1), (.int p2), (.int p3), (.int p4)] maxLocals)) := ⟨_, rfl⟩
  rw [← hS0'] at cc0
  have w_0 := hw _ (List.mem_of_getElem? (i := 0) rfl)
  have w_1 := hw _ (List.mem_of_getElem? (i := 1) rfl)
  have w_2 := hw _ (List.mem_of_getElem? (i := 2) rfl)
  have w_3 := hw _ (List.mem_of_getElem? (i := 3) rfl)
  have w_4 := hw _ (List.mem_of_getElem? (i := 4) rfl)
  have w_5 := hw _ (List.mem_of_getElem? (i := 5) rfl)
  have w_6 := hw _ (List.mem_of_getElem? (i := 6) rfl)
  have w_7 := hw _ (List.mem_of_getElem? (i := 7) rfl)
  have w_8 := hw _ (List.mem_of_getElem? (i := 8) rfl)
  have w_9 := hw _ (List.mem_of_getElem? (i := 9) rfl)
  have w_10 := hw _ (List.mem_of_getElem? (i := 10) rfl)
  have w_20 := hw _ (List.mem_of_getElem? (i := 20) rfl)
  have w_21 := hw _ (List.mem_of_getElem? (i := 21) rfl)
  have w_26 := hw _ (List.mem_of_getElem? (i := 26) rfl)
  have w_27 := hw _ (List.mem_of_getElem? (i := 27) rfl)
  have w_28 := hw _ (List.mem_of_getElem? (i := 28) rfl)
  have w_29 := hw _ (List.mem_of_getElem? (i := 29) rfl)
  have w_64 := hw _ (List.mem_of_getElem? (i := 64) rfl)
  have hw_words : ∀ d ∈ StrChars.Road.words, d.before a0 Z = true := fun d hd => hw d ((by decide +kernel : ∀ d ∈ StrChars.Road.words, d ∈ tables_1) d hd)
  have hw_wordsW : ∀ d ∈ StrChars.Road.wordsW, d.before a0 Z = true := fun d hd => hw d ((by decide +kernel : ∀ d ∈ StrChars.Road.wordsW, d ∈ tables_1) d hd)
  have cc21 : Steps p.tables e below S0' (s₁.setTop (mkF m 6 #[.val (.int p1), .val (.int p2), .val (.int p3), .val (.int p4), .val (.int (p1 &&& (3 : Int32))), .unset, .unset, .unset, .unset, .unset] [(.int p2)])) := Steps.trans cc0 (by
    refine XS.iloadN X0.here hx rfl (own_d hby at_0) rfl ?_
    refine iconstV X0.here hx rfl 3 (own_d hby at_1) (by decide) ?_
    refine XS.iand X0.here hx rfl (own_d hby at_2) rfl ?_
    refine XS.istore X0.here hx rfl (own_d hby at_3) rfl rfl ?_
    refine XS.iloadN X0.here hx rfl (own_d hby at_5) rfl ?_
    exact Steps.refl _)
  obtain ⟨_, _, ⟨T22, L22, k22, n22⟩, -, X22, ⟨Lc22, hQ22, l22, y22, z22⟩, st22⟩ := Jvm.LawKit.callS X0 hx (y := (⟨"com/example/blodis/blodis/corpus/LocaleTextLostBytesPinLaw", "draw", "(I)C"⟩ : MethodName)) hown (mvT hZ w_0) (mvT hZ w_1) (mvT hZ w_2) (mvT hZ w_3) (by decide) (backOf (W := 0) (own_draw l Z a0 hw p2 h0 n0 Z0 ) hZ w_3 w_2 (by decide) (by decide)) (g := (mkF m 6 #[.val (.int p1), .val (.int p2), .val (.int p3), .val (.int p4), .val (.int (p1 &&& (3 : Int32))), .unset, .unset, .unset, .unset, .unset] [(.int p2)])) rfl (by rw [hml]; rfl) (argsL := [(.int p2)]) (rest := []) (lenOf own_pd12 rfl) rfl (by show 2 * 0 + _ ≤ _; exact Nat.le_of_eq rfl) (own_d hby at_6) (fun _ _ => ⟨rfl, e0, Nat.le_of_ble_eq_true rfl, Nat.le_of_ble_eq_true rfl⟩)
  dsimp only [Pt.U, Pt.locs, Pt.cells, Pt.slots] at X22 l22 y22 z22 st22 hQ22
  subst l22 y22 z22
  obtain ⟨c0, rfl, Nq22, eq22, h1c0, h2c0⟩ := hQ22
  have N22 := Fr.app N0 Nq22
  have e22 : T22.heap = h0 := eq22
  have g0 : ¬ c0 < 0 ∧ ¬ (65535 : Int32) < c0 := ⟨h1c0, h2c0⟩
  have cc23 : Steps p.tables e below S0' (T22.setTop (mkF m 12 #[.val (.int p1), .val (.int p2), .val (.int p3), .val (.int p4), .val (.int (p1 &&& (3 : Int32))), .val (.int c0), .unset, .unset, .unset, .unset] [(.int p3)])) := Steps.trans (cc21.trans (st22 _ (Steps.refl _))) (by
    refine XS.istore X22.here hx rfl (own_d hby at_9) rfl rfl ?_
    refine XS.iloadN X22.here hx rfl (own_d hby at_11) rfl ?_
    exact Steps.refl _)
  obtain ⟨_, _, ⟨T24, L24, k24, n24⟩, -, X24, ⟨Lc24, hQ24, l24, y24, z24⟩, st24⟩ := Jvm.LawKit.callS X22 hx (y := (⟨"com/example/blodis/blodis/corpus/LocaleTextLostBytesPinLaw", "draw", "(I)C"⟩ : MethodName)) hown (mvT hZ w_0) (mvT hZ w_1) (mvT hZ w_2) (mvT hZ w_3) (by decide) (backOf (W := 0) (own_draw l Z a0 hw p3 h0 n0 Z0 ) hZ w_3 w_2 (by decide) (by decide)) (g := (mkF m 12 #[.val (.int p1), .val (.int p2), .val (.int p3), .val (.int p4), .val (.int (p1 &&& (3 : Int32))), .val (.int c0), .unset, .unset, .unset, .unset] [(.int p3)])) rfl (by rw [hml]; rfl) (argsL := [(.int p3)]) (rest := []) (lenOf own_pd12 rfl) rfl (by show 2 * 0 + _ ≤ _; exact Nat.le_of_eq rfl) (own_d hby at_12) (fun _ _ => ⟨rfl, e22, Nat.le_of_ble_eq_true rfl, Nat.le_of_ble_eq_true rfl⟩)
  dsimp only [Pt.U, Pt.locs, Pt.cells, Pt.slots] at X24 l24 y24 z24 st24 hQ24
  subst l24 y24 z24
  obtain ⟨c1, rfl, Nq24, eq24, h1c1, h2c1⟩ := hQ24
  have N24 := Fr.app N22 Nq24
  have e24 : T24.heap = h0 := eq24
  have g1 : ¬ c1 < 0 ∧ ¬ (65535 : Int32) < c1 := ⟨h1c1, h2c1⟩
  have cc25 : Steps p.tables e below S0' (T24.setTop (mkF m 18 #[.val (.int p1), .val (.int p2), .val (.int p3), .val (.int p4), .val (.int (p1 &&& (3 : Int32))), .val (.int c0), .val (.int c1), .unset, .unset, .unset] [(.int p4)])) := Steps.trans (cc23.trans (st24 _ (Steps.refl _))) (by
    refine XS.istore X24.here hx rfl (own_d hby at_15) rfl rfl ?_
    refine XS.iloadN X24.here hx rfl (own_d hby at_17) rfl ?_
    exact Steps.refl _)
  obtain ⟨_, _, ⟨T26, L26, k26, n26⟩, -, X26, ⟨Lc26, hQ26, l26, y26, z26⟩, st26⟩ := Jvm.LawKit.callS X24 hx (y := (⟨"com/example/blodis/blodis/corpus/LocaleTextLostBytesPinLaw", "draw", "(I)C"⟩ : MethodName)) hown (mvT hZ w_0) (mvT hZ w_1) (mvT hZ w_2) (mvT hZ w_3) (by decide) (backOf (W := 0) (own_draw l Z a0 hw p4 h0 n0 Z0 ) hZ w_3 w_2 (by decide) (by decide)) (g := (mkF m 18 #[.val (.int p1), .val (.int p2), .val (.int p3), .val (.int p4), .val (.int (p1 &&& (3 : Int32))), .val (.int c0), .val (.int c1), .unset, .unset, .unset] [(.int p4)])) rfl (by rw [hml]; rfl) (argsL := [(.int p4)]) (rest := []) (lenOf own_pd12 rfl) rfl (by show 2 * 0 + _ ≤ _; exact Nat.le_of_eq rfl) (own_d hby at_18) (fun _ _ => ⟨rfl, e24, Nat.le_of_ble_eq_true rfl, Nat.le_of_ble_eq_true rfl⟩)
  dsimp only [Pt.U, Pt.locs, Pt.cells, Pt.slots] at X26 l26 y26 z26 st26 hQ26
  subst l26 y26 z26
  obtain ⟨c2, rfl, Nq26, eq26, h1c2, h2c2⟩ := hQ26
  have N26 := Fr.app N24 Nq26
  have e26 : T26.heap = h0 := eq26
  have g2 : ¬ c2 < 0 ∧ ¬ (65535 : Int32) < c2 := ⟨h1c2, h2c2⟩
  have cc27 : Steps p.tables e below S0' (T26.setTop (mkF m 25 #[.val (.int p1), .val (.int p2), .val (.int p3), .val (.int p4), .val (.int (p1 &&& (3 : Int32))), .val (.int c0), .val (.int c1), .val (.int c2), .unset, .unset] [(.int (p1 &&& (3 : Int32)))])) := Steps.trans (cc25.trans (st26 _ (Steps.refl _))) (by
    refine XS.istore X26.here hx rfl (own_d hby at_21) rfl rfl ?_
    refine XS.iload X26.here hx rfl (own_d hby at_23) rfl ?_
    exact Steps.refl _)
  rcases own_and3 p1 with hl | hl | hl | hl
  · skip
    have cz0 : Steps p.tables e below S0' (T26.setTop (mkF m 25 #[.val (.int p1), .val (.int p2), .val (.int p3), .val (.int p4), .val (.int (0 : Int32)), .val (.int c0), .val (.int c1), .val (.int c2), .unset, .unset] [(.int (0 : Int32))])) := by
      have := cc27
      rw [hl] at this
      exact this
    have cc28 : Steps p.tables e below S0' (T26.setTop (mkF m 28 #[.val (.int p1), .val (.int p2), .val (.int p3), .val (.int p4), .val (.int (0 : Int32)), .val (.int c0), .val (.int c1), .val (.int c2), .unset, .unset] [])) := Steps.trans cz0 (by
      refine XS.ifNo X26.here hx rfl (own_d hby at_25) rfl (i0_ne_f rfl) ?_
      exact Steps.refl _)
    obtain ⟨T29, h29, X29, e29, E29, A29, D29, -, st29⟩ := newO X26 hx hZ hown w_4 w_5 w_6 e26 (g := (mkF m 28 #[.val (.int p1), .val (.int p2), .val (.int p3), .val (.int p4), .val (.int (0 : Int32)), .val (.int c0), .val (.int c1), .val (.int c2), .unset, .unset] [])) rfl (own_d hby at_28) (by decide) (by decide)
    obtain ⟨x, g_x⟩ : ∃ z, z = h0.size := ⟨_, rfl⟩
    rw [← g_x] at A29 D29 st29
    have K29 := (Keep.refl h0 ([] : List Addr)).ext E29
    have b_x : h0.size ≤ x := (Nat.le_of_eq g_x.symm)
    have gn_x : n0 ≤ x := Nat.le_trans Z0 b_x
    have s0_x : h0.size ≤ x := Nat.le_trans KK0.1 b_x
    have D30 := CHr.ext E29 C0.1
    have C31 := C0.trans D30
    have sf_x : Safe Z EL s.vm h29 x := Safe.ext E29 C0.1 (Safe.new b_x)
    have KK1 : Keep h0 h29 ([] : List Addr) := KK0.trans K29 all0
    have Zs1 : n0 ≤ h29.size := Nat.le_trans Z0 K29.1
    have F_value_x : Fld Z h29 x "java/lang/String" "value" "[B" .null := D29 (Or.inr w_20) (ty := (.array .byte)) (by decide)
    have F_coder_x : Fld Z h29 x "java/lang/String" "coder" "B" (.int (0 : Int32)) := D29 (Or.inr w_21) (ty := .byte) (by decide)
    have cc32 : Steps p.tables e below S0' (T29.setTop (mkF m 33 #[.val (.int p1), .val (.int p2), .val (.int p3), .val (.int p4), .val (.int (0 : Int32)), .val (.int c0), .val (.int c1), .val (.int c2), .unset, .unset] [(.int 0), (.ref x), (.ref x)])) := Steps.trans (cc28.trans (st29 _ (Steps.refl _))) (by
      refine XS.dup X29.here hx rfl (own_d hby at_31) rfl rfl ?_
      refine iconstV X29.here hx rfl 0 (own_d hby at_32) (by decide) ?_
      exact Steps.refl _)
    obtain ⟨T33, h33, k33, X33, e33, E33, A33, st33⟩ := newP X29 hx hZ (aty := .char) w_7 e29 (g := (mkF m 33 #[.val (.int p1), .val (.int p2), .val (.int p3), .val (.int p4), .val (.int (0 : Int32)), .val (.int c0), .val (.int c1), .val (.int c2), .unset, .unset] [(.int 0), (.ref x), (.ref x)])) rfl (own_d hby at_33) rfl (by decide) (cap := 0) (by decide) (by decide) (by decide) (by decide)
    obtain ⟨b, g_b⟩ : ∃ z, z = h29.size := ⟨_, rfl⟩
    rw [← g_b] at A33 st33
    have K33 := (Keep.refl h29 ([] : List Addr)).ext E33
    have b_b : h29.size ≤ b := (Nat.le_of_eq g_b.symm)
    have gn_b : n0 ≤ b := Nat.le_trans Zs1 b_b
    have s0_b : h0.size ≤ b := Nat.le_trans KK1.1 b_b
    have ne_x_b : x ≠ b := Nat.ne_of_lt (Nat.lt_of_lt_of_le A29.lt b_b)
    have D34 := CHr.ext E33 C31.1
    have C35 := C31.trans D34
    have sf_b : Safe Z EL s.vm h33 b := Safe.ext E33 C31.1 (Safe.new b_b)
    have KK2 : Keep h0 h33 ([] : List Addr) := KK1.trans K33 all0
    have Zs2 : n0 ≤ h33.size := Nat.le_trans Zs1 K33.1
    have V_b : Arv Z h33 b k33 .char (0 : Int32) [] (.int (0 : Int32)) := (Arv.new A33 (by decide)).pad (pad_rep [] (.int (0 : Int32)) 0)
    have cc37 : Steps p.tables e below S0' (T33.setTop (mkF m 35 #[.val (.int p1), .val (.int p2), .val (.int p3), .val (.int p4), .val (.int (0 : Int32)), .val (.int c0), .val (.int c1), .val (.int c2), .unset, .unset] [(.ref b), (.ref x), (.ref x)])) := (cc32.trans (st33 _ (Steps.refl _)))
    have fa36 : Exa Z h33 x "java/lang/String" := (A29.keep K33)
    have fa38 : Fld Z h33 x "java/lang/String" "value" "[B" .null := (F_value_x.keep K33 nin0)
    have fa39 : Fld Z h33 x "java/lang/String" "coder" "B" (.int (0 : Int32)) := (F_coder_x.keep K33 nin0)
    have fa40 : Old Z n0 h33 := ((X00.keep K29 all0).keep K33 all0)
    have hp : ∀ c' ∈ ([] : List Int32), ¬ c' < 0 ∧ ¬ (65535 : Int32) < c' := by
      intro c' hc'
      cases hc'
    obtain ⟨_, _, ⟨T41, L41, k41, n41⟩, -, X41, hs41, gr41, ⟨Lc41, hQ41, l41, y41, z41, CH41⟩, st41⟩ := X33.specialBackS hx (y := (⟨"java/lang/String", "<init>", "([C)V"⟩ : MethodName)) rfl hown (mvT hZ w_8) (mvT hZ w_9) (mvT hZ w_10) (by decide) (backOfSH (W := 1) (own_new1e l Z a0 hw x b _ h33 n0 Zs2 fa36 fa38 fa39 gn_x V_b) hZ w_10 w_6 (by decide) (by decide) hEL C35.1) (g := (mkF m 35 #[.val (.int p1), .val (.int p2), .val (.int p3), .val (.int p4), .val (.int (0 : Int32)), .val (.int c0), .val (.int c1), .val (.int c2), .unset, .unset] [(.ref b), (.ref x), (.ref x)])) rfl (by rw [hml]; rfl) (Steps.refl _) (a := x) (argsL := [(.ref b)]) (rest := [(.ref x)]) (lenOf own_pd13 rfl) rfl (by show 2 * 0 + _ ≤ _; exact Nat.le_of_eq rfl) (own_d hby at_35) (fun _ _ => ⟨rfl, e33, Nat.le_of_ble_eq_true rfl, Nat.le_of_ble_eq_true rfl⟩)
    dsimp only [Pt.U, Pt.locs, Pt.cells, Pt.slots] at X41 l41 y41 z41 st41 hQ41 hs41 gr41 CH41
    subst l41 y41 z41
    obtain ⟨rfl, Nq41, Kq41, Eq41, Cq41, t, kb, q141, q241, Vq41, Aq41⟩ := hQ41
    obtain ⟨Xr41, hS41, hZ41, hown41⟩ := rebS hS0 (by rw [e33]; exact (Nat.le_trans (Nat.le_trans hk0 K29.1) K33.1)) X41 hs41 gr41 hZ hown
    have hk41 : T41.heap.size ≤ T41.heap.size := Nat.le_refl _
    have C41 := C35.trans CH41
    have N41 := Fr.app N26 Nq41
    have KK3 : Keep h0 T41.heap ([] : List Addr) := KK2.trans Kq41 (allS (Or.inr s0_x) all0)
    have Zs3 : n0 ≤ T41.heap.size := Nat.le_trans Zs2 Kq41.1
    have e41 : T41.heap = T41.heap := rfl
    have Hx : own_Str Z T41.heap x [] := ⟨Eq41, hp, by simp, 0, 0, [], t, kb, Or.inl ⟨rfl, rfl, rfl, fun c hc => by cases hc⟩, Cq41, Vq41, Aq41⟩
    have cc43 : Steps p.tables e below S0' (T41.setTop (mkF m 180 #[.val (.int p1), .val (.int p2), .val (.int p3), .val (.int p4), .val (.int (0 : Int32)), .val (.int c0), .val (.int c1), .val (.int c2), .val (.ref x), .val (.int 0)] [(.ref x)])) := Steps.trans (Steps.trans cc37 st41) (by
      refine XS.astore Xr41.here hx rfl (own_d hby at_38) rfl rfl rfl ?_
      refine XS.goto Xr41.here hx rfl (pc0 := 40) rfl (own_d hby at_40) (by decide) rfl ?_
      refine iconstV Xr41.here hx rfl 0 (own_d hby at_127) (by decide) ?_
      refine XS.istore Xr41.here hx rfl (own_d hby at_128) rfl rfl ?_
      refine XS.iload Xr41.here hx rfl (own_d hby at_130) rfl ?_
      refine iconstV Xr41.here hx rfl 1 (own_d hby at_132) (by decide) ?_
      refine XS.icmpYes Xr41.here hx rfl (pc0 := 133) rfl (own_d hby at_133) rfl (ii_lt_t (by decide)) (by decide) rfl ?_
      refine XS.iload Xr41.here hx rfl (own_d hby at_146) rfl ?_
      refine iconstV Xr41.here hx rfl 2 (own_d hby at_148) (by decide) ?_
      refine XS.icmpYes Xr41.here hx rfl (pc0 := 149) rfl (own_d hby at_149) rfl (ii_lt_t (by decide)) (by decide) rfl ?_
      refine XS.iload Xr41.here hx rfl (own_d hby at_162) rfl ?_
      refine iconstV Xr41.here hx rfl 3 (own_d hby at_164) (by decide) ?_
      refine XS.icmpYes Xr41.here hx rfl (pc0 := 165) rfl (own_d hby at_165) rfl (ii_lt_t (by decide)) (by decide) rfl ?_
      refine XS.aload Xr41.here hx rfl (own_d hby at_178) rfl rfl ?_
      exact Steps.refl _)
    have fa42 : Old Z n0 T41.heap := (fa40.keep Kq41 (allS gn_x all0))
    obtain ⟨_, _, ⟨T44, L44, k44, n44⟩, -, X44, ⟨Lc44, hQ44, l44, y44, z44⟩, st44⟩ := Jvm.LawKit.callS Xr41 hx (y := (⟨"com/example/blodis/blodis/corpus/LocaleText", "lostBytes", "(Ljava/lang/String;)Z"⟩ : MethodName)) hown41 (mvT hZ41 w_26) (mvT hZ41 w_27) (mvT hZ41 w_28) (mvT hZ41 w_29) (by decide) (backOf (W := 0) (own_lost l Z a0 hw x ([] : List Int32) z f T41.heap n0 Zs3 fa42 O2 P5 O3 O4 hf Hx) hZ41 w_29 w_28 (by decide) (by decide)) (g := (mkF m 180 #[.val (.int p1), .val (.int p2), .val (.int p3), .val (.int p4), .val (.int (0 : Int32)), .val (.int c0), .val (.int c1), .val (.int c2), .val (.ref x), .val (.int 0)] [(.ref x)])) rfl (by rw [hml]; rfl) (argsL := [(.ref x)]) (rest := []) (lenOf own_pd14 rfl) rfl (by show 2 * 0 + _ ≤ _; exact Nat.le_of_eq rfl) (own_d hby at_180) (fun _ _ => ⟨rfl, e41, Nat.le_of_ble_eq_true rfl, Nat.le_of_ble_eq_true rfl⟩)
    dsimp only [Pt.U, Pt.locs, Pt.cells, Pt.slots] at X44 l44 y44 z44 st44 hQ44
    subst l44 y44 z44
    obtain ⟨rr, rfl, Nq44, eq44, hr⟩ := hQ44
    have N44 := Fr.app N41 Nq44
    have e44 : T44.heap = T41.heap := eq44
    have cc45 : Steps p.tables e below S0' (T44.setTop (mkF m 185 #[.val (.int p1), .val (.int p2), .val (.int p3), .val (.int p4), .val (.int (0 : Int32)), .val (.int c0), .val (.int c1), .val (.int c2), .val (.ref x), .val (.int 0)] [(.int 0), (.int rr)])) := Steps.trans (cc43.trans (st44 _ (Steps.refl _))) (by
      refine XS.iload X44.here hx rfl (own_d hby at_183) rfl ?_
      exact Steps.refl _)
    obtain rfl : rr = 0 := hr.elim (fun q => q.1) (fun q => absurd q.2 (by simp))
    have cc46 : Steps p.tables e below S0' (T44.setTop (mkF m 193 #[.val (.int p1), .val (.int p2), .val (.int p3), .val (.int p4), .val (.int (0 : Int32)), .val (.int c0), .val (.int c1), .val (.int c2), .val (.ref x), .val (.int 0)] [(.int 1)])) := Steps.trans cc45 (by
      refine XS.icmpNo X44.here hx rfl (own_d hby at_185) rfl (ii_ne_f rfl) ?_
      refine iconstV X44.here hx rfl 1 (own_d hby at_188) (by decide) ?_
      refine XS.goto X44.here hx rfl (pc0 := 189) rfl (own_d hby at_189) (by decide) rfl ?_
      exact Steps.refl _)
    have cE := cc46
    rw [hS0'] at cE
    obtain ⟨fs, hr_, hrun, hended, hE⟩ := X44.leaveW hS41 (by rw [e44]; exact hk41) (v := some (.int 1)) (fun h => by rw [Bd.returns] at h; cases h)
    have CE := C41.trans (CHv.at X44 hZ41 hEL C41.1)
    refine ⟨_, _, cE.trans (X44.ireturnOut hx Bd.returns (rfl) (by simp) (own_d hby at_193) hr_), hrun, hended, _, _, rfl, ?_, ?_, hE.1, hE.2.1, hE.2.2.1, hE.2.2.2.mono (by first | decide | omega) (by first | decide | omega)⟩
    · show Q_own_law Z p1 p2 p3 p4 z f h0 n0 _ T44.heap _
      rw [e44]
      exact ⟨rfl, N44⟩
    · rw [hh]
      show CHr Z EL s.vm h0 T44.vm T44.heap
      rw [e44]
      exact CE
  · skip
    have cz0 : Steps p.tables e below S0' (T26.setTop (mkF m 25 #[.val (.int p1), .val (.int p2), .val (.int p3), .val (.int p4), .val (.int (1 : Int32)), .val (.int c0), .val (.int c1), .val (.int c2), .unset, .unset] [(.int (1 : Int32))])) := by
      have := cc27
      rw [hl] at this
      exact this
    have cc28 : Steps p.tables e below S0' (T26.setTop (mkF m 49 #[.val (.int p1), .val (.int p2), .val (.int p3), .val (.int p4), .val (.int (1 : Int32)), .val (.int c0), .val (.int c1), .val (.int c2), .unset, .unset] [])) := Steps.trans cz0 (by
      refine XS.ifYes X26.here hx rfl (pc0 := 25) rfl (own_d hby at_25) rfl (i0_ne_t (by decide)) (by decide) rfl ?_
      refine XS.iload X26.here hx rfl (own_d hby at_43) rfl ?_
      refine iconstV X26.here hx rfl 1 (own_d hby at_45) (by decide) ?_
      refine XS.icmpNo X26.here hx rfl (own_d hby at_46) rfl (ii_ne_f (by decide)) ?_
      exact Steps.refl _)
    obtain ⟨T29, h29, X29, e29, E29, A29, D29, -, st29⟩ := newO X26 hx hZ hown w_4 w_5 w_6 e26 (g := (mkF m 49 #[.val (.int p1), .val (.int p2), .val (.int p3), .val (.int p4), .val (.int (1 : Int32)), .val (.int c0), .val (.int c1), .val (.int c2), .unset, .unset] [])) rfl (own_d hby at_49) (by decide) (by decide)
    obtain ⟨x, g_x⟩ : ∃ z, z = h0.size := ⟨_, rfl⟩
    rw [← g_x] at A29 D29 st29
    have K29 := (Keep.refl h0 ([] : List Addr)).ext E29
    have b_x : h0.size ≤ x := (Nat.le_of_eq g_x.symm)
    have gn_x : n0 ≤ x := Nat.le_trans Z0 b_x
    have s0_x : h0.size ≤ x := Nat.le_trans KK0.1 b_x
    have D30 := CHr.ext E29 C0.1
    have C31 := C0.trans D30
    have sf_x : Safe Z EL s.vm h29 x := Safe.ext E29 C0.1 (Safe.new b_x)
    have KK1 : Keep h0 h29 ([] : List Addr) := KK0.trans K29 all0
    have Zs1 : n0 ≤ h29.size := Nat.le_trans Z0 K29.1
    have F_value_x : Fld Z h29 x "java/lang/String" "value" "[B" .null := D29 (Or.inr w_20) (ty := (.array .byte)) (by decide)
    have F_coder_x : Fld Z h29 x "java/lang/String" "coder" "B" (.int (0 : Int32)) := D29 (Or.inr w_21) (ty := .byte) (by decide)
    have cc32 : Steps p.tables e below S0' (T29.setTop (mkF m 54 #[.val (.int p1), .val (.int p2), .val (.int p3), .val (.int p4), .val (.int (1 : Int32)), .val (.int c0), .val (.int c1), .val (.int c2), .unset, .unset] [(.int 1), (.ref x), (.ref x)])) := Steps.trans (cc28.trans (st29 _ (Steps.refl _))) (by
      refine XS.dup X29.here hx rfl (own_d hby at_52) rfl rfl ?_
      refine iconstV X29.here hx rfl 1 (own_d hby at_53) (by decide) ?_
      exact Steps.refl _)
    obtain ⟨T33, h33, k33, X33, e33, E33, A33, st33⟩ := newP X29 hx hZ (aty := .char) w_7 e29 (g := (mkF m 54 #[.val (.int p1), .val (.int p2), .val (.int p3), .val (.int p4), .val (.int (1 : Int32)), .val (.int c0), .val (.int c1), .val (.int c2), .unset, .unset] [(.int 1), (.ref x), (.ref x)])) rfl (own_d hby at_54) rfl (by decide) (cap := 1) (by decide) (by decide) (by decide) (by decide)
    obtain ⟨b, g_b⟩ : ∃ z, z = h29.size := ⟨_, rfl⟩
    rw [← g_b] at A33 st33
    have K33 := (Keep.refl h29 ([] : List Addr)).ext E33
    have b_b : h29.size ≤ b := (Nat.le_of_eq g_b.symm)
    have gn_b : n0 ≤ b := Nat.le_trans Zs1 b_b
    have s0_b : h0.size ≤ b := Nat.le_trans KK1.1 b_b
    have ne_x_b : x ≠ b := Nat.ne_of_lt (Nat.lt_of_lt_of_le A29.lt b_b)
    have D34 := CHr.ext E33 C31.1
    have C35 := C31.trans D34
    have sf_b : Safe Z EL s.vm h33 b := Safe.ext E33 C31.1 (Safe.new b_b)
    have KK2 : Keep h0 h33 ([] : List Addr) := KK1.trans K33 all0
    have Zs2 : n0 ≤ h33.size := Nat.le_trans Zs1 K33.1
    have V_b : Arv Z h33 b k33 .char (1 : Int32) [(.int (0 : Int32))] (.int (0 : Int32)) := (Arv.new A33 (by decide)).pad (pad_rep [] (.int (0 : Int32)) 1)
    have cc36 : Steps p.tables e below S0' (T33.setTop (mkF m 60 #[.val (.int p1), .val (.int p2), .val (.int p3), .val (.int p4), .val (.int (1 : Int32)), .val (.int c0), .val (.int c1), .val (.int c2), .unset, .unset] [(.int c0), (.int 0), (.ref b), (.ref b), (.ref x), (.ref x)])) := Steps.trans (cc32.trans (st33 _ (Steps.refl _))) (by
      refine XS.dup X33.here hx rfl (own_d hby at_56) rfl rfl ?_
      refine iconstV X33.here hx rfl 0 (own_d hby at_57) (by decide) ?_
      refine XS.iload X33.here hx rfl (own_d hby at_58) rfl ?_
      exact Steps.refl _)
    obtain ⟨clu37, Aru37, qu37, Su37, Ngu37, Hsu37, Gsu37⟩ := id V_b
    have inu37 : ¬ ((0 : Int32) < 0 ∨ clu37.slots.size ≤ (0 : Int32).toNatClampNeg) := inb_of Su37 ⟨by decide, by decide⟩
    obtain ⟨T38, h38, X38, e38, W38, st38⟩ := stC X33 hx hZ e33 Aru37 (j := (0 : Int32)) inu37 (g := (mkF m 60 #[.val (.int p1), .val (.int p2), .val (.int p3), .val (.int p4), .val (.int (1 : Int32)), .val (.int c0), .val (.int c1), .val (.int c2), .unset, .unset] [(.int c0), (.int 0), (.ref b), (.ref b), (.ref x), (.ref x)])) rfl rfl (own_d hby at_60)
    have K38 := Keep.of_wr W38
    have N38 := Fr.snoc X38 N26 gn_b
    have D39 := CHr.wr W38 sf_b C35.1
    have C40 := C35.trans D39
    have KK3 : Keep h0 h38 ([] : List Addr) := KK2.trans K38 (allS (Or.inr s0_b) all0)
    have Zs3 : n0 ≤ h38.size := Nat.le_trans Zs2 K38.1
    have V38 : Arv Z h38 b k33 .char (1 : Int32) ([(.int (nar .char c0))]) (.int (0 : Int32)) := Arv.set Aru37 qu37 Su37 Ngu37 Hsu37 Gsu37 (fits_nar_char _) W38 0 rfl (Nat.le_of_ble_eq_true rfl)
    have cc42 : Steps p.tables e below S0' (T38.setTop (mkF m 61 #[.val (.int p1), .val (.int p2), .val (.int p3), .val (.int p4), .val (.int (1 : Int32)), .val (.int c0), .val (.int c1), .val (.int c2), .unset, .unset] [(.ref b), (.ref x), (.ref x)])) := (cc36.trans (st38 _ (Steps.refl _)))
    have fa41 : Exa Z h38 x "java/lang/String" := ((A29.keep K33).keep K38)
    have fa43 : Fld Z h38 x "java/lang/String" "value" "[B" .null := ((F_value_x.keep K33 nin0).keep K38 (ninS ne_x_b nin0))
    have fa44 : Fld Z h38 x "java/lang/String" "coder" "B" (.int (0 : Int32)) := ((F_coder_x.keep K33 nin0).keep K38 (ninS ne_x_b nin0))
    have fa45 : Old Z n0 h38 := (((X00.keep K29 all0).keep K33 all0).keep K38 (allS gn_b all0))
    have hp : ∀ c' ∈ ([c0] : List Int32), ¬ c' < 0 ∧ ¬ (65535 : Int32) < c' := by
      intro c' hc'
      simp only [List.mem_cons, List.not_mem_nil, or_false] at hc'
      rcases hc' with rfl <;> assumption
    obtain ⟨_, _, ⟨T46, L46, k46, n46⟩, -, X46, ⟨Lc46, hQ46, l46, y46, z46⟩, st46⟩ := X38.specialBack hx (y := (⟨"java/lang/String", "<init>", "([C)V"⟩ : MethodName)) rfl hown (mvT hZ w_8) (mvT hZ w_9) (mvT hZ w_10) (by decide) (StrChars.Road.backT (W := 1) hZ hw_words hw_wordsW (kI := 4) w_5 (cs := ([c0] : List Int32)) (n := 1) gn_x Zs3 fa41 fa43 fa44 (own_arv_eq V38 (by simp only [own_narc g0, own_narc g1, own_narc g2]; rfl) : Arv Z h38 b _ .char (1 : Int32) ((([c0] : List Int32)).map Value.int) (.int (0 : Int32))) (O2.ext fa45.2) P5 (O3.ext fa45.2) rfl rfl (by decide) (by decide) (fun c hc => (hp c hc).1) (by decide) (by decide)) (g := (mkF m 61 #[.val (.int p1), .val (.int p2), .val (.int p3), .val (.int p4), .val (.int (1 : Int32)), .val (.int c0), .val (.int c1), .val (.int c2), .unset, .unset] [(.ref b), (.ref x), (.ref x)])) rfl (by rw [hml]; rfl) (Steps.refl _) (a := x) (argsL := [(.ref b)]) (rest := [(.ref x)]) (lenOf own_pd13 rfl) rfl (by show 2 * 0 + _ ≤ _; exact Nat.le_of_eq rfl) (own_d hby at_61) (fun _ _ => ⟨rfl, e38, Nat.le_of_ble_eq_true rfl, Nat.le_of_ble_eq_true rfl⟩)
    dsimp only [Pt.U, Pt.locs, Pt.cells, Pt.slots] at X46 l46 y46 z46 st46 hQ46
    subst l46 y46 z46
    obtain ⟨rfl, Nq46, Kq46, Eq46, cd, N2, vs, t, kb, hcd, Cq46, g146, g246, g346, Vq46, Aq46⟩ := hQ46
    have N46 := Fr.app N38 Nq46
    have sf47 := D34.safe A29.lt sf_x
    have lt48 := Nat.lt_of_lt_of_le A29.lt K33.1
    have sf49 := D39.safe lt48 sf47
    have lt50 := Nat.lt_of_lt_of_le lt48 K38.1
    have D51 := CHr.keep Kq46 (sfS sf49 sf0) C40.1
    have C52 := C40.trans D51
    have KK4 : Keep h0 T46.heap ([] : List Addr) := KK3.trans Kq46 (allS (Or.inr s0_x) all0)
    have Zs4 : n0 ≤ T46.heap.size := Nat.le_trans Zs3 Kq46.1
    have e46 : T46.heap = T46.heap := rfl
    have Hx : own_Str Z T46.heap x ([c0] : List Int32) := ⟨Eq46, hp, by simp, cd, N2, vs, t, kb, hcd, Cq46, Vq46, Aq46⟩
    have cc53 : Steps p.tables e below S0' (T46.setTop (mkF m 140 #[.val (.int p1), .val (.int p2), .val (.int p3), .val (.int p4), .val (.int (1 : Int32)), .val (.int c0), .val (.int c1), .val (.int c2), .val (.ref x), .val (.int 0)] [(.int (65533 : Int32)), (.int c0)])) := Steps.trans (Steps.trans cc42 st46) (by
      refine XS.astore X46.here hx rfl (own_d hby at_64) rfl rfl rfl ?_
      refine XS.goto X46.here hx rfl (pc0 := 66) rfl (own_d hby at_66) (by decide) rfl ?_
      refine iconstV X46.here hx rfl 0 (own_d hby at_127) (by decide) ?_
      refine XS.istore X46.here hx rfl (own_d hby at_128) rfl rfl ?_
      refine XS.iload X46.here hx rfl (own_d hby at_130) rfl ?_
      refine iconstV X46.here hx rfl 1 (own_d hby at_132) (by decide) ?_
      refine XS.icmpNo X46.here hx rfl (own_d hby at_133) rfl (ii_lt_f (by decide)) ?_
      refine XS.iload X46.here hx rfl (own_d hby at_136) rfl ?_
      refine X46.ldcI hx hown (mvT hZ w_64) rfl (own_d hby at_138) ?_
      exact Steps.refl _)
    by_cases e0 : c0 = 65533
    · skip
      have cc55 : Steps p.tables e below S0' (T46.setTop (mkF m 180 #[.val (.int p1), .val (.int p2), .val (.int p3), .val (.int p4), .val (.int (1 : Int32)), .val (.int c0), .val (.int c1), .val (.int c2), .val (.ref x), .val (.int 1)] [(.ref x)])) := Steps.trans cc53 (by
        refine XS.icmpNo X46.here hx rfl (own_d hby at_140) rfl (ii_ne_f e0) ?_
        refine iconstV X46.here hx rfl 1 (own_d hby at_143) (by decide) ?_
        refine XS.istore X46.here hx rfl (own_d hby at_144) rfl rfl ?_
        refine XS.iload X46.here hx rfl (own_d hby at_146) rfl ?_
        refine iconstV X46.here hx rfl 2 (own_d hby at_148) (by decide) ?_
        refine XS.icmpYes X46.here hx rfl (pc0 := 149) rfl (own_d hby at_149) rfl (ii_lt_t (by decide)) (by decide) rfl ?_
        refine XS.iload X46.here hx rfl (own_d hby at_162) rfl ?_
        refine iconstV X46.here hx rfl 3 (own_d hby at_164) (by decide) ?_
        refine XS.icmpYes X46.here hx rfl (pc0 := 165) rfl (own_d hby at_165) rfl (ii_lt_t (by decide)) (by decide) rfl ?_
        refine XS.aload X46.here hx rfl (own_d hby at_178) rfl rfl ?_
        exact Steps.refl _)
      have fa54 : Old Z n0 T46.heap := (fa45.keep Kq46 (allS gn_x all0))
      obtain ⟨_, _, ⟨T56, L56, k56, n56⟩, -, X56, ⟨Lc56, hQ56, l56, y56, z56⟩, st56⟩ := Jvm.LawKit.callS X46 hx (y := (⟨"com/example/blodis/blodis/corpus/LocaleText", "lostBytes", "(Ljava/lang/String;)Z"⟩ : MethodName)) hown (mvT hZ w_26) (mvT hZ w_27) (mvT hZ w_28) (mvT hZ w_29) (by decide) (backOf (W := 0) (own_lost l Z a0 hw x ([c0] : List Int32) z f T46.heap n0 Zs4 fa54 O2 P5 O3 O4 hf Hx) hZ w_29 w_28 (by decide) (by decide)) (g := (mkF m 180 #[.val (.int p1), .val (.int p2), .val (.int p3), .val (.int p4), .val (.int (1 : Int32)), .val (.int c0), .val (.int c1), .val (.int c2), .val (.ref x), .val (.int 1)] [(.ref x)])) rfl (by rw [hml]; rfl) (argsL := [(.ref x)]) (rest := []) (lenOf own_pd14 rfl) rfl (by show 2 * 0 + _ ≤ _; exact Nat.le_of_eq rfl) (own_d hby at_180) (fun _ _ => ⟨rfl, e46, Nat.le_of_ble_eq_true rfl, Nat.le_of_ble_eq_true rfl⟩)
      dsimp only [Pt.U, Pt.locs, Pt.cells, Pt.slots] at X56 l56 y56 z56 st56 hQ56
      subst l56 y56 z56
      obtain ⟨rr, rfl, Nq56, eq56, hr⟩ := hQ56
      have N56 := Fr.app N46 Nq56
      have e56 : T56.heap = T46.heap := eq56
      have cc57 : Steps p.tables e below S0' (T56.setTop (mkF m 185 #[.val (.int p1), .val (.int p2), .val (.int p3), .val (.int p4), .val (.int (1 : Int32)), .val (.int c0), .val (.int c1), .val (.int c2), .val (.ref x), .val (.int 1)] [(.int 1), (.int rr)])) := Steps.trans (cc55.trans (st56 _ (Steps.refl _))) (by
        refine XS.iload X56.here hx rfl (own_d hby at_183) rfl ?_
        exact Steps.refl _)
      obtain rfl : rr = 1 := hr.elim (fun q => absurd (by simp [e0]) q.2) (fun q => q.1)
      have cc58 : Steps p.tables e below S0' (T56.setTop (mkF m 193 #[.val (.int p1), .val (.int p2), .val (.int p3), .val (.int p4), .val (.int (1 : Int32)), .val (.int c0), .val (.int c1), .val (.int c2), .val (.ref x), .val (.int 1)] [(.int 1)])) := Steps.trans cc57 (by
        refine XS.icmpNo X56.here hx rfl (own_d hby at_185) rfl (ii_ne_f rfl) ?_
        refine iconstV X56.here hx rfl 1 (own_d hby at_188) (by decide) ?_
        refine XS.goto X56.here hx rfl (pc0 := 189) rfl (own_d hby at_189) (by decide) rfl ?_
        exact Steps.refl _)
      have cE := cc58
      rw [hS0'] at cE
      obtain ⟨fs, hr_, hrun, hended, hE⟩ := X56.leaveW hS0 (by rw [e56]; exact (Nat.le_trans (Nat.le_trans (Nat.le_trans (Nat.le_trans hk0 K29.1) K33.1) K38.1) Kq46.1)) (v := some (.int 1)) (fun h => by rw [Bd.returns] at h; cases h)
      have CE := C52.trans (CHv.at X56 hZ hEL C52.1)
      refine ⟨_, _, cE.trans (X56.ireturnOut hx Bd.returns (rfl) (by simp) (own_d hby at_193) hr_), hrun, hended, _, _, rfl, ?_, ?_, hE.1, hE.2.1, hE.2.2.1, hE.2.2.2.mono (by first | decide | omega) (by first | decide | omega)⟩
      · show Q_own_law Z p1 p2 p3 p4 z f h0 n0 _ T56.heap _
        rw [e56]
        exact ⟨rfl, N56⟩
      · rw [hh]
        show CHr Z EL s.vm h0 T56.vm T56.heap
        rw [e56]
        exact CE
    · skip
      have cc55 : Steps p.tables e below S0' (T46.setTop (mkF m 180 #[.val (.int p1), .val (.int p2), .val (.int p3), .val (.int p4), .val (.int (1 : Int32)), .val (.int c0), .val (.int c1), .val (.int c2), .val (.ref x), .val (.int 0)] [(.ref x)])) := Steps.trans cc53 (by
        refine XS.icmpYes X46.here hx rfl (pc0 := 140) rfl (own_d hby at_140) rfl (ii_ne_t e0) (by decide) rfl ?_
        refine XS.iload X46.here hx rfl (own_d hby at_146) rfl ?_
        refine iconstV X46.here hx rfl 2 (own_d hby at_148) (by decide) ?_
        refine XS.icmpYes X46.here hx rfl (pc0 := 149) rfl (own_d hby at_149) rfl (ii_lt_t (by decide)) (by decide) rfl ?_
        refine XS.iload X46.here hx rfl (own_d hby at_162) rfl ?_
        refine iconstV X46.here hx rfl 3 (own_d hby at_164) (by decide) ?_
        refine XS.icmpYes X46.here hx rfl (pc0 := 165) rfl (own_d hby at_165) rfl (ii_lt_t (by decide)) (by decide) rfl ?_
        refine XS.aload X46.here hx rfl (own_d hby at_178) rfl rfl ?_
        exact Steps.refl _)
      have fa54 : Old Z n0 T46.heap := (fa45.keep Kq46 (allS gn_x all0))
      obtain ⟨_, _, ⟨T56, L56, k56, n56⟩, -, X56, ⟨Lc56, hQ56, l56, y56, z56⟩, st56⟩ := Jvm.LawKit.callS X46 hx (y := (⟨"com/example/blodis/blodis/corpus/LocaleText", "lostBytes", "(Ljava/lang/String;)Z"⟩ : MethodName)) hown (mvT hZ w_26) (mvT hZ w_27) (mvT hZ w_28) (mvT hZ w_29) (by decide) (backOf (W := 0) (own_lost l Z a0 hw x ([c0] : List Int32) z f T46.heap n0 Zs4 fa54 O2 P5 O3 O4 hf Hx) hZ w_29 w_28 (by decide) (by decide)) (g := (mkF m 180 #[.val (.int p1), .val (.int p2), .val (.int p3), .val (.int p4), .val (.int (1 : Int32)), .val (.int c0), .val (.int c1), .val (.int c2), .val (.ref x), .val (.int 0)] [(.ref x)])) rfl (by rw [hml]; rfl) (argsL := [(.ref x)]) (rest := []) (lenOf own_pd14 rfl) rfl (by show 2 * 0 + _ ≤ _; exact Nat.le_of_eq rfl) (own_d hby at_180) (fun _ _ => ⟨rfl, e46, Nat.le_of_ble_eq_true rfl, Nat.le_of_ble_eq_true rfl⟩)
      dsimp only [Pt.U, Pt.locs, Pt.cells, Pt.slots] at X56 l56 y56 z56 st56 hQ56
      subst l56 y56 z56
      obtain ⟨rr, rfl, Nq56, eq56, hr⟩ := hQ56
      have N56 := Fr.app N46 Nq56
      have e56 : T56.heap = T46.heap := eq56
      have cc57 : Steps p.tables e below S0' (T56.setTop (mkF m 185 #[.val (.int p1), .val (.int p2), .val (.int p3), .val (.int p4), .val (.int (1 : Int32)), .val (.int c0), .val (.int c1), .val (.int c2), .val (.ref x), .val (.int 0)] [(.int 0), (.int rr)])) := Steps.trans (cc55.trans (st56 _ (Steps.refl _))) (by
        refine XS.iload X56.here hx rfl (own_d hby at_183) rfl ?_
        exact Steps.refl _)
      obtain rfl : rr = 0 := hr.elim (fun q => q.1) (fun q => absurd q.2 (by simp [Ne.symm e0]))
      have cc58 : Steps p.tables e below S0' (T56.setTop (mkF m 193 #[.val (.int p1), .val (.int p2), .val (.int p3), .val (.int p4), .val (.int (1 : Int32)), .val (.int c0), .val (.int c1), .val (.int c2), .val (.ref x), .val (.int 0)] [(.int 1)])) := Steps.trans cc57 (by
        refine XS.icmpNo X56.here hx rfl (own_d hby at_185) rfl (ii_ne_f rfl) ?_
        refine iconstV X56.here hx rfl 1 (own_d hby at_188) (by decide) ?_
        refine XS.goto X56.here hx rfl (pc0 := 189) rfl (own_d hby at_189) (by decide) rfl ?_
        exact Steps.refl _)
      have cE := cc58
      rw [hS0'] at cE
      obtain ⟨fs, hr_, hrun, hended, hE⟩ := X56.leaveW hS0 (by rw [e56]; exact (Nat.le_trans (Nat.le_trans (Nat.le_trans (Nat.le_trans hk0 K29.1) K33.1) K38.1) Kq46.1)) (v := some (.int 1)) (fun h => by rw [Bd.returns] at h; cases h)
      have CE := C52.trans (CHv.at X56 hZ hEL C52.1)
      refine ⟨_, _, cE.trans (X56.ireturnOut hx Bd.returns (rfl) (by simp) (own_d hby at_193) hr_), hrun, hended, _, _, rfl, ?_, ?_, hE.1, hE.2.1, hE.2.2.1, hE.2.2.2.mono (by first | decide | omega) (by first | decide | omega)⟩
      · show Q_own_law Z p1 p2 p3 p4 z f h0 n0 _ T56.heap _
        rw [e56]
        exact ⟨rfl, N56⟩
      · rw [hh]
        show CHr Z EL s.vm h0 T56.vm T56.heap
        rw [e56]
        exact CE
  · skip
    have cz0 : Steps p.tables e below S0' (T26.setTop (mkF m 25 #[.val (.int p1), .val (.int p2), .val (.int p3), .val (.int p4), .val (.int (2 : Int32)), .val (.int c0), .val (.int c1), .val (.int c2), .unset, .unset] [(.int (2 : Int32))])) := by
      have := cc27
      rw [hl] at this
      exact this
    have cc28 : Steps p.tables e below S0' (T26.setTop (mkF m 75 #[.val (.int p1), .val (.int p2), .val (.int p3), .val (.int p4), .val (.int (2 : Int32)), .val (.int c0), .val (.int c1), .val (.int c2), .unset, .unset] [])) := Steps.trans cz0 (by
      refine XS.ifYes X26.here hx rfl (pc0 := 25) rfl (own_d hby at_25) rfl (i0_ne_t (by decide)) (by decide) rfl ?_
      refine XS.iload X26.here hx rfl (own_d hby at_43) rfl ?_
      refine iconstV X26.here hx rfl 1 (own_d hby at_45) (by decide) ?_
      refine XS.icmpYes X26.here hx rfl (pc0 := 46) rfl (own_d hby at_46) rfl (ii_ne_t (by decide)) (by decide) rfl ?_
      refine XS.iload X26.here hx rfl (own_d hby at_69) rfl ?_
      refine iconstV X26.here hx rfl 2 (own_d hby at_71) (by decide) ?_
      refine XS.icmpNo X26.here hx rfl (own_d hby at_72) rfl (ii_ne_f (by decide)) ?_
      exact Steps.refl _)
    obtain ⟨T29, h29, X29, e29, E29, A29, D29, -, st29⟩ := newO X26 hx hZ hown w_4 w_5 w_6 e26 (g := (mkF m 75 #[.val (.int p1), .val (.int p2), .val (.int p3), .val (.int p4), .val (.int (2 : Int32)), .val (.int c0), .val (.int c1), .val (.int c2), .unset, .unset] [])) rfl (own_d hby at_75) (by decide) (by decide)
    obtain ⟨x, g_x⟩ : ∃ z, z = h0.size := ⟨_, rfl⟩
    rw [← g_x] at A29 D29 st29
    have K29 := (Keep.refl h0 ([] : List Addr)).ext E29
    have b_x : h0.size ≤ x := (Nat.le_of_eq g_x.symm)
    have gn_x : n0 ≤ x := Nat.le_trans Z0 b_x
    have s0_x : h0.size ≤ x := Nat.le_trans KK0.1 b_x
    have D30 := CHr.ext E29 C0.1
    have C31 := C0.trans D30
    have sf_x : Safe Z EL s.vm h29 x := Safe.ext E29 C0.1 (Safe.new b_x)
    have KK1 : Keep h0 h29 ([] : List Addr) := KK0.trans K29 all0
    have Zs1 : n0 ≤ h29.size := Nat.le_trans Z0 K29.1
    have F_value_x : Fld Z h29 x "java/lang/String" "value" "[B" .null := D29 (Or.inr w_20) (ty := (.array .byte)) (by decide)
    have F_coder_x : Fld Z h29 x "java/lang/String" "coder" "B" (.int (0 : Int32)) := D29 (Or.inr w_21) (ty := .byte) (by decide)
    have cc32 : Steps p.tables e below S0' (T29.setTop (mkF m 80 #[.val (.int p1), .val (.int p2), .val (.int p3), .val (.int p4), .val (.int (2 : Int32)), .val (.int c0), .val (.int c1), .val (.int c2), .unset, .unset] [(.int 2), (.ref x), (.ref x)])) := Steps.trans (cc28.trans (st29 _ (Steps.refl _))) (by
      refine XS.dup X29.here hx rfl (own_d hby at_78) rfl rfl ?_
      refine iconstV X29.here hx rfl 2 (own_d hby at_79) (by decide) ?_
      exact Steps.refl _)
    obtain ⟨T33, h33, k33, X33, e33, E33, A33, st33⟩ := newP X29 hx hZ (aty := .char) w_7 e29 (g := (mkF m 80 #[.val (.int p1), .val (.int p2), .val (.int p3), .val (.int p4), .val (.int (2 : Int32)), .val (.int c0), .val (.int c1), .val (.int c2), .unset, .unset] [(.int 2), (.ref x), (.ref x)])) rfl (own_d hby at_80) rfl (by decide) (cap := 2) (by decide) (by decide) (by decide) (by decide)
    obtain ⟨b, g_b⟩ : ∃ z, z = h29.size := ⟨_, rfl⟩
    rw [← g_b] at A33 st33
    have K33 := (Keep.refl h29 ([] : List Addr)).ext E33
    have b_b : h29.size ≤ b := (Nat.le_of_eq g_b.symm)
    have gn_b : n0 ≤ b := Nat.le_trans Zs1 b_b
    have s0_b : h0.size ≤ b := Nat.le_trans KK1.1 b_b
    have ne_x_b : x ≠ b := Nat.ne_of_lt (Nat.lt_of_lt_of_le A29.lt b_b)
    have D34 := CHr.ext E33 C31.1
    have C35 := C31.trans D34
    have sf_b : Safe Z EL s.vm h33 b := Safe.ext E33 C31.1 (Safe.new b_b)
    have KK2 : Keep h0 h33 ([] : List Addr) := KK1.trans K33 all0
    have Zs2 : n0 ≤ h33.size := Nat.le_trans Zs1 K33.1
    have V_b : Arv Z h33 b k33 .char (2 : Int32) [(.int (0 : Int32)), (.int (0 : Int32))] (.int (0 : Int32)) := (Arv.new A33 (by decide)).pad (pad_rep [] (.int (0 : Int32)) 2)
    have cc36 : Steps p.tables e below S0' (T33.setTop (mkF m 86 #[.val (.int p1), .val (.int p2), .val (.int p3), .val (.int p4), .val (.int (2 : Int32)), .val (.int c0), .val (.int c1), .val (.int c2), .unset, .unset] [(.int c0), (.int 0), (.ref b), (.ref b), (.ref x), (.ref x)])) := Steps.trans (cc32.trans (st33 _ (Steps.refl _))) (by
      refine XS.dup X33.here hx rfl (own_d hby at_82) rfl rfl ?_
      refine iconstV X33.here hx rfl 0 (own_d hby at_83) (by decide) ?_
      refine XS.iload X33.here hx rfl (own_d hby at_84) rfl ?_
      exact Steps.refl _)
    obtain ⟨clu37, Aru37, qu37, Su37, Ngu37, Hsu37, Gsu37⟩ := id V_b
    have inu37 : ¬ ((0 : Int32) < 0 ∨ clu37.slots.size ≤ (0 : Int32).toNatClampNeg) := inb_of Su37 ⟨by decide, by decide⟩
    obtain ⟨T38, h38, X38, e38, W38, st38⟩ := stC X33 hx hZ e33 Aru37 (j := (0 : Int32)) inu37 (g := (mkF m 86 #[.val (.int p1), .val (.int p2), .val (.int p3), .val (.int p4), .val (.int (2 : Int32)), .val (.int c0), .val (.int c1), .val (.int c2), .unset, .unset] [(.int c0), (.int 0), (.ref b), (.ref b), (.ref x), (.ref x)])) rfl rfl (own_d hby at_86)
    have K38 := Keep.of_wr W38
    have N38 := Fr.snoc X38 N26 gn_b
    have D39 := CHr.wr W38 sf_b C35.1
    have C40 := C35.trans D39
    have KK3 : Keep h0 h38 ([] : List Addr) := KK2.trans K38 (allS (Or.inr s0_b) all0)
    have Zs3 : n0 ≤ h38.size := Nat.le_trans Zs2 K38.1
    have V38 : Arv Z h38 b k33 .char (2 : Int32) ([(.int (nar .char c0)), (.int (0 : Int32))]) (.int (0 : Int32)) := Arv.set Aru37 qu37 Su37 Ngu37 Hsu37 Gsu37 (fits_nar_char _) W38 0 rfl (Nat.le_of_ble_eq_true rfl)
    have sf41 := D39.safe A33.lt sf_b
    have lt42 := Nat.lt_of_lt_of_le A33.lt K38.1
    have cc43 : Steps p.tables e below S0' (T38.setTop (mkF m 91 #[.val (.int p1), .val (.int p2), .val (.int p3), .val (.int p4), .val (.int (2 : Int32)), .val (.int c0), .val (.int c1), .val (.int c2), .unset, .unset] [(.int c1), (.int 1), (.ref b), (.ref b), (.ref x), (.ref x)])) := Steps.trans (cc36.trans (st38 _ (Steps.refl _))) (by
      refine XS.dup X38.here hx rfl (own_d hby at_87) rfl rfl ?_
      refine iconstV X38.here hx rfl 1 (own_d hby at_88) (by decide) ?_
      refine XS.iload X38.here hx rfl (own_d hby at_89) rfl ?_
      exact Steps.refl _)
    obtain ⟨clu44, Aru44, qu44, Su44, Ngu44, Hsu44, Gsu44⟩ := id V38
    have inu44 : ¬ ((1 : Int32) < 0 ∨ clu44.slots.size ≤ (1 : Int32).toNatClampNeg) := inb_of Su44 ⟨by decide, by decide⟩
    obtain ⟨T45, h45, X45, e45, W45, st45⟩ := stC X38 hx hZ e38 Aru44 (j := (1 : Int32)) inu44 (g := (mkF m 91 #[.val (.int p1), .val (.int p2), .val (.int p3), .val (.int p4), .val (.int (2 : Int32)), .val (.int c0), .val (.int c1), .val (.int c2), .unset, .unset] [(.int c1), (.int 1), (.ref b), (.ref b), (.ref x), (.ref x)])) rfl rfl (own_d hby at_91)
    have K45 := Keep.of_wr W45
    have N45 := Fr.snoc X45 N38 gn_b
    have D46 := CHr.wr W45 sf41 C40.1
    have C47 := C40.trans D46
    have KK4 : Keep h0 h45 ([] : List Addr) := KK3.trans K45 (allS (Or.inr s0_b) all0)
    have Zs4 : n0 ≤ h45.size := Nat.le_trans Zs3 K45.1
    have V45 : Arv Z h45 b k33 .char (2 : Int32) ([(.int (nar .char c0)), (.int (nar .char c1))]) (.int (0 : Int32)) := Arv.set Aru44 qu44 Su44 Ngu44 Hsu44 Gsu44 (fits_nar_char _) W45 1 rfl (Nat.le_of_ble_eq_true rfl)
    have cc49 : Steps p.tables e below S0' (T45.setTop (mkF m 92 #[.val (.int p1), .val (.int p2), .val (.int p3), .val (.int p4), .val (.int (2 : Int32)), .val (.int c0), .val (.int c1), .val (.int c2), .unset, .unset] [(.ref b), (.ref x), (.ref x)])) := (cc43.trans (st45 _ (Steps.refl _)))
    have fa48 : Exa Z h45 x "java/lang/String" := (((A29.keep K33).keep K38).keep K45)
    have fa50 : Fld Z h45 x "java/lang/String" "value" "[B" .null := (((F_value_x.keep K33 nin0).keep K38 (ninS ne_x_b nin0)).keep K45 (ninS ne_x_b nin0))
    have fa51 : Fld Z h45 x "java/lang/String" "coder" "B" (.int (0 : Int32)) := (((F_coder_x.keep K33 nin0).keep K38 (ninS ne_x_b nin0)).keep K45 (ninS ne_x_b nin0))
    have fa52 : Old Z n0 h45 := ((((X00.keep K29 all0).keep K33 all0).keep K38 (allS gn_b all0)).keep K45 (allS gn_b all0))
    have hp : ∀ c' ∈ ([c0, c1] : List Int32), ¬ c' < 0 ∧ ¬ (65535 : Int32) < c' := by
      intro c' hc'
      simp only [List.mem_cons, List.not_mem_nil, or_false] at hc'
      rcases hc' with rfl | rfl <;> assumption
    obtain ⟨_, _, ⟨T53, L53, k53, n53⟩, -, X53, ⟨Lc53, hQ53, l53, y53, z53⟩, st53⟩ := X45.specialBack hx (y := (⟨"java/lang/String", "<init>", "([C)V"⟩ : MethodName)) rfl hown (mvT hZ w_8) (mvT hZ w_9) (mvT hZ w_10) (by decide) (StrChars.Road.backT (W := 1) hZ hw_words hw_wordsW (kI := 4) w_5 (cs := ([c0, c1] : List Int32)) (n := 2) gn_x Zs4 fa48 fa50 fa51 (own_arv_eq V45 (by simp only [own_narc g0, own_narc g1, own_narc g2]; rfl) : Arv Z h45 b _ .char (2 : Int32) ((([c0, c1] : List Int32)).map Value.int) (.int (0 : Int32))) (O2.ext fa52.2) P5 (O3.ext fa52.2) rfl rfl (by decide) (by decide) (fun c hc => (hp c hc).1) (by decide) (by decide)) (g := (mkF m 92 #[.val (.int p1), .val (.int p2), .val (.int p3), .val (.int p4), .val (.int (2 : Int32)), .val (.int c0), .val (.int c1), .val (.int c2), .unset, .unset] [(.ref b), (.ref x), (.ref x)])) rfl (by rw [hml]; rfl) (Steps.refl _) (a := x) (argsL := [(.ref b)]) (rest := [(.ref x)]) (lenOf own_pd13 rfl) rfl (by show 2 * 0 + _ ≤ _; exact Nat.le_of_eq rfl) (own_d hby at_92) (fun _ _ => ⟨rfl, e45, Nat.le_of_ble_eq_true rfl, Nat.le_of_ble_eq_true rfl⟩)
    dsimp only [Pt.U, Pt.locs, Pt.cells, Pt.slots] at X53 l53 y53 z53 st53 hQ53
    subst l53 y53 z53
    obtain ⟨rfl, Nq53, Kq53, Eq53, cd, N2, vs, t, kb, hcd, Cq53, g153, g253, g353, Vq53, Aq53⟩ := hQ53
    have N53 := Fr.app N45 Nq53
    have sf54 := D34.safe A29.lt sf_x
    have lt55 := Nat.lt_of_lt_of_le A29.lt K33.1
    have sf56 := D39.safe lt55 sf54
    have lt57 := Nat.lt_of_lt_of_le lt55 K38.1
    have sf58 := D46.safe lt57 sf56
    have lt59 := Nat.lt_of_lt_of_le lt57 K45.1
    have D60 := CHr.keep Kq53 (sfS sf58 sf0) C47.1
    have C61 := C47.trans D60
    have KK5 : Keep h0 T53.heap ([] : List Addr) := KK4.trans Kq53 (allS (Or.inr s0_x) all0)
    have Zs5 : n0 ≤ T53.heap.size := Nat.le_trans Zs4 Kq53.1
    have e53 : T53.heap = T53.heap := rfl
    have Hx : own_Str Z T53.heap x ([c0, c1] : List Int32) := ⟨Eq53, hp, by simp, cd, N2, vs, t, kb, hcd, Cq53, Vq53, Aq53⟩
    have cc62 : Steps p.tables e below S0' (T53.setTop (mkF m 140 #[.val (.int p1), .val (.int p2), .val (.int p3), .val (.int p4), .val (.int (2 : Int32)), .val (.int c0), .val (.int c1), .val (.int c2), .val (.ref x), .val (.int 0)] [(.int (65533 : Int32)), (.int c0)])) := Steps.trans (Steps.trans cc49 st53) (by
      refine XS.astore X53.here hx rfl (own_d hby at_95) rfl rfl rfl ?_
      refine XS.goto X53.here hx rfl (pc0 := 97) rfl (own_d hby at_97) (by decide) rfl ?_
      refine iconstV X53.here hx rfl 0 (own_d hby at_127) (by decide) ?_
      refine XS.istore X53.here hx rfl (own_d hby at_128) rfl rfl ?_
      refine XS.iload X53.here hx rfl (own_d hby at_130) rfl ?_
      refine iconstV X53.here hx rfl 1 (own_d hby at_132) (by decide) ?_
      refine XS.icmpNo X53.here hx rfl (own_d hby at_133) rfl (ii_lt_f (by decide)) ?_
      refine XS.iload X53.here hx rfl (own_d hby at_136) rfl ?_
      refine X53.ldcI hx hown (mvT hZ w_64) rfl (own_d hby at_138) ?_
      exact Steps.refl _)
    by_cases e0 : c0 = 65533
    · skip
      have cc63 : Steps p.tables e below S0' (T53.setTop (mkF m 156 #[.val (.int p1), .val (.int p2), .val (.int p3), .val (.int p4), .val (.int (2 : Int32)), .val (.int c0), .val (.int c1), .val (.int c2), .val (.ref x), .val (.int 1)] [(.int (65533 : Int32)), (.int c1)])) := Steps.trans cc62 (by
        refine XS.icmpNo X53.here hx rfl (own_d hby at_140) rfl (ii_ne_f e0) ?_
        refine iconstV X53.here hx rfl 1 (own_d hby at_143) (by decide) ?_
        refine XS.istore X53.here hx rfl (own_d hby at_144) rfl rfl ?_
        refine XS.iload X53.here hx rfl (own_d hby at_146) rfl ?_
        refine iconstV X53.here hx rfl 2 (own_d hby at_148) (by decide) ?_
        refine XS.icmpNo X53.here hx rfl (own_d hby at_149) rfl (ii_lt_f (by decide)) ?_
        refine XS.iload X53.here hx rfl (own_d hby at_152) rfl ?_
        refine X53.ldcI hx hown (mvT hZ w_64) rfl (own_d hby at_154) ?_
        exact Steps.refl _)
      by_cases e1 : c1 = 65533
      · skip
        have cc65 : Steps p.tables e below S0' (T53.setTop (mkF m 180 #[.val (.int p1), .val (.int p2), .val (.int p3), .val (.int p4), .val (.int (2 : Int32)), .val (.int c0), .val (.int c1), .val (.int c2), .val (.ref x), .val (.int 1)] [(.ref x)])) := Steps.trans cc63 (by
          refine XS.icmpNo X53.here hx rfl (own_d hby at_156) rfl (ii_ne_f e1) ?_
          refine iconstV X53.here hx rfl 1 (own_d hby at_159) (by decide) ?_
          refine XS.istore X53.here hx rfl (own_d hby at_160) rfl rfl ?_
          refine XS.iload X53.here hx rfl (own_d hby at_162) rfl ?_
          refine iconstV X53.here hx rfl 3 (own_d hby at_164) (by decide) ?_
          refine XS.icmpYes X53.here hx rfl (pc0 := 165) rfl (own_d hby at_165) rfl (ii_lt_t (by decide)) (by decide) rfl ?_
          refine XS.aload X53.here hx rfl (own_d hby at_178) rfl rfl ?_
          exact Steps.refl _)
        have fa64 : Old Z n0 T53.heap := (fa52.keep Kq53 (allS gn_x all0))
        obtain ⟨_, _, ⟨T66, L66, k66, n66⟩, -, X66, ⟨Lc66, hQ66, l66, y66, z66⟩, st66⟩ := Jvm.LawKit.callS X53 hx (y := (⟨"com/example/blodis/blodis/corpus/LocaleText", "lostBytes", "(Ljava/lang/String;)Z"⟩ : MethodName)) hown (mvT hZ w_26) (mvT hZ w_27) (mvT hZ w_28) (mvT hZ w_29) (by decide) (backOf (W := 0) (own_lost l Z a0 hw x ([c0, c1] : List Int32) z f T53.heap n0 Zs5 fa64 O2 P5 O3 O4 hf Hx) hZ w_29 w_28 (by decide) (by decide)) (g := (mkF m 180 #[.val (.int p1), .val (.int p2), .val (.int p3), .val (.int p4), .val (.int (2 : Int32)), .val (.int c0), .val (.int c1), .val (.int c2), .val (.ref x), .val (.int 1)] [(.ref x)])) rfl (by rw [hml]; rfl) (argsL := [(.ref x)]) (rest := []) (lenOf own_pd14 rfl) rfl (by show 2 * 0 + _ ≤ _; exact Nat.le_of_eq rfl) (own_d hby at_180) (fun _ _ => ⟨rfl, e53, Nat.le_of_ble_eq_true rfl, Nat.le_of_ble_eq_true rfl⟩)
        dsimp only [Pt.U, Pt.locs, Pt.cells, Pt.slots] at X66 l66 y66 z66 st66 hQ66
        subst l66 y66 z66
        obtain ⟨rr, rfl, Nq66, eq66, hr⟩ := hQ66
        have N66 := Fr.app N53 Nq66
        have e66 : T66.heap = T53.heap := eq66
        have cc67 : Steps p.tables e below S0' (T66.setTop (mkF m 185 #[.val (.int p1), .val (.int p2), .val (.int p3), .val (.int p4), .val (.int (2 : Int32)), .val (.int c0), .val (.int c1), .val (.int c2), .val (.ref x), .val (.int 1)] [(.int 1), (.int rr)])) := Steps.trans (cc65.trans (st66 _ (Steps.refl _))) (by
          refine XS.iload X66.here hx rfl (own_d hby at_183) rfl ?_
          exact Steps.refl _)
        obtain rfl : rr = 1 := hr.elim (fun q => absurd (by simp [e0, e1]) q.2) (fun q => q.1)
        have cc68 : Steps p.tables e below S0' (T66.setTop (mkF m 193 #[.val (.int p1), .val (.int p2), .val (.int p3), .val (.int p4), .val (.int (2 : Int32)), .val (.int c0), .val (.int c1), .val (.int c2), .val (.ref x), .val (.int 1)] [(.int 1)])) := Steps.trans cc67 (by
          refine XS.icmpNo X66.here hx rfl (own_d hby at_185) rfl (ii_ne_f rfl) ?_
          refine iconstV X66.here hx rfl 1 (own_d hby at_188) (by decide) ?_
          refine XS.goto X66.here hx rfl (pc0 := 189) rfl (own_d hby at_189) (by decide) rfl ?_
          exact Steps.refl _)
        have cE := cc68
        rw [hS0'] at cE
        obtain ⟨fs, hr_, hrun, hended, hE⟩ := X66.leaveW hS0 (by rw [e66]; exact (Nat.le_trans (Nat.le_trans (Nat.le_trans (Nat.le_trans (Nat.le_trans hk0 K29.1) K33.1) K38.1) K45.1) Kq53.1)) (v := some (.int 1)) (fun h => by rw [Bd.returns] at h; cases h)
        have CE := C61.trans (CHv.at X66 hZ hEL C61.1)
        refine ⟨_, _, cE.trans (X66.ireturnOut hx Bd.returns (rfl) (by simp) (own_d hby at_193) hr_), hrun, hended, _, _, rfl, ?_, ?_, hE.1, hE.2.1, hE.2.2.1, hE.2.2.2.mono (by first | decide | omega) (by first | decide | omega)⟩
        · show Q_own_law Z p1 p2 p3 p4 z f h0 n0 _ T66.heap _
          rw [e66]
          exact ⟨rfl, N66⟩
        · rw [hh]
          show CHr Z EL s.vm h0 T66.vm T66.heap
          rw [e66]
          exact CE
      · skip
        have cc65 : Steps p.tables e below S0' (T53.setTop (mkF m 180 #[.val (.int p1), .val (.int p2), .val (.int p3), .val (.int p4), .val (.int (2 : Int32)), .val (.int c0), .val (.int c1), .val (.int c2), .val (.ref x), .val (.int 1)] [(.ref x)])) := Steps.trans cc63 (by
          refine XS.icmpYes X53.here hx rfl (pc0 := 156) rfl (own_d hby at_156) rfl (ii_ne_t e1) (by decide) rfl ?_
          refine XS.iload X53.here hx rfl (own_d hby at_162) rfl ?_
          refine iconstV X53.here hx rfl 3 (own_d hby at_164) (by decide) ?_
          refine XS.icmpYes X53.here hx rfl (pc0 := 165) rfl (own_d hby at_165) rfl (ii_lt_t (by decide)) (by decide) rfl ?_
          refine XS.aload X53.here hx rfl (own_d hby at_178) rfl rfl ?_
          exact Steps.refl _)
        have fa64 : Old Z n0 T53.heap := (fa52.keep Kq53 (allS gn_x all0))
        obtain ⟨_, _, ⟨T66, L66, k66, n66⟩, -, X66, ⟨Lc66, hQ66, l66, y66, z66⟩, st66⟩ := Jvm.LawKit.callS X53 hx (y := (⟨"com/example/blodis/blodis/corpus/LocaleText", "lostBytes", "(Ljava/lang/String;)Z"⟩ : MethodName)) hown (mvT hZ w_26) (mvT hZ w_27) (mvT hZ w_28) (mvT hZ w_29) (by decide) (backOf (W := 0) (own_lost l Z a0 hw x ([c0, c1] : List Int32) z f T53.heap n0 Zs5 fa64 O2 P5 O3 O4 hf Hx) hZ w_29 w_28 (by decide) (by decide)) (g := (mkF m 180 #[.val (.int p1), .val (.int p2), .val (.int p3), .val (.int p4), .val (.int (2 : Int32)), .val (.int c0), .val (.int c1), .val (.int c2), .val (.ref x), .val (.int 1)] [(.ref x)])) rfl (by rw [hml]; rfl) (argsL := [(.ref x)]) (rest := []) (lenOf own_pd14 rfl) rfl (by show 2 * 0 + _ ≤ _; exact Nat.le_of_eq rfl) (own_d hby at_180) (fun _ _ => ⟨rfl, e53, Nat.le_of_ble_eq_true rfl, Nat.le_of_ble_eq_true rfl⟩)
        dsimp only [Pt.U, Pt.locs, Pt.cells, Pt.slots] at X66 l66 y66 z66 st66 hQ66
        subst l66 y66 z66
        obtain ⟨rr, rfl, Nq66, eq66, hr⟩ := hQ66
        have N66 := Fr.app N53 Nq66
        have e66 : T66.heap = T53.heap := eq66
        have cc67 : Steps p.tables e below S0' (T66.setTop (mkF m 185 #[.val (.int p1), .val (.int p2), .val (.int p3), .val (.int p4), .val (.int (2 : Int32)), .val (.int c0), .val (.int c1), .val (.int c2), .val (.ref x), .val (.int 1)] [(.int 1), (.int rr)])) := Steps.trans (cc65.trans (st66 _ (Steps.refl _))) (by
          refine XS.iload X66.here hx rfl (own_d hby at_183) rfl ?_
          exact Steps.refl _)
        obtain rfl : rr = 1 := hr.elim (fun q => absurd (by simp [e0, e1]) q.2) (fun q => q.1)
        have cc68 : Steps p.tables e below S0' (T66.setTop (mkF m 193 #[.val (.int p1), .val (.int p2), .val (.int p3), .val (.int p4), .val (.int (2 : Int32)), .val (.int c0), .val (.int c1), .val (.int c2), .val (.ref x), .val (.int 1)] [(.int 1)])) := Steps.trans cc67 (by
          refine XS.icmpNo X66.here hx rfl (own_d hby at_185) rfl (ii_ne_f rfl) ?_
          refine iconstV X66.here hx rfl 1 (own_d hby at_188) (by decide) ?_
          refine XS.goto X66.here hx rfl (pc0 := 189) rfl (own_d hby at_189) (by decide) rfl ?_
          exact Steps.refl _)
        have cE := cc68
        rw [hS0'] at cE
        obtain ⟨fs, hr_, hrun, hended, hE⟩ := X66.leaveW hS0 (by rw [e66]; exact (Nat.le_trans (Nat.le_trans (Nat.le_trans (Nat.le_trans (Nat.le_trans hk0 K29.1) K33.1) K38.1) K45.1) Kq53.1)) (v := some (.int 1)) (fun h => by rw [Bd.returns] at h; cases h)
        have CE := C61.trans (CHv.at X66 hZ hEL C61.1)
        refine ⟨_, _, cE.trans (X66.ireturnOut hx Bd.returns (rfl) (by simp) (own_d hby at_193) hr_), hrun, hended, _, _, rfl, ?_, ?_, hE.1, hE.2.1, hE.2.2.1, hE.2.2.2.mono (by first | decide | omega) (by first | decide | omega)⟩
        · show Q_own_law Z p1 p2 p3 p4 z f h0 n0 _ T66.heap _
          rw [e66]
          exact ⟨rfl, N66⟩
        · rw [hh]
          show CHr Z EL s.vm h0 T66.vm T66.heap
          rw [e66]
          exact CE
    · skip
      have cc63 : Steps p.tables e below S0' (T53.setTop (mkF m 156 #[.val (.int p1), .val (.int p2), .val (.int p3), .val (.int p4), .val (.int (2 : Int32)), .val (.int c0), .val (.int c1), .val (.int c2), .val (.ref x), .val (.int 0)] [(.int (65533 : Int32)), (.int c1)])) := Steps.trans cc62 (by
        refine XS.icmpYes X53.here hx rfl (pc0 := 140) rfl (own_d hby at_140) rfl (ii_ne_t e0) (by decide) rfl ?_
        refine XS.iload X53.here hx rfl (own_d hby at_146) rfl ?_
        refine iconstV X53.here hx rfl 2 (own_d hby at_148) (by decide) ?_
        refine XS.icmpNo X53.here hx rfl (own_d hby at_149) rfl (ii_lt_f (by decide)) ?_
        refine XS.iload X53.here hx rfl (own_d hby at_152) rfl ?_
        refine X53.ldcI hx hown (mvT hZ w_64) rfl (own_d hby at_154) ?_
        exact Steps.refl _)
      by_cases e1 : c1 = 65533
      · skip
        have cc65 : Steps p.tables e below S0' (T53.setTop (mkF m 180 #[.val (.int p1), .val (.int p2), .val (.int p3), .val (.int p4), .val (.int (2 : Int32)), .val (.int c0), .val (.int c1), .val (.int c2), .val (.ref x), .val (.int 1)] [(.ref x)])) := Steps.trans cc63 (by
          refine XS.icmpNo X53.here hx rfl (own_d hby at_156) rfl (ii_ne_f e1) ?_
          refine iconstV X53.here hx rfl 1 (own_d hby at_159) (by decide) ?_
          refine XS.istore X53.here hx rfl (own_d hby at_160) rfl rfl ?_
          refine XS.iload X53.here hx rfl (own_d hby at_162) rfl ?_
          refine iconstV X53.here hx rfl 3 (own_d hby at_164) (by decide) ?_
          refine XS.icmpYes X53.here hx rfl (pc0 := 165) rfl (own_d hby at_165) rfl (ii_lt_t (by decide)) (by decide) rfl ?_
          refine XS.aload X53.here hx rfl (own_d hby at_178) rfl rfl ?_
          exact Steps.refl _)
        have fa64 : Old Z n0 T53.heap := (fa52.keep Kq53 (allS gn_x all0))
        obtain ⟨_, _, ⟨T66, L66, k66, n66⟩, -, X66, ⟨Lc66, hQ66, l66, y66, z66⟩, st66⟩ := Jvm.LawKit.callS X53 hx (y := (⟨"com/example/blodis/blodis/corpus/LocaleText", "lostBytes", "(Ljava/lang/String;)Z"⟩ : MethodName)) hown (mvT hZ w_26) (mvT hZ w_27) (mvT hZ w_28) (mvT hZ w_29) (by decide) (backOf (W := 0) (own_lost l Z a0 hw x ([c0, c1] : List Int32) z f T53.heap n0 Zs5 fa64 O2 P5 O3 O4 hf Hx) hZ w_29 w_28 (by decide) (by decide)) (g := (mkF m 180 #[.val (.int p1), .val (.int p2), .val (.int p3), .val (.int p4), .val (.int (2 : Int32)), .val (.int c0), .val (.int c1), .val (.int c2), .val (.ref x), .val (.int 1)] [(.ref x)])) rfl (by rw [hml]; rfl) (argsL := [(.ref x)]) (rest := []) (lenOf own_pd14 rfl) rfl (by show 2 * 0 + _ ≤ _; exact Nat.le_of_eq rfl) (own_d hby at_180) (fun _ _ => ⟨rfl, e53, Nat.le_of_ble_eq_true rfl, Nat.le_of_ble_eq_true rfl⟩)
        dsimp only [Pt.U, Pt.locs, Pt.cells, Pt.slots] at X66 l66 y66 z66 st66 hQ66
        subst l66 y66 z66
        obtain ⟨rr, rfl, Nq66, eq66, hr⟩ := hQ66
        have N66 := Fr.app N53 Nq66
        have e66 : T66.heap = T53.heap := eq66
        have cc67 : Steps p.tables e below S0' (T66.setTop (mkF m 185 #[.val (.int p1), .val (.int p2), .val (.int p3), .val (.int p4), .val (.int (2 : Int32)), .val (.int c0), .val (.int c1), .val (.int c2), .val (.ref x), .val (.int 1)] [(.int 1), (.int rr)])) := Steps.trans (cc65.trans (st66 _ (Steps.refl _))) (by
          refine XS.iload X66.here hx rfl (own_d hby at_183) rfl ?_
          exact Steps.refl _)
        obtain rfl : rr = 1 := hr.elim (fun q => absurd (by simp [e0, e1]) q.2) (fun q => q.1)
        have cc68 : Steps p.tables e below S0' (T66.setTop (mkF m 193 #[.val (.int p1), .val (.int p2), .val (.int p3), .val (.int p4), .val (.int (2 : Int32)), .val (.int c0), .val (.int c1), .val (.int c2), .val (.ref x), .val (.int 1)] [(.int 1)])) := Steps.trans cc67 (by
          refine XS.icmpNo X66.here hx rfl (own_d hby at_185) rfl (ii_ne_f rfl) ?_
          refine iconstV X66.here hx rfl 1 (own_d hby at_188) (by decide) ?_
          refine XS.goto X66.here hx rfl (pc0 := 189) rfl (own_d hby at_189) (by decide) rfl ?_
          exact Steps.refl _)
        have cE := cc68
        rw [hS0'] at cE
        obtain ⟨fs, hr_, hrun, hended, hE⟩ := X66.leaveW hS0 (by rw [e66]; exact (Nat.le_trans (Nat.le_trans (Nat.le_trans (Nat.le_trans (Nat.le_trans hk0 K29.1) K33.1) K38.1) K45.1) Kq53.1)) (v := some (.int 1)) (fun h => by rw [Bd.returns] at h; cases h)
        have CE := C61.trans (CHv.at X66 hZ hEL C61.1)
        refine ⟨_, _, cE.trans (X66.ireturnOut hx Bd.returns (rfl) (by simp) (own_d hby at_193) hr_), hrun, hended, _, _, rfl, ?_, ?_, hE.1, hE.2.1, hE.2.2.1, hE.2.2.2.mono (by first | decide | omega) (by first | decide | omega)⟩
        · show Q_own_law Z p1 p2 p3 p4 z f h0 n0 _ T66.heap _
          rw [e66]
          exact ⟨rfl, N66⟩
        · rw [hh]
          show CHr Z EL s.vm h0 T66.vm T66.heap
          rw [e66]
          exact CE
      · skip
        have cc65 : Steps p.tables e below S0' (T53.setTop (mkF m 180 #[.val (.int p1), .val (.int p2), .val (.int p3), .val (.int p4), .val (.int (2 : Int32)), .val (.int c0), .val (.int c1), .val (.int c2), .val (.ref x), .val (.int 0)] [(.ref x)])) := Steps.trans cc63 (by
          refine XS.icmpYes X53.here hx rfl (pc0 := 156) rfl (own_d hby at_156) rfl (ii_ne_t e1) (by decide) rfl ?_
          refine XS.iload X53.here hx rfl (own_d hby at_162) rfl ?_
          refine iconstV X53.here hx rfl 3 (own_d hby at_164) (by decide) ?_
          refine XS.icmpYes X53.here hx rfl (pc0 := 165) rfl (own_d hby at_165) rfl (ii_lt_t (by decide)) (by decide) rfl ?_
          refine XS.aload X53.here hx rfl (own_d hby at_178) rfl rfl ?_
          exact Steps.refl _)
        have fa64 : Old Z n0 T53.heap := (fa52.keep Kq53 (allS gn_x all0))
        obtain ⟨_, _, ⟨T66, L66, k66, n66⟩, -, X66, ⟨Lc66, hQ66, l66, y66, z66⟩, st66⟩ := Jvm.LawKit.callS X53 hx (y := (⟨"com/example/blodis/blodis/corpus/LocaleText", "lostBytes", "(Ljava/lang/String;)Z"⟩ : MethodName)) hown (mvT hZ w_26) (mvT hZ w_27) (mvT hZ w_28) (mvT hZ w_29) (by decide) (backOf (W := 0) (own_lost l Z a0 hw x ([c0, c1] : List Int32) z f T53.heap n0 Zs5 fa64 O2 P5 O3 O4 hf Hx) hZ w_29 w_28 (by decide) (by decide)) (g := (mkF m 180 #[.val (.int p1), .val (.int p2), .val (.int p3), .val (.int p4), .val (.int (2 : Int32)), .val (.int c0), .val (.int c1), .val (.int c2), .val (.ref x), .val (.int 0)] [(.ref x)])) rfl (by rw [hml]; rfl) (argsL := [(.ref x)]) (rest := []) (lenOf own_pd14 rfl) rfl (by show 2 * 0 + _ ≤ _; exact Nat.le_of_eq rfl) (own_d hby at_180) (fun _ _ => ⟨rfl, e53, Nat.le_of_ble_eq_true rfl, Nat.le_of_ble_eq_true rfl⟩)
        dsimp only [Pt.U, Pt.locs, Pt.cells, Pt.slots] at X66 l66 y66 z66 st66 hQ66
        subst l66 y66 z66
        obtain ⟨rr, rfl, Nq66, eq66, hr⟩ := hQ66
        have N66 := Fr.app N53 Nq66
        have e66 : T66.heap = T53.heap := eq66
        have cc67 : Steps p.tables e below S0' (T66.setTop (mkF m 185 #[.val (.int p1), .val (.int p2), .val (.int p3), .val (.int p4), .val (.int (2 : Int32)), .val (.int c0), .val (.int c1), .val (.int c2), .val (.ref x), .val (.int 0)] [(.int 0), (.int rr)])) := Steps.trans (cc65.trans (st66 _ (Steps.refl _))) (by
          refine XS.iload X66.here hx rfl (own_d hby at_183) rfl ?_
          exact Steps.refl _)
        obtain rfl : rr = 0 := hr.elim (fun q => q.1) (fun q => absurd q.2 (by simp [Ne.symm e0, Ne.symm e1]))
        have cc68 : Steps p.tables e below S0' (T66.setTop (mkF m 193 #[.val (.int p1), .val (.int p2), .val (.int p3), .val (.int p4), .val (.int (2 : Int32)), .val (.int c0), .val (.int c1), .val (.int c2), .val (.ref x), .val (.int 0)] [(.int 1)])) := Steps.trans cc67 (by
          refine XS.icmpNo X66.here hx rfl (own_d hby at_185) rfl (ii_ne_f rfl) ?_
          refine iconstV X66.here hx rfl 1 (own_d hby at_188) (by decide) ?_
          refine XS.goto X66.here hx rfl (pc0 := 189) rfl (own_d hby at_189) (by decide) rfl ?_
          exact Steps.refl _)
        have cE := cc68
        rw [hS0'] at cE
        obtain ⟨fs, hr_, hrun, hended, hE⟩ := X66.leaveW hS0 (by rw [e66]; exact (Nat.le_trans (Nat.le_trans (Nat.le_trans (Nat.le_trans (Nat.le_trans hk0 K29.1) K33.1) K38.1) K45.1) Kq53.1)) (v := some (.int 1)) (fun h => by rw [Bd.returns] at h; cases h)
        have CE := C61.trans (CHv.at X66 hZ hEL C61.1)
        refine ⟨_, _, cE.trans (X66.ireturnOut hx Bd.returns (rfl) (by simp) (own_d hby at_193) hr_), hrun, hended, _, _, rfl, ?_, ?_, hE.1, hE.2.1, hE.2.2.1, hE.2.2.2.mono (by first | decide | omega) (by first | decide | omega)⟩
        · show Q_own_law Z p1 p2 p3 p4 z f h0 n0 _ T66.heap _
          rw [e66]
          exact ⟨rfl, N66⟩
        · rw [hh]
          show CHr Z EL s.vm h0 T66.vm T66.heap
          rw [e66]
          exact CE
  · skip
    have cz0 : Steps p.tables e below S0' (T26.setTop (mkF m 25 #[.val (.int p1), .val (.int p2), .val (.int p3), .val (.int p4), .val (.int (3 : Int32)), .val (.int c0), .val (.int c1), .val (.int c2), .unset, .unset] [(.int (3 : Int32))])) := by
      have := cc27
      rw [hl] at this
      exact this
    have cc28 : Steps p.tables e below S0' (T26.setTop (mkF m 100 #[.val (.int p1), .val (.int p2), .val (.int p3), .val (.int p4), .val (.int (3 : Int32)), .val (.int c0), .val (.int c1), .val (.int c2), .unset, .unset] [])) := Steps.trans cz0 (by
      refine XS.ifYes X26.here hx rfl (pc0 := 25) rfl (own_d hby at_25) rfl (i0_ne_t (by decide)) (by decide) rfl ?_
      refine XS.iload X26.here hx rfl (own_d hby at_43) rfl ?_
      refine iconstV X26.here hx rfl 1 (own_d hby at_45) (by decide) ?_
      refine XS.icmpYes X26.here hx rfl (pc0 := 46) rfl (own_d hby at_46) rfl (ii_ne_t (by decide)) (by decide) rfl ?_
      refine XS.iload X26.here hx rfl (own_d hby at_69) rfl ?_
      refine iconstV X26.here hx rfl 2 (own_d hby at_71) (by decide) ?_
      refine XS.icmpYes X26.here hx rfl (pc0 := 72) rfl (own_d hby at_72) rfl (ii_ne_t (by decide)) (by decide) rfl ?_
      exact Steps.refl _)
    obtain ⟨T29, h29, X29, e29, E29, A29, D29, -, st29⟩ := newO X26 hx hZ hown w_4 w_5 w_6 e26 (g := (mkF m 100 #[.val (.int p1), .val (.int p2), .val (.int p3), .val (.int p4), .val (.int (3 : Int32)), .val (.int c0), .val (.int c1), .val (.int c2), .unset, .unset] [])) rfl (own_d hby at_100) (by decide) (by decide)
    obtain ⟨x, g_x⟩ : ∃ z, z = h0.size := ⟨_, rfl⟩
    rw [← g_x] at A29 D29 st29
    have K29 := (Keep.refl h0 ([] : List Addr)).ext E29
    have b_x : h0.size ≤ x := (Nat.le_of_eq g_x.symm)
    have gn_x : n0 ≤ x := Nat.le_trans Z0 b_x
    have s0_x : h0.size ≤ x := Nat.le_trans KK0.1 b_x
    have D30 := CHr.ext E29 C0.1
    have C31 := C0.trans D30
    have sf_x : Safe Z EL s.vm h29 x := Safe.ext E29 C0.1 (Safe.new b_x)
    have KK1 : Keep h0 h29 ([] : List Addr) := KK0.trans K29 all0
    have Zs1 : n0 ≤ h29.size := Nat.le_trans Z0 K29.1
    have F_value_x : Fld Z h29 x "java/lang/String" "value" "[B" .null := D29 (Or.inr w_20) (ty := (.array .byte)) (by decide)
    have F_coder_x : Fld Z h29 x "java/lang/String" "coder" "B" (.int (0 : Int32)) := D29 (Or.inr w_21) (ty := .byte) (by decide)
    have cc32 : Steps p.tables e below S0' (T29.setTop (mkF m 105 #[.val (.int p1), .val (.int p2), .val (.int p3), .val (.int p4), .val (.int (3 : Int32)), .val (.int c0), .val (.int c1), .val (.int c2), .unset, .unset] [(.int 3), (.ref x), (.ref x)])) := Steps.trans (cc28.trans (st29 _ (Steps.refl _))) (by
      refine XS.dup X29.here hx rfl (own_d hby at_103) rfl rfl ?_
      refine iconstV X29.here hx rfl 3 (own_d hby at_104) (by decide) ?_
      exact Steps.refl _)
    obtain ⟨T33, h33, k33, X33, e33, E33, A33, st33⟩ := newP X29 hx hZ (aty := .char) w_7 e29 (g := (mkF m 105 #[.val (.int p1), .val (.int p2), .val (.int p3), .val (.int p4), .val (.int (3 : Int32)), .val (.int c0), .val (.int c1), .val (.int c2), .unset, .unset] [(.int 3), (.ref x), (.ref x)])) rfl (own_d hby at_105) rfl (by decide) (cap := 3) (by decide) (by decide) (by decide) (by decide)
    obtain ⟨b, g_b⟩ : ∃ z, z = h29.size := ⟨_, rfl⟩
    rw [← g_b] at A33 st33
    have K33 := (Keep.refl h29 ([] : List Addr)).ext E33
    have b_b : h29.size ≤ b := (Nat.le_of_eq g_b.symm)
    have gn_b : n0 ≤ b := Nat.le_trans Zs1 b_b
    have s0_b : h0.size ≤ b := Nat.le_trans KK1.1 b_b
    have ne_x_b : x ≠ b := Nat.ne_of_lt (Nat.lt_of_lt_of_le A29.lt b_b)
    have D34 := CHr.ext E33 C31.1
    have C35 := C31.trans D34
    have sf_b : Safe Z EL s.vm h33 b := Safe.ext E33 C31.1 (Safe.new b_b)
    have KK2 : Keep h0 h33 ([] : List Addr) := KK1.trans K33 all0
    have Zs2 : n0 ≤ h33.size := Nat.le_trans Zs1 K33.1
    have V_b : Arv Z h33 b k33 .char (3 : Int32) [(.int (0 : Int32)), (.int (0 : Int32)), (.int (0 : Int32))] (.int (0 : Int32)) := (Arv.new A33 (by decide)).pad (pad_rep [] (.int (0 : Int32)) 3)
    have cc36 : Steps p.tables e below S0' (T33.setTop (mkF m 111 #[.val (.int p1), .val (.int p2), .val (.int p3), .val (.int p4), .val (.int (3 : Int32)), .val (.int c0), .val (.int c1), .val (.int c2), .unset, .unset] [(.int c0), (.int 0), (.ref b), (.ref b), (.ref x), (.ref x)])) := Steps.trans (cc32.trans (st33 _ (Steps.refl _))) (by
      refine XS.dup X33.here hx rfl (own_d hby at_107) rfl rfl ?_
      refine iconstV X33.here hx rfl 0 (own_d hby at_108) (by decide) ?_
      refine XS.iload X33.here hx rfl (own_d hby at_109) rfl ?_
      exact Steps.refl _)
    obtain ⟨clu37, Aru37, qu37, Su37, Ngu37, Hsu37, Gsu37⟩ := id V_b
    have inu37 : ¬ ((0 : Int32) < 0 ∨ clu37.slots.size ≤ (0 : Int32).toNatClampNeg) := inb_of Su37 ⟨by decide, by decide⟩
    obtain ⟨T38, h38, X38, e38, W38, st38⟩ := stC X33 hx hZ e33 Aru37 (j := (0 : Int32)) inu37 (g := (mkF m 111 #[.val (.int p1), .val (.int p2), .val (.int p3), .val (.int p4), .val (.int (3 : Int32)), .val (.int c0), .val (.int c1), .val (.int c2), .unset, .unset] [(.int c0), (.int 0), (.ref b), (.ref b), (.ref x), (.ref x)])) rfl rfl (own_d hby at_111)
    have K38 := Keep.of_wr W38
    have N38 := Fr.snoc X38 N26 gn_b
    have D39 := CHr.wr W38 sf_b C35.1
    have C40 := C35.trans D39
    have KK3 : Keep h0 h38 ([] : List Addr) := KK2.trans K38 (allS (Or.inr s0_b) all0)
    have Zs3 : n0 ≤ h38.size := Nat.le_trans Zs2 K38.1
    have V38 : Arv Z h38 b k33 .char (3 : Int32) ([(.int (nar .char c0)), (.int (0 : Int32)), (.int (0 : Int32))]) (.int (0 : Int32)) := Arv.set Aru37 qu37 Su37 Ngu37 Hsu37 Gsu37 (fits_nar_char _) W38 0 rfl (Nat.le_of_ble_eq_true rfl)
    have sf41 := D39.safe A33.lt sf_b
    have lt42 := Nat.lt_of_lt_of_le A33.lt K38.1
    have cc43 : Steps p.tables e below S0' (T38.setTop (mkF m 116 #[.val (.int p1), .val (.int p2), .val (.int p3), .val (.int p4), .val (.int (3 : Int32)), .val (.int c0), .val (.int c1), .val (.int c2), .unset, .unset] [(.int c1), (.int 1), (.ref b), (.ref b), (.ref x), (.ref x)])) := Steps.trans (cc36.trans (st38 _ (Steps.refl _))) (by
      refine XS.dup X38.here hx rfl (own_d hby at_112) rfl rfl ?_
      refine iconstV X38.here hx rfl 1 (own_d hby at_113) (by decide) ?_
      refine XS.iload X38.here hx rfl (own_d hby at_114) rfl ?_
      exact Steps.refl _)
    obtain ⟨clu44, Aru44, qu44, Su44, Ngu44, Hsu44, Gsu44⟩ := id V38
    have inu44 : ¬ ((1 : Int32) < 0 ∨ clu44.slots.size ≤ (1 : Int32).toNatClampNeg) := inb_of Su44 ⟨by decide, by decide⟩
    obtain ⟨T45, h45, X45, e45, W45, st45⟩ := stC X38 hx hZ e38 Aru44 (j := (1 : Int32)) inu44 (g := (mkF m 116 #[.val (.int p1), .val (.int p2), .val (.int p3), .val (.int p4), .val (.int (3 : Int32)), .val (.int c0), .val (.int c1), .val (.int c2), .unset, .unset] [(.int c1), (.int 1), (.ref b), (.ref b), (.ref x), (.ref x)])) rfl rfl (own_d hby at_116)
    have K45 := Keep.of_wr W45
    have N45 := Fr.snoc X45 N38 gn_b
    have D46 := CHr.wr W45 sf41 C40.1
    have C47 := C40.trans D46
    have KK4 : Keep h0 h45 ([] : List Addr) := KK3.trans K45 (allS (Or.inr s0_b) all0)
    have Zs4 : n0 ≤ h45.size := Nat.le_trans Zs3 K45.1
    have V45 : Arv Z h45 b k33 .char (3 : Int32) ([(.int (nar .char c0)), (.int (nar .char c1)), (.int (0 : Int32))]) (.int (0 : Int32)) := Arv.set Aru44 qu44 Su44 Ngu44 Hsu44 Gsu44 (fits_nar_char _) W45 1 rfl (Nat.le_of_ble_eq_true rfl)
    have sf48 := D46.safe lt42 sf41
    have lt49 := Nat.lt_of_lt_of_le lt42 K45.1
    have cc50 : Steps p.tables e below S0' (T45.setTop (mkF m 121 #[.val (.int p1), .val (.int p2), .val (.int p3), .val (.int p4), .val (.int (3 : Int32)), .val (.int c0), .val (.int c1), .val (.int c2), .unset, .unset] [(.int c2), (.int 2), (.ref b), (.ref b), (.ref x), (.ref x)])) := Steps.trans (cc43.trans (st45 _ (Steps.refl _))) (by
      refine XS.dup X45.here hx rfl (own_d hby at_117) rfl rfl ?_
      refine iconstV X45.here hx rfl 2 (own_d hby at_118) (by decide) ?_
      refine XS.iload X45.here hx rfl (own_d hby at_119) rfl ?_
      exact Steps.refl _)
    obtain ⟨clu51, Aru51, qu51, Su51, Ngu51, Hsu51, Gsu51⟩ := id V45
    have inu51 : ¬ ((2 : Int32) < 0 ∨ clu51.slots.size ≤ (2 : Int32).toNatClampNeg) := inb_of Su51 ⟨by decide, by decide⟩
    obtain ⟨T52, h52, X52, e52, W52, st52⟩ := stC X45 hx hZ e45 Aru51 (j := (2 : Int32)) inu51 (g := (mkF m 121 #[.val (.int p1), .val (.int p2), .val (.int p3), .val (.int p4), .val (.int (3 : Int32)), .val (.int c0), .val (.int c1), .val (.int c2), .unset, .unset] [(.int c2), (.int 2), (.ref b), (.ref b), (.ref x), (.ref x)])) rfl rfl (own_d hby at_121)
    have K52 := Keep.of_wr W52
    have N52 := Fr.snoc X52 N45 gn_b
    have D53 := CHr.wr W52 sf48 C47.1
    have C54 := C47.trans D53
    have KK5 : Keep h0 h52 ([] : List Addr) := KK4.trans K52 (allS (Or.inr s0_b) all0)
    have Zs5 : n0 ≤ h52.size := Nat.le_trans Zs4 K52.1
    have V52 : Arv Z h52 b k33 .char (3 : Int32) ([(.int (nar .char c0)), (.int (nar .char c1)), (.int (nar .char c2))]) (.int (0 : Int32)) := Arv.set Aru51 qu51 Su51 Ngu51 Hsu51 Gsu51 (fits_nar_char _) W52 2 rfl (Nat.le_of_ble_eq_true rfl)
    have cc56 : Steps p.tables e below S0' (T52.setTop (mkF m 122 #[.val (.int p1), .val (.int p2), .val (.int p3), .val (.int p4), .val (.int (3 : Int32)), .val (.int c0), .val (.int c1), .val (.int c2), .unset, .unset] [(.ref b), (.ref x), (.ref x)])) := (cc50.trans (st52 _ (Steps.refl _)))
    have fa55 : Exa Z h52 x "java/lang/String" := ((((A29.keep K33).keep K38).keep K45).keep K52)
    have fa57 : Fld Z h52 x "java/lang/String" "value" "[B" .null := ((((F_value_x.keep K33 nin0).keep K38 (ninS ne_x_b nin0)).keep K45 (ninS ne_x_b nin0)).keep K52 (ninS ne_x_b nin0))
    have fa58 : Fld Z h52 x "java/lang/String" "coder" "B" (.int (0 : Int32)) := ((((F_coder_x.keep K33 nin0).keep K38 (ninS ne_x_b nin0)).keep K45 (ninS ne_x_b nin0)).keep K52 (ninS ne_x_b nin0))
    have fa59 : Old Z n0 h52 := (((((X00.keep K29 all0).keep K33 all0).keep K38 (allS gn_b all0)).keep K45 (allS gn_b all0)).keep K52 (allS gn_b all0))
    have hp : ∀ c' ∈ ([c0, c1, c2] : List Int32), ¬ c' < 0 ∧ ¬ (65535 : Int32) < c' := by
      intro c' hc'
      simp only [List.mem_cons, List.not_mem_nil, or_false] at hc'
      rcases hc' with rfl | rfl | rfl <;> assumption
    obtain ⟨_, _, ⟨T60, L60, k60, n60⟩, -, X60, ⟨Lc60, hQ60, l60, y60, z60⟩, st60⟩ := X52.specialBack hx (y := (⟨"java/lang/String", "<init>", "([C)V"⟩ : MethodName)) rfl hown (mvT hZ w_8) (mvT hZ w_9) (mvT hZ w_10) (by decide) (StrChars.Road.backT (W := 1) hZ hw_words hw_wordsW (kI := 4) w_5 (cs := ([c0, c1, c2] : List Int32)) (n := 3) gn_x Zs5 fa55 fa57 fa58 (own_arv_eq V52 (by simp only [own_narc g0, own_narc g1, own_narc g2]; rfl) : Arv Z h52 b _ .char (3 : Int32) ((([c0, c1, c2] : List Int32)).map Value.int) (.int (0 : Int32))) (O2.ext fa59.2) P5 (O3.ext fa59.2) rfl rfl (by decide) (by decide) (fun c hc => (hp c hc).1) (by decide) (by decide)) (g := (mkF m 122 #[.val (.int p1), .val (.int p2), .val (.int p3), .val (.int p4), .val (.int (3 : Int32)), .val (.int c0), .val (.int c1), .val (.int c2), .unset, .unset] [(.ref b), (.ref x), (.ref x)])) rfl (by rw [hml]; rfl) (Steps.refl _) (a := x) (argsL := [(.ref b)]) (rest := [(.ref x)]) (lenOf own_pd13 rfl) rfl (by show 2 * 0 + _ ≤ _; exact Nat.le_of_eq rfl) (own_d hby at_122) (fun _ _ => ⟨rfl, e52, Nat.le_of_ble_eq_true rfl, Nat.le_of_ble_eq_true rfl⟩)
    dsimp only [Pt.U, Pt.locs, Pt.cells, Pt.slots] at X60 l60 y60 z60 st60 hQ60
    subst l60 y60 z60
    obtain ⟨rfl, Nq60, Kq60, Eq60, cd, N2, vs, t, kb, hcd, Cq60, g160, g260, g360, Vq60, Aq60⟩ := hQ60
    have N60 := Fr.app N52 Nq60
    have sf61 := D34.safe A29.lt sf_x
    have lt62 := Nat.lt_of_lt_of_le A29.lt K33.1
    have sf63 := D39.safe lt62 sf61
    have lt64 := Nat.lt_of_lt_of_le lt62 K38.1
    have sf65 := D46.safe lt64 sf63
    have lt66 := Nat.lt_of_lt_of_le lt64 K45.1
    have sf67 := D53.safe lt66 sf65
    have lt68 := Nat.lt_of_lt_of_le lt66 K52.1
    have D69 := CHr.keep Kq60 (sfS sf67 sf0) C54.1
    have C70 := C54.trans D69
    have KK6 : Keep h0 T60.heap ([] : List Addr) := KK5.trans Kq60 (allS (Or.inr s0_x) all0)
    have Zs6 : n0 ≤ T60.heap.size := Nat.le_trans Zs5 Kq60.1
    have e60 : T60.heap = T60.heap := rfl
    have Hx : own_Str Z T60.heap x ([c0, c1, c2] : List Int32) := ⟨Eq60, hp, by simp, cd, N2, vs, t, kb, hcd, Cq60, Vq60, Aq60⟩
    have cc71 : Steps p.tables e below S0' (T60.setTop (mkF m 140 #[.val (.int p1), .val (.int p2), .val (.int p3), .val (.int p4), .val (.int (3 : Int32)), .val (.int c0), .val (.int c1), .val (.int c2), .val (.ref x), .val (.int 0)] [(.int (65533 : Int32)), (.int c0)])) := Steps.trans (Steps.trans cc56 st60) (by
      refine XS.astore X60.here hx rfl (own_d hby at_125) rfl rfl rfl ?_
      refine iconstV X60.here hx rfl 0 (own_d hby at_127) (by decide) ?_
      refine XS.istore X60.here hx rfl (own_d hby at_128) rfl rfl ?_
      refine XS.iload X60.here hx rfl (own_d hby at_130) rfl ?_
      refine iconstV X60.here hx rfl 1 (own_d hby at_132) (by decide) ?_
      refine XS.icmpNo X60.here hx rfl (own_d hby at_133) rfl (ii_lt_f (by decide)) ?_
      refine XS.iload X60.here hx rfl (own_d hby at_136) rfl ?_
      refine X60.ldcI hx hown (mvT hZ w_64) rfl (own_d hby at_138) ?_
      exact Steps.refl _)
    by_cases e0 : c0 = 65533
    · skip
      have cc72 : Steps p.tables e below S0' (T60.setTop (mkF m 156 #[.val (.int p1), .val (.int p2), .val (.int p3), .val (.int p4), .val (.int (3 : Int32)), .val (.int c0), .val (.int c1), .val (.int c2), .val (.ref x), .val (.int 1)] [(.int (65533 : Int32)), (.int c1)])) := Steps.trans cc71 (by
        refine XS.icmpNo X60.here hx rfl (own_d hby at_140) rfl (ii_ne_f e0) ?_
        refine iconstV X60.here hx rfl 1 (own_d hby at_143) (by decide) ?_
        refine XS.istore X60.here hx rfl (own_d hby at_144) rfl rfl ?_
        refine XS.iload X60.here hx rfl (own_d hby at_146) rfl ?_
        refine iconstV X60.here hx rfl 2 (own_d hby at_148) (by decide) ?_
        refine XS.icmpNo X60.here hx rfl (own_d hby at_149) rfl (ii_lt_f (by decide)) ?_
        refine XS.iload X60.here hx rfl (own_d hby at_152) rfl ?_
        refine X60.ldcI hx hown (mvT hZ w_64) rfl (own_d hby at_154) ?_
        exact Steps.refl _)
      by_cases e1 : c1 = 65533
      · skip
        have cc73 : Steps p.tables e below S0' (T60.setTop (mkF m 172 #[.val (.int p1), .val (.int p2), .val (.int p3), .val (.int p4), .val (.int (3 : Int32)), .val (.int c0), .val (.int c1), .val (.int c2), .val (.ref x), .val (.int 1)] [(.int (65533 : Int32)), (.int c2)])) := Steps.trans cc72 (by
          refine XS.icmpNo X60.here hx rfl (own_d hby at_156) rfl (ii_ne_f e1) ?_
          refine iconstV X60.here hx rfl 1 (own_d hby at_159) (by decide) ?_
          refine XS.istore X60.here hx rfl (own_d hby at_160) rfl rfl ?_
          refine XS.iload X60.here hx rfl (own_d hby at_162) rfl ?_
          refine iconstV X60.here hx rfl 3 (own_d hby at_164) (by decide) ?_
          refine XS.icmpNo X60.here hx rfl (own_d hby at_165) rfl (ii_lt_f (by decide)) ?_
          refine XS.iload X60.here hx rfl (own_d hby at_168) rfl ?_
          refine X60.ldcI hx hown (mvT hZ w_64) rfl (own_d hby at_170) ?_
          exact Steps.refl _)
        by_cases e2 : c2 = 65533
        · skip
          have cc75 : Steps p.tables e below S0' (T60.setTop (mkF m 180 #[.val (.int p1), .val (.int p2), .val (.int p3), .val (.int p4), .val (.int (3 : Int32)), .val (.int c0), .val (.int c1), .val (.int c2), .val (.ref x), .val (.int 1)] [(.ref x)])) := Steps.trans cc73 (by
            refine XS.icmpNo X60.here hx rfl (own_d hby at_172) rfl (ii_ne_f e2) ?_
            refine iconstV X60.here hx rfl 1 (own_d hby at_175) (by decide) ?_
            refine XS.istore X60.here hx rfl (own_d hby at_176) rfl rfl ?_
            refine XS.aload X60.here hx rfl (own_d hby at_178) rfl rfl ?_
            exact Steps.refl _)
          have fa74 : Old Z n0 T60.heap := (fa59.keep Kq60 (allS gn_x all0))
          obtain ⟨_, _, ⟨T76, L76, k76, n76⟩, -, X76, ⟨Lc76, hQ76, l76, y76, z76⟩, st76⟩ := Jvm.LawKit.callS X60 hx (y := (⟨"com/example/blodis/blodis/corpus/LocaleText", "lostBytes", "(Ljava/lang/String;)Z"⟩ : MethodName)) hown (mvT hZ w_26) (mvT hZ w_27) (mvT hZ w_28) (mvT hZ w_29) (by decide) (backOf (W := 0) (own_lost l Z a0 hw x ([c0, c1, c2] : List Int32) z f T60.heap n0 Zs6 fa74 O2 P5 O3 O4 hf Hx) hZ w_29 w_28 (by decide) (by decide)) (g := (mkF m 180 #[.val (.int p1), .val (.int p2), .val (.int p3), .val (.int p4), .val (.int (3 : Int32)), .val (.int c0), .val (.int c1), .val (.int c2), .val (.ref x), .val (.int 1)] [(.ref x)])) rfl (by rw [hml]; rfl) (argsL := [(.ref x)]) (rest := []) (lenOf own_pd14 rfl) rfl (by show 2 * 0 + _ ≤ _; exact Nat.le_of_eq rfl) (own_d hby at_180) (fun _ _ => ⟨rfl, e60, Nat.le_of_ble_eq_true rfl, Nat.le_of_ble_eq_true rfl⟩)
          dsimp only [Pt.U, Pt.locs, Pt.cells, Pt.slots] at X76 l76 y76 z76 st76 hQ76
          subst l76 y76 z76
          obtain ⟨rr, rfl, Nq76, eq76, hr⟩ := hQ76
          have N76 := Fr.app N60 Nq76
          have e76 : T76.heap = T60.heap := eq76
          have cc77 : Steps p.tables e below S0' (T76.setTop (mkF m 185 #[.val (.int p1), .val (.int p2), .val (.int p3), .val (.int p4), .val (.int (3 : Int32)), .val (.int c0), .val (.int c1), .val (.int c2), .val (.ref x), .val (.int 1)] [(.int 1), (.int rr)])) := Steps.trans (cc75.trans (st76 _ (Steps.refl _))) (by
            refine XS.iload X76.here hx rfl (own_d hby at_183) rfl ?_
            exact Steps.refl _)
          obtain rfl : rr = 1 := hr.elim (fun q => absurd (by simp [e0, e1, e2]) q.2) (fun q => q.1)
          have cc78 : Steps p.tables e below S0' (T76.setTop (mkF m 193 #[.val (.int p1), .val (.int p2), .val (.int p3), .val (.int p4), .val (.int (3 : Int32)), .val (.int c0), .val (.int c1), .val (.int c2), .val (.ref x), .val (.int 1)] [(.int 1)])) := Steps.trans cc77 (by
            refine XS.icmpNo X76.here hx rfl (own_d hby at_185) rfl (ii_ne_f rfl) ?_
            refine iconstV X76.here hx rfl 1 (own_d hby at_188) (by decide) ?_
            refine XS.goto X76.here hx rfl (pc0 := 189) rfl (own_d hby at_189) (by decide) rfl ?_
            exact Steps.refl _)
          have cE := cc78
          rw [hS0'] at cE
          obtain ⟨fs, hr_, hrun, hended, hE⟩ := X76.leaveW hS0 (by rw [e76]; exact (Nat.le_trans (Nat.le_trans (Nat.le_trans (Nat.le_trans (Nat.le_trans (Nat.le_trans hk0 K29.1) K33.1) K38.1) K45.1) K52.1) Kq60.1)) (v := some (.int 1)) (fun h => by rw [Bd.returns] at h; cases h)
          have CE := C70.trans (CHv.at X76 hZ hEL C70.1)
          refine ⟨_, _, cE.trans (X76.ireturnOut hx Bd.returns (rfl) (by simp) (own_d hby at_193) hr_), hrun, hended, _, _, rfl, ?_, ?_, hE.1, hE.2.1, hE.2.2.1, hE.2.2.2.mono (by first | decide | omega) (by first | decide | omega)⟩
          · show Q_own_law Z p1 p2 p3 p4 z f h0 n0 _ T76.heap _
            rw [e76]
            exact ⟨rfl, N76⟩
          · rw [hh]
            show CHr Z EL s.vm h0 T76.vm T76.heap
            rw [e76]
            exact CE
        · skip
          have cc75 : Steps p.tables e below S0' (T60.setTop (mkF m 180 #[.val (.int p1), .val (.int p2), .val (.int p3), .val (.int p4), .val (.int (3 : Int32)), .val (.int c0), .val (.int c1), .val (.int c2), .val (.ref x), .val (.int 1)] [(.ref x)])) := Steps.trans cc73 (by
            refine XS.icmpYes X60.here hx rfl (pc0 := 172) rfl (own_d hby at_172) rfl (ii_ne_t e2) (by decide) rfl ?_
            refine XS.aload X60.here hx rfl (own_d hby at_178) rfl rfl ?_
            exact Steps.refl _)
          have fa74 : Old Z n0 T60.heap := (fa59.keep Kq60 (allS gn_x all0))
          obtain ⟨_, _, ⟨T76, L76, k76, n76⟩, -, X76, ⟨Lc76, hQ76, l76, y76, z76⟩, st76⟩ := Jvm.LawKit.callS X60 hx (y := (⟨"com/example/blodis/blodis/corpus/LocaleText", "lostBytes", "(Ljava/lang/String;)Z"⟩ : MethodName)) hown (mvT hZ w_26) (mvT hZ w_27) (mvT hZ w_28) (mvT hZ w_29) (by decide) (backOf (W := 0) (own_lost l Z a0 hw x ([c0, c1, c2] : List Int32) z f T60.heap n0 Zs6 fa74 O2 P5 O3 O4 hf Hx) hZ w_29 w_28 (by decide) (by decide)) (g := (mkF m 180 #[.val (.int p1), .val (.int p2), .val (.int p3), .val (.int p4), .val (.int (3 : Int32)), .val (.int c0), .val (.int c1), .val (.int c2), .val (.ref x), .val (.int 1)] [(.ref x)])) rfl (by rw [hml]; rfl) (argsL := [(.ref x)]) (rest := []) (lenOf own_pd14 rfl) rfl (by show 2 * 0 + _ ≤ _; exact Nat.le_of_eq rfl) (own_d hby at_180) (fun _ _ => ⟨rfl, e60, Nat.le_of_ble_eq_true rfl, Nat.le_of_ble_eq_true rfl⟩)
          dsimp only [Pt.U, Pt.locs, Pt.cells, Pt.slots] at X76 l76 y76 z76 st76 hQ76
          subst l76 y76 z76
          obtain ⟨rr, rfl, Nq76, eq76, hr⟩ := hQ76
          have N76 := Fr.app N60 Nq76
          have e76 : T76.heap = T60.heap := eq76
          have cc77 : Steps p.tables e below S0' (T76.setTop (mkF m 185 #[.val (.int p1), .val (.int p2), .val (.int p3), .val (.int p4), .val (.int (3 : Int32)), .val (.int c0), .val (.int c1), .val (.int c2), .val (.ref x), .val (.int 1)] [(.int 1), (.int rr)])) := Steps.trans (cc75.trans (st76 _ (Steps.refl _))) (by
            refine XS.iload X76.here hx rfl (own_d hby at_183) rfl ?_
            exact Steps.refl _)
          obtain rfl : rr = 1 := hr.elim (fun q => absurd (by simp [e0, e1, e2]) q.2) (fun q => q.1)
          have cc78 : Steps p.tables e below S0' (T76.setTop (mkF m 193 #[.val (.int p1), .val (.int p2), .val (.int p3), .val (.int p4), .val (.int (3 : Int32)), .val (.int c0), .val (.int c1), .val (.int c2), .val (.ref x), .val (.int 1)] [(.int 1)])) := Steps.trans cc77 (by
            refine XS.icmpNo X76.here hx rfl (own_d hby at_185) rfl (ii_ne_f rfl) ?_
            refine iconstV X76.here hx rfl 1 (own_d hby at_188) (by decide) ?_
            refine XS.goto X76.here hx rfl (pc0 := 189) rfl (own_d hby at_189) (by decide) rfl ?_
            exact Steps.refl _)
          have cE := cc78
          rw [hS0'] at cE
          obtain ⟨fs, hr_, hrun, hended, hE⟩ := X76.leaveW hS0 (by rw [e76]; exact (Nat.le_trans (Nat.le_trans (Nat.le_trans (Nat.le_trans (Nat.le_trans (Nat.le_trans hk0 K29.1) K33.1) K38.1) K45.1) K52.1) Kq60.1)) (v := some (.int 1)) (fun h => by rw [Bd.returns] at h; cases h)
          have CE := C70.trans (CHv.at X76 hZ hEL C70.1)
          refine ⟨_, _, cE.trans (X76.ireturnOut hx Bd.returns (rfl) (by simp) (own_d hby at_193) hr_), hrun, hended, _, _, rfl, ?_, ?_, hE.1, hE.2.1, hE.2.2.1, hE.2.2.2.mono (by first | decide | omega) (by first | decide | omega)⟩
          · show Q_own_law Z p1 p2 p3 p4 z f h0 n0 _ T76.heap _
            rw [e76]
            exact ⟨rfl, N76⟩
          · rw [hh]
            show CHr Z EL s.vm h0 T76.vm T76.heap
            rw [e76]
            exact CE
      · skip
        have cc73 : Steps p.tables e below S0' (T60.setTop (mkF m 172 #[.val (.int p1), .val (.int p2), .val (.int p3), .val (.int p4), .val (.int (3 : Int32)), .val (.int c0), .val (.int c1), .val (.int c2), .val (.ref x), .val (.int 1)] [(.int (65533 : Int32)), (.int c2)])) := Steps.trans cc72 (by
          refine XS.icmpYes X60.here hx rfl (pc0 := 156) rfl (own_d hby at_156) rfl (ii_ne_t e1) (by decide) rfl ?_
          refine XS.iload X60.here hx rfl (own_d hby at_162) rfl ?_
          refine iconstV X60.here hx rfl 3 (own_d hby at_164) (by decide) ?_
          refine XS.icmpNo X60.here hx rfl (own_d hby at_165) rfl (ii_lt_f (by decide)) ?_
          refine XS.iload X60.here hx rfl (own_d hby at_168) rfl ?_
          refine X60.ldcI hx hown (mvT hZ w_64) rfl (own_d hby at_170) ?_
          exact Steps.refl _)
        by_cases e2 : c2 = 65533
        · skip
          have cc75 : Steps p.tables e below S0' (T60.setTop (mkF m 180 #[.val (.int p1), .val (.int p2), .val (.int p3), .val (.int p4), .val (.int (3 : Int32)), .val (.int c0), .val (.int c1), .val (.int c2), .val (.ref x), .val (.int 1)] [(.ref x)])) := Steps.trans cc73 (by
            refine XS.icmpNo X60.here hx rfl (own_d hby at_172) rfl (ii_ne_f e2) ?_
            refine iconstV X60.here hx rfl 1 (own_d hby at_175) (by decide) ?_
            refine XS.istore X60.here hx rfl (own_d hby at_176) rfl rfl ?_
            refine XS.aload X60.here hx rfl (own_d hby at_178) rfl rfl ?_
            exact Steps.refl _)
          have fa74 : Old Z n0 T60.heap := (fa59.keep Kq60 (allS gn_x all0))
          obtain ⟨_, _, ⟨T76, L76, k76, n76⟩, -, X76, ⟨Lc76, hQ76, l76, y76, z76⟩, st76⟩ := Jvm.LawKit.callS X60 hx (y := (⟨"com/example/blodis/blodis/corpus/LocaleText", "lostBytes", "(Ljava/lang/String;)Z"⟩ : MethodName)) hown (mvT hZ w_26) (mvT hZ w_27) (mvT hZ w_28) (mvT hZ w_29) (by decide) (backOf (W := 0) (own_lost l Z a0 hw x ([c0, c1, c2] : List Int32) z f T60.heap n0 Zs6 fa74 O2 P5 O3 O4 hf Hx) hZ w_29 w_28 (by decide) (by decide)) (g := (mkF m 180 #[.val (.int p1), .val (.int p2), .val (.int p3), .val (.int p4), .val (.int (3 : Int32)), .val (.int c0), .val (.int c1), .val (.int c2), .val (.ref x), .val (.int 1)] [(.ref x)])) rfl (by rw [hml]; rfl) (argsL := [(.ref x)]) (rest := []) (lenOf own_pd14 rfl) rfl (by show 2 * 0 + _ ≤ _; exact Nat.le_of_eq rfl) (own_d hby at_180) (fun _ _ => ⟨rfl, e60, Nat.le_of_ble_eq_true rfl, Nat.le_of_ble_eq_true rfl⟩)
          dsimp only [Pt.U, Pt.locs, Pt.cells, Pt.slots] at X76 l76 y76 z76 st76 hQ76
          subst l76 y76 z76
          obtain ⟨rr, rfl, Nq76, eq76, hr⟩ := hQ76
          have N76 := Fr.app N60 Nq76
          have e76 : T76.heap = T60.heap := eq76
          have cc77 : Steps p.tables e below S0' (T76.setTop (mkF m 185 #[.val (.int p1), .val (.int p2), .val (.int p3), .val (.int p4), .val (.int (3 : Int32)), .val (.int c0), .val (.int c1), .val (.int c2), .val (.ref x), .val (.int 1)] [(.int 1), (.int rr)])) := Steps.trans (cc75.trans (st76 _ (Steps.refl _))) (by
            refine XS.iload X76.here hx rfl (own_d hby at_183) rfl ?_
            exact Steps.refl _)
          obtain rfl : rr = 1 := hr.elim (fun q => absurd (by simp [e0, e1, e2]) q.2) (fun q => q.1)
          have cc78 : Steps p.tables e below S0' (T76.setTop (mkF m 193 #[.val (.int p1), .val (.int p2), .val (.int p3), .val (.int p4), .val (.int (3 : Int32)), .val (.int c0), .val (.int c1), .val (.int c2), .val (.ref x), .val (.int 1)] [(.int 1)])) := Steps.trans cc77 (by
            refine XS.icmpNo X76.here hx rfl (own_d hby at_185) rfl (ii_ne_f rfl) ?_
            refine iconstV X76.here hx rfl 1 (own_d hby at_188) (by decide) ?_
            refine XS.goto X76.here hx rfl (pc0 := 189) rfl (own_d hby at_189) (by decide) rfl ?_
            exact Steps.refl _)
          have cE := cc78
          rw [hS0'] at cE
          obtain ⟨fs, hr_, hrun, hended, hE⟩ := X76.leaveW hS0 (by rw [e76]; exact (Nat.le_trans (Nat.le_trans (Nat.le_trans (Nat.le_trans (Nat.le_trans (Nat.le_trans hk0 K29.1) K33.1) K38.1) K45.1) K52.1) Kq60.1)) (v := some (.int 1)) (fun h => by rw [Bd.returns] at h; cases h)
          have CE := C70.trans (CHv.at X76 hZ hEL C70.1)
          refine ⟨_, _, cE.trans (X76.ireturnOut hx Bd.returns (rfl) (by simp) (own_d hby at_193) hr_), hrun, hended, _, _, rfl, ?_, ?_, hE.1, hE.2.1, hE.2.2.1, hE.2.2.2.mono (by first | decide | omega) (by first | decide | omega)⟩
          · show Q_own_law Z p1 p2 p3 p4 z f h0 n0 _ T76.heap _
            rw [e76]
            exact ⟨rfl, N76⟩
          · rw [hh]
            show CHr Z EL s.vm h0 T76.vm T76.heap
            rw [e76]
            exact CE
        · skip
          have cc75 : Steps p.tables e below S0' (T60.setTop (mkF m 180 #[.val (.int p1), .val (.int p2), .val (.int p3), .val (.int p4), .val (.int (3 : Int32)), .val (.int c0), .val (.int c1), .val (.int c2), .val (.ref x), .val (.int 1)] [(.ref x)])) := Steps.trans cc73 (by
            refine XS.icmpYes X60.here hx rfl (pc0 := 172) rfl (own_d hby at_172) rfl (ii_ne_t e2) (by decide) rfl ?_
            refine XS.aload X60.here hx rfl (own_d hby at_178) rfl rfl ?_
            exact Steps.refl _)
          have fa74 : Old Z n0 T60.heap := (fa59.keep Kq60 (allS gn_x all0))
          obtain ⟨_, _, ⟨T76, L76, k76, n76⟩, -, X76, ⟨Lc76, hQ76, l76, y76, z76⟩, st76⟩ := Jvm.LawKit.callS X60 hx (y := (⟨"com/example/blodis/blodis/corpus/LocaleText", "lostBytes", "(Ljava/lang/String;)Z"⟩ : MethodName)) hown (mvT hZ w_26) (mvT hZ w_27) (mvT hZ w_28) (mvT hZ w_29) (by decide) (backOf (W := 0) (own_lost l Z a0 hw x ([c0, c1, c2] : List Int32) z f T60.heap n0 Zs6 fa74 O2 P5 O3 O4 hf Hx) hZ w_29 w_28 (by decide) (by decide)) (g := (mkF m 180 #[.val (.int p1), .val (.int p2), .val (.int p3), .val (.int p4), .val (.int (3 : Int32)), .val (.int c0), .val (.int c1), .val (.int c2), .val (.ref x), .val (.int 1)] [(.ref x)])) rfl (by rw [hml]; rfl) (argsL := [(.ref x)]) (rest := []) (lenOf own_pd14 rfl) rfl (by show 2 * 0 + _ ≤ _; exact Nat.le_of_eq rfl) (own_d hby at_180) (fun _ _ => ⟨rfl, e60, Nat.le_of_ble_eq_true rfl, Nat.le_of_ble_eq_true rfl⟩)
          dsimp only [Pt.U, Pt.locs, Pt.cells, Pt.slots] at X76 l76 y76 z76 st76 hQ76
          subst l76 y76 z76
          obtain ⟨rr, rfl, Nq76, eq76, hr⟩ := hQ76
          have N76 := Fr.app N60 Nq76
          have e76 : T76.heap = T60.heap := eq76
          have cc77 : Steps p.tables e below S0' (T76.setTop (mkF m 185 #[.val (.int p1), .val (.int p2), .val (.int p3), .val (.int p4), .val (.int (3 : Int32)), .val (.int c0), .val (.int c1), .val (.int c2), .val (.ref x), .val (.int 1)] [(.int 1), (.int rr)])) := Steps.trans (cc75.trans (st76 _ (Steps.refl _))) (by
            refine XS.iload X76.here hx rfl (own_d hby at_183) rfl ?_
            exact Steps.refl _)
          obtain rfl : rr = 1 := hr.elim (fun q => absurd (by simp [e0, e1, e2]) q.2) (fun q => q.1)
          have cc78 : Steps p.tables e below S0' (T76.setTop (mkF m 193 #[.val (.int p1), .val (.int p2), .val (.int p3), .val (.int p4), .val (.int (3 : Int32)), .val (.int c0), .val (.int c1), .val (.int c2), .val (.ref x), .val (.int 1)] [(.int 1)])) := Steps.trans cc77 (by
            refine XS.icmpNo X76.here hx rfl (own_d hby at_185) rfl (ii_ne_f rfl) ?_
            refine iconstV X76.here hx rfl 1 (own_d hby at_188) (by decide) ?_
            refine XS.goto X76.here hx rfl (pc0 := 189) rfl (own_d hby at_189) (by decide) rfl ?_
            exact Steps.refl _)
          have cE := cc78
          rw [hS0'] at cE
          obtain ⟨fs, hr_, hrun, hended, hE⟩ := X76.leaveW hS0 (by rw [e76]; exact (Nat.le_trans (Nat.le_trans (Nat.le_trans (Nat.le_trans (Nat.le_trans (Nat.le_trans hk0 K29.1) K33.1) K38.1) K45.1) K52.1) Kq60.1)) (v := some (.int 1)) (fun h => by rw [Bd.returns] at h; cases h)
          have CE := C70.trans (CHv.at X76 hZ hEL C70.1)
          refine ⟨_, _, cE.trans (X76.ireturnOut hx Bd.returns (rfl) (by simp) (own_d hby at_193) hr_), hrun, hended, _, _, rfl, ?_, ?_, hE.1, hE.2.1, hE.2.2.1, hE.2.2.2.mono (by first | decide | omega) (by first | decide | omega)⟩
          · show Q_own_law Z p1 p2 p3 p4 z f h0 n0 _ T76.heap _
            rw [e76]
            exact ⟨rfl, N76⟩
          · rw [hh]
            show CHr Z EL s.vm h0 T76.vm T76.heap
            rw [e76]
            exact CE
    · skip
      have cc72 : Steps p.tables e below S0' (T60.setTop (mkF m 156 #[.val (.int p1), .val (.int p2), .val (.int p3), .val (.int p4), .val (.int (3 : Int32)), .val (.int c0), .val (.int c1), .val (.int c2), .val (.ref x), .val (.int 0)] [(.int (65533 : Int32)), (.int c1)])) := Steps.trans cc71 (by
        refine XS.icmpYes X60.here hx rfl (pc0 := 140) rfl (own_d hby at_140) rfl (ii_ne_t e0) (by decide) rfl ?_
        refine XS.iload X60.here hx rfl (own_d hby at_146) rfl ?_
        refine iconstV X60.here hx rfl 2 (own_d hby at_148) (by decide) ?_
        refine XS.icmpNo X60.here hx rfl (own_d hby at_149) rfl (ii_lt_f (by decide)) ?_
        refine XS.iload X60.here hx rfl (own_d hby at_152) rfl ?_
        refine X60.ldcI hx hown (mvT hZ w_64) rfl (own_d hby at_154) ?_
        exact Steps.refl _)
      by_cases e1 : c1 = 65533
      · skip
        have cc73 : Steps p.tables e below S0' (T60.setTop (mkF m 172 #[.val (.int p1), .val (.int p2), .val (.int p3), .val (.int p4), .val (.int (3 : Int32)), .val (.int c0), .val (.int c1), .val (.int c2), .val (.ref x), .val (.int 1)] [(.int (65533 : Int32)), (.int c2)])) := Steps.trans cc72 (by
          refine XS.icmpNo X60.here hx rfl (own_d hby at_156) rfl (ii_ne_f e1) ?_
          refine iconstV X60.here hx rfl 1 (own_d hby at_159) (by decide) ?_
          refine XS.istore X60.here hx rfl (own_d hby at_160) rfl rfl ?_
          refine XS.iload X60.here hx rfl (own_d hby at_162) rfl ?_
          refine iconstV X60.here hx rfl 3 (own_d hby at_164) (by decide) ?_
          refine XS.icmpNo X60.here hx rfl (own_d hby at_165) rfl (ii_lt_f (by decide)) ?_
          refine XS.iload X60.here hx rfl (own_d hby at_168) rfl ?_
          refine X60.ldcI hx hown (mvT hZ w_64) rfl (own_d hby at_170) ?_
          exact Steps.refl _)
        by_cases e2 : c2 = 65533
        · skip
          have cc75 : Steps p.tables e below S0' (T60.setTop (mkF m 180 #[.val (.int p1), .val (.int p2), .val (.int p3), .val (.int p4), .val (.int (3 : Int32)), .val (.int c0), .val (.int c1), .val (.int c2), .val (.ref x), .val (.int 1)] [(.ref x)])) := Steps.trans cc73 (by
            refine XS.icmpNo X60.here hx rfl (own_d hby at_172) rfl (ii_ne_f e2) ?_
            refine iconstV X60.here hx rfl 1 (own_d hby at_175) (by decide) ?_
            refine XS.istore X60.here hx rfl (own_d hby at_176) rfl rfl ?_
            refine XS.aload X60.here hx rfl (own_d hby at_178) rfl rfl ?_
            exact Steps.refl _)
          have fa74 : Old Z n0 T60.heap := (fa59.keep Kq60 (allS gn_x all0))
          obtain ⟨_, _, ⟨T76, L76, k76, n76⟩, -, X76, ⟨Lc76, hQ76, l76, y76, z76⟩, st76⟩ := Jvm.LawKit.callS X60 hx (y := (⟨"com/example/blodis/blodis/corpus/LocaleText", "lostBytes", "(Ljava/lang/String;)Z"⟩ : MethodName)) hown (mvT hZ w_26) (mvT hZ w_27) (mvT hZ w_28) (mvT hZ w_29) (by decide) (backOf (W := 0) (own_lost l Z a0 hw x ([c0, c1, c2] : List Int32) z f T60.heap n0 Zs6 fa74 O2 P5 O3 O4 hf Hx) hZ w_29 w_28 (by decide) (by decide)) (g := (mkF m 180 #[.val (.int p1), .val (.int p2), .val (.int p3), .val (.int p4), .val (.int (3 : Int32)), .val (.int c0), .val (.int c1), .val (.int c2), .val (.ref x), .val (.int 1)] [(.ref x)])) rfl (by rw [hml]; rfl) (argsL := [(.ref x)]) (rest := []) (lenOf own_pd14 rfl) rfl (by show 2 * 0 + _ ≤ _; exact Nat.le_of_eq rfl) (own_d hby at_180) (fun _ _ => ⟨rfl, e60, Nat.le_of_ble_eq_true rfl, Nat.le_of_ble_eq_true rfl⟩)
          dsimp only [Pt.U, Pt.locs, Pt.cells, Pt.slots] at X76 l76 y76 z76 st76 hQ76
          subst l76 y76 z76
          obtain ⟨rr, rfl, Nq76, eq76, hr⟩ := hQ76
          have N76 := Fr.app N60 Nq76
          have e76 : T76.heap = T60.heap := eq76
          have cc77 : Steps p.tables e below S0' (T76.setTop (mkF m 185 #[.val (.int p1), .val (.int p2), .val (.int p3), .val (.int p4), .val (.int (3 : Int32)), .val (.int c0), .val (.int c1), .val (.int c2), .val (.ref x), .val (.int 1)] [(.int 1), (.int rr)])) := Steps.trans (cc75.trans (st76 _ (Steps.refl _))) (by
            refine XS.iload X76.here hx rfl (own_d hby at_183) rfl ?_
            exact Steps.refl _)
          obtain rfl : rr = 1 := hr.elim (fun q => absurd (by simp [e0, e1, e2]) q.2) (fun q => q.1)
          have cc78 : Steps p.tables e below S0' (T76.setTop (mkF m 193 #[.val (.int p1), .val (.int p2), .val (.int p3), .val (.int p4), .val (.int (3 : Int32)), .val (.int c0), .val (.int c1), .val (.int c2), .val (.ref x), .val (.int 1)] [(.int 1)])) := Steps.trans cc77 (by
            refine XS.icmpNo X76.here hx rfl (own_d hby at_185) rfl (ii_ne_f rfl) ?_
            refine iconstV X76.here hx rfl 1 (own_d hby at_188) (by decide) ?_
            refine XS.goto X76.here hx rfl (pc0 := 189) rfl (own_d hby at_189) (by decide) rfl ?_
            exact Steps.refl _)
          have cE := cc78
          rw [hS0'] at cE
          obtain ⟨fs, hr_, hrun, hended, hE⟩ := X76.leaveW hS0 (by rw [e76]; exact (Nat.le_trans (Nat.le_trans (Nat.le_trans (Nat.le_trans (Nat.le_trans (Nat.le_trans hk0 K29.1) K33.1) K38.1) K45.1) K52.1) Kq60.1)) (v := some (.int 1)) (fun h => by rw [Bd.returns] at h; cases h)
          have CE := C70.trans (CHv.at X76 hZ hEL C70.1)
          refine ⟨_, _, cE.trans (X76.ireturnOut hx Bd.returns (rfl) (by simp) (own_d hby at_193) hr_), hrun, hended, _, _, rfl, ?_, ?_, hE.1, hE.2.1, hE.2.2.1, hE.2.2.2.mono (by first | decide | omega) (by first | decide | omega)⟩
          · show Q_own_law Z p1 p2 p3 p4 z f h0 n0 _ T76.heap _
            rw [e76]
            exact ⟨rfl, N76⟩
          · rw [hh]
            show CHr Z EL s.vm h0 T76.vm T76.heap
            rw [e76]
            exact CE
        · skip
          have cc75 : Steps p.tables e below S0' (T60.setTop (mkF m 180 #[.val (.int p1), .val (.int p2), .val (.int p3), .val (.int p4), .val (.int (3 : Int32)), .val (.int c0), .val (.int c1), .val (.int c2), .val (.ref x), .val (.int 1)] [(.ref x)])) := Steps.trans cc73 (by
            refine XS.icmpYes X60.here hx rfl (pc0 := 172) rfl (own_d hby at_172) rfl (ii_ne_t e2) (by decide) rfl ?_
            refine XS.aload X60.here hx rfl (own_d hby at_178) rfl rfl ?_
            exact Steps.refl _)
          have fa74 : Old Z n0 T60.heap := (fa59.keep Kq60 (allS gn_x all0))
          obtain ⟨_, _, ⟨T76, L76, k76, n76⟩, -, X76, ⟨Lc76, hQ76, l76, y76, z76⟩, st76⟩ := Jvm.LawKit.callS X60 hx (y := (⟨"com/example/blodis/blodis/corpus/LocaleText", "lostBytes", "(Ljava/lang/String;)Z"⟩ : MethodName)) hown (mvT hZ w_26) (mvT hZ w_27) (mvT hZ w_28) (mvT hZ w_29) (by decide) (backOf (W := 0) (own_lost l Z a0 hw x ([c0, c1, c2] : List Int32) z f T60.heap n0 Zs6 fa74 O2 P5 O3 O4 hf Hx) hZ w_29 w_28 (by decide) (by decide)) (g := (mkF m 180 #[.val (.int p1), .val (.int p2), .val (.int p3), .val (.int p4), .val (.int (3 : Int32)), .val (.int c0), .val (.int c1), .val (.int c2), .val (.ref x), .val (.int 1)] [(.ref x)])) rfl (by rw [hml]; rfl) (argsL := [(.ref x)]) (rest := []) (lenOf own_pd14 rfl) rfl (by show 2 * 0 + _ ≤ _; exact Nat.le_of_eq rfl) (own_d hby at_180) (fun _ _ => ⟨rfl, e60, Nat.le_of_ble_eq_true rfl, Nat.le_of_ble_eq_true rfl⟩)
          dsimp only [Pt.U, Pt.locs, Pt.cells, Pt.slots] at X76 l76 y76 z76 st76 hQ76
          subst l76 y76 z76
          obtain ⟨rr, rfl, Nq76, eq76, hr⟩ := hQ76
          have N76 := Fr.app N60 Nq76
          have e76 : T76.heap = T60.heap := eq76
          have cc77 : Steps p.tables e below S0' (T76.setTop (mkF m 185 #[.val (.int p1), .val (.int p2), .val (.int p3), .val (.int p4), .val (.int (3 : Int32)), .val (.int c0), .val (.int c1), .val (.int c2), .val (.ref x), .val (.int 1)] [(.int 1), (.int rr)])) := Steps.trans (cc75.trans (st76 _ (Steps.refl _))) (by
            refine XS.iload X76.here hx rfl (own_d hby at_183) rfl ?_
            exact Steps.refl _)
          obtain rfl : rr = 1 := hr.elim (fun q => absurd (by simp [e0, e1, e2]) q.2) (fun q => q.1)
          have cc78 : Steps p.tables e below S0' (T76.setTop (mkF m 193 #[.val (.int p1), .val (.int p2), .val (.int p3), .val (.int p4), .val (.int (3 : Int32)), .val (.int c0), .val (.int c1), .val (.int c2), .val (.ref x), .val (.int 1)] [(.int 1)])) := Steps.trans cc77 (by
            refine XS.icmpNo X76.here hx rfl (own_d hby at_185) rfl (ii_ne_f rfl) ?_
            refine iconstV X76.here hx rfl 1 (own_d hby at_188) (by decide) ?_
            refine XS.goto X76.here hx rfl (pc0 := 189) rfl (own_d hby at_189) (by decide) rfl ?_
            exact Steps.refl _)
          have cE := cc78
          rw [hS0'] at cE
          obtain ⟨fs, hr_, hrun, hended, hE⟩ := X76.leaveW hS0 (by rw [e76]; exact (Nat.le_trans (Nat.le_trans (Nat.le_trans (Nat.le_trans (Nat.le_trans (Nat.le_trans hk0 K29.1) K33.1) K38.1) K45.1) K52.1) Kq60.1)) (v := some (.int 1)) (fun h => by rw [Bd.returns] at h; cases h)
          have CE := C70.trans (CHv.at X76 hZ hEL C70.1)
          refine ⟨_, _, cE.trans (X76.ireturnOut hx Bd.returns (rfl) (by simp) (own_d hby at_193) hr_), hrun, hended, _, _, rfl, ?_, ?_, hE.1, hE.2.1, hE.2.2.1, hE.2.2.2.mono (by first | decide | omega) (by first | decide | omega)⟩
          · show Q_own_law Z p1 p2 p3 p4 z f h0 n0 _ T76.heap _
            rw [e76]
            exact ⟨rfl, N76⟩
          · rw [hh]
            show CHr Z EL s.vm h0 T76.vm T76.heap
            rw [e76]
            exact CE
      · skip
        have cc73 : Steps p.tables e below S0' (T60.setTop (mkF m 172 #[.val (.int p1), .val (.int p2), .val (.int p3), .val (.int p4), .val (.int (3 : Int32)), .val (.int c0), .val (.int c1), .val (.int c2), .val (.ref x), .val (.int 0)] [(.int (65533 : Int32)), (.int c2)])) := Steps.trans cc72 (by
          refine XS.icmpYes X60.here hx rfl (pc0 := 156) rfl (own_d hby at_156) rfl (ii_ne_t e1) (by decide) rfl ?_
          refine XS.iload X60.here hx rfl (own_d hby at_162) rfl ?_
          refine iconstV X60.here hx rfl 3 (own_d hby at_164) (by decide) ?_
          refine XS.icmpNo X60.here hx rfl (own_d hby at_165) rfl (ii_lt_f (by decide)) ?_
          refine XS.iload X60.here hx rfl (own_d hby at_168) rfl ?_
          refine X60.ldcI hx hown (mvT hZ w_64) rfl (own_d hby at_170) ?_
          exact Steps.refl _)
        by_cases e2 : c2 = 65533
        · skip
          have cc75 : Steps p.tables e below S0' (T60.setTop (mkF m 180 #[.val (.int p1), .val (.int p2), .val (.int p3), .val (.int p4), .val (.int (3 : Int32)), .val (.int c0), .val (.int c1), .val (.int c2), .val (.ref x), .val (.int 1)] [(.ref x)])) := Steps.trans cc73 (by
            refine XS.icmpNo X60.here hx rfl (own_d hby at_172) rfl (ii_ne_f e2) ?_
            refine iconstV X60.here hx rfl 1 (own_d hby at_175) (by decide) ?_
            refine XS.istore X60.here hx rfl (own_d hby at_176) rfl rfl ?_
            refine XS.aload X60.here hx rfl (own_d hby at_178) rfl rfl ?_
            exact Steps.refl _)
          have fa74 : Old Z n0 T60.heap := (fa59.keep Kq60 (allS gn_x all0))
          obtain ⟨_, _, ⟨T76, L76, k76, n76⟩, -, X76, ⟨Lc76, hQ76, l76, y76, z76⟩, st76⟩ := Jvm.LawKit.callS X60 hx (y := (⟨"com/example/blodis/blodis/corpus/LocaleText", "lostBytes", "(Ljava/lang/String;)Z"⟩ : MethodName)) hown (mvT hZ w_26) (mvT hZ w_27) (mvT hZ w_28) (mvT hZ w_29) (by decide) (backOf (W := 0) (own_lost l Z a0 hw x ([c0, c1, c2] : List Int32) z f T60.heap n0 Zs6 fa74 O2 P5 O3 O4 hf Hx) hZ w_29 w_28 (by decide) (by decide)) (g := (mkF m 180 #[.val (.int p1), .val (.int p2), .val (.int p3), .val (.int p4), .val (.int (3 : Int32)), .val (.int c0), .val (.int c1), .val (.int c2), .val (.ref x), .val (.int 1)] [(.ref x)])) rfl (by rw [hml]; rfl) (argsL := [(.ref x)]) (rest := []) (lenOf own_pd14 rfl) rfl (by show 2 * 0 + _ ≤ _; exact Nat.le_of_eq rfl) (own_d hby at_180) (fun _ _ => ⟨rfl, e60, Nat.le_of_ble_eq_true rfl, Nat.le_of_ble_eq_true rfl⟩)
          dsimp only [Pt.U, Pt.locs, Pt.cells, Pt.slots] at X76 l76 y76 z76 st76 hQ76
          subst l76 y76 z76
          obtain ⟨rr, rfl, Nq76, eq76, hr⟩ := hQ76
          have N76 := Fr.app N60 Nq76
          have e76 : T76.heap = T60.heap := eq76
          have cc77 : Steps p.tables e below S0' (T76.setTop (mkF m 185 #[.val (.int p1), .val (.int p2), .val (.int p3), .val (.int p4), .val (.int (3 : Int32)), .val (.int c0), .val (.int c1), .val (.int c2), .val (.ref x), .val (.int 1)] [(.int 1), (.int rr)])) := Steps.trans (cc75.trans (st76 _ (Steps.refl _))) (by
            refine XS.iload X76.here hx rfl (own_d hby at_183) rfl ?_
            exact Steps.refl _)
          obtain rfl : rr = 1 := hr.elim (fun q => absurd (by simp [e0, e1, e2]) q.2) (fun q => q.1)
          have cc78 : Steps p.tables e below S0' (T76.setTop (mkF m 193 #[.val (.int p1), .val (.int p2), .val (.int p3), .val (.int p4), .val (.int (3 : Int32)), .val (.int c0), .val (.int c1), .val (.int c2), .val (.ref x), .val (.int 1)] [(.int 1)])) := Steps.trans cc77 (by
            refine XS.icmpNo X76.here hx rfl (own_d hby at_185) rfl (ii_ne_f rfl) ?_
            refine iconstV X76.here hx rfl 1 (own_d hby at_188) (by decide) ?_
            refine XS.goto X76.here hx rfl (pc0 := 189) rfl (own_d hby at_189) (by decide) rfl ?_
            exact Steps.refl _)
          have cE := cc78
          rw [hS0'] at cE
          obtain ⟨fs, hr_, hrun, hended, hE⟩ := X76.leaveW hS0 (by rw [e76]; exact (Nat.le_trans (Nat.le_trans (Nat.le_trans (Nat.le_trans (Nat.le_trans (Nat.le_trans hk0 K29.1) K33.1) K38.1) K45.1) K52.1) Kq60.1)) (v := some (.int 1)) (fun h => by rw [Bd.returns] at h; cases h)
          have CE := C70.trans (CHv.at X76 hZ hEL C70.1)
          refine ⟨_, _, cE.trans (X76.ireturnOut hx Bd.returns (rfl) (by simp) (own_d hby at_193) hr_), hrun, hended, _, _, rfl, ?_, ?_, hE.1, hE.2.1, hE.2.2.1, hE.2.2.2.mono (by first | decide | omega) (by first | decide | omega)⟩
          · show Q_own_law Z p1 p2 p3 p4 z f h0 n0 _ T76.heap _
            rw [e76]
            exact ⟨rfl, N76⟩
          · rw [hh]
            show CHr Z EL s.vm h0 T76.vm T76.heap
            rw [e76]
            exact CE
        · skip
          have cc75 : Steps p.tables e below S0' (T60.setTop (mkF m 180 #[.val (.int p1), .val (.int p2), .val (.int p3), .val (.int p4), .val (.int (3 : Int32)), .val (.int c0), .val (.int c1), .val (.int c2), .val (.ref x), .val (.int 0)] [(.ref x)])) := Steps.trans cc73 (by
            refine XS.icmpYes X60.here hx rfl (pc0 := 172) rfl (own_d hby at_172) rfl (ii_ne_t e2) (by decide) rfl ?_
            refine XS.aload X60.here hx rfl (own_d hby at_178) rfl rfl ?_
            exact Steps.refl _)
          have fa74 : Old Z n0 T60.heap := (fa59.keep Kq60 (allS gn_x all0))
          obtain ⟨_, _, ⟨T76, L76, k76, n76⟩, -, X76, ⟨Lc76, hQ76, l76, y76, z76⟩, st76⟩ := Jvm.LawKit.callS X60 hx (y := (⟨"com/example/blodis/blodis/corpus/LocaleText", "lostBytes", "(Ljava/lang/String;)Z"⟩ : MethodName)) hown (mvT hZ w_26) (mvT hZ w_27) (mvT hZ w_28) (mvT hZ w_29) (by decide) (backOf (W := 0) (own_lost l Z a0 hw x ([c0, c1, c2] : List Int32) z f T60.heap n0 Zs6 fa74 O2 P5 O3 O4 hf Hx) hZ w_29 w_28 (by decide) (by decide)) (g := (mkF m 180 #[.val (.int p1), .val (.int p2), .val (.int p3), .val (.int p4), .val (.int (3 : Int32)), .val (.int c0), .val (.int c1), .val (.int c2), .val (.ref x), .val (.int 0)] [(.ref x)])) rfl (by rw [hml]; rfl) (argsL := [(.ref x)]) (rest := []) (lenOf own_pd14 rfl) rfl (by show 2 * 0 + _ ≤ _; exact Nat.le_of_eq rfl) (own_d hby at_180) (fun _ _ => ⟨rfl, e60, Nat.le_of_ble_eq_true rfl, Nat.le_of_ble_eq_true rfl⟩)
          dsimp only [Pt.U, Pt.locs, Pt.cells, Pt.slots] at X76 l76 y76 z76 st76 hQ76
          subst l76 y76 z76
          obtain ⟨rr, rfl, Nq76, eq76, hr⟩ := hQ76
          have N76 := Fr.app N60 Nq76
          have e76 : T76.heap = T60.heap := eq76
          have cc77 : Steps p.tables e below S0' (T76.setTop (mkF m 185 #[.val (.int p1), .val (.int p2), .val (.int p3), .val (.int p4), .val (.int (3 : Int32)), .val (.int c0), .val (.int c1), .val (.int c2), .val (.ref x), .val (.int 0)] [(.int 0), (.int rr)])) := Steps.trans (cc75.trans (st76 _ (Steps.refl _))) (by
            refine XS.iload X76.here hx rfl (own_d hby at_183) rfl ?_
            exact Steps.refl _)
          obtain rfl : rr = 0 := hr.elim (fun q => q.1) (fun q => absurd q.2 (by simp [Ne.symm e0, Ne.symm e1, Ne.symm e2]))
          have cc78 : Steps p.tables e below S0' (T76.setTop (mkF m 193 #[.val (.int p1), .val (.int p2), .val (.int p3), .val (.int p4), .val (.int (3 : Int32)), .val (.int c0), .val (.int c1), .val (.int c2), .val (.ref x), .val (.int 0)] [(.int 1)])) := Steps.trans cc77 (by
            refine XS.icmpNo X76.here hx rfl (own_d hby at_185) rfl (ii_ne_f rfl) ?_
            refine iconstV X76.here hx rfl 1 (own_d hby at_188) (by decide) ?_
            refine XS.goto X76.here hx rfl (pc0 := 189) rfl (own_d hby at_189) (by decide) rfl ?_
            exact Steps.refl _)
          have cE := cc78
          rw [hS0'] at cE
          obtain ⟨fs, hr_, hrun, hended, hE⟩ := X76.leaveW hS0 (by rw [e76]; exact (Nat.le_trans (Nat.le_trans (Nat.le_trans (Nat.le_trans (Nat.le_trans (Nat.le_trans hk0 K29.1) K33.1) K38.1) K45.1) K52.1) Kq60.1)) (v := some (.int 1)) (fun h => by rw [Bd.returns] at h; cases h)
          have CE := C70.trans (CHv.at X76 hZ hEL C70.1)
          refine ⟨_, _, cE.trans (X76.ireturnOut hx Bd.returns (rfl) (by simp) (own_d hby at_193) hr_), hrun, hended, _, _, rfl, ?_, ?_, hE.1, hE.2.1, hE.2.2.1, hE.2.2.2.mono (by first | decide | omega) (by first | decide | omega)⟩
          · show Q_own_law Z p1 p2 p3 p4 z f h0 n0 _ T76.heap _
            rw [e76]
            exact ⟨rfl, N76⟩
          · rw [hh]
            show CHr Z EL s.vm h0 T76.vm T76.heap
            rw [e76]
            exact CE
theorem own_eqS {args : Array Value} {s : State} {C n d : String} {k : Int32} (h : (Jvm.Cond.eq (Term.static C n d) (Term.int k)).before args s = true) : (Term.static C n d).eval args s none [] s = some (.int k) := by
  have hv := Cond.before_iff.mp h
  obtain ⟨a, b, ha, hb, -, hk⟩ := cmp_v (Or.inl hv)
  obtain rfl : b = .int k := Option.some.inj (hb.symm.trans (Term.int_eval k))
  obtain ⟨z, rfl⟩ := hk
  have e : z = k := gotT (Cond.eq_ints ha (Term.int_eval k)) hv
  rw [ha, e]
set_option maxRecDepth 65536 in
set_option maxHeartbeats 40000000 in
theorem comes_1 {Post : Tables → Env → Array Value → State → Outcome → State → Prop} (hpost : ∀ tb e args s v u, (limb_1_1.after args s (.returned v) u = true ∧ limb_1_2.after args s (.returned v) u = true ∧ True) → ReturnedEndW s (.returned v) u (Jvm.fieldLocs frame_1_writes args s ++ Jvm.arrayLocs frame_1_arrays args s ++ Jvm.staticLocs frame_1_statics s) 24 1152 → Post tb e args s (.returned v) u) :
    ArmFor flags0 classFile x code maxLocals ret World_1 tables_1 room_1 Calls_1 rest_1 Pre_1 Post := by
  intro l hfl _ _ p e ha hc hk s m args below hf hA hF happ hP
  obtain ⟨hcalls, hrest, hpre⟩ := hP
  obtain ⟨-, -, -, hnamed, -, -, -, hat⟩ := (Spec.applies_iff hf).mp happ
  obtain ⟨hg, hn⟩ := and_e (Cond.before_iff.mp (show (Jvm.Cond.and given_1 narrow_1).before args s = true from hpre))
  obtain ⟨hcnt, g0⟩ := and_e hg
  obtain ⟨hi0, g1⟩ := and_e g0
  obtain ⟨hi1, g2⟩ := and_e g1
  obtain ⟨hi2, g3⟩ := and_e g2
  obtain ⟨w0, w1, w2, w3, rfl⟩ : ∃ w0 w1 w2 w3 : Value, args = #[w0, w1, w2, w3] := by
    have hs : args.size = 4 := by simpa [Cond.value, given_1] using hcnt
    obtain ⟨L⟩ := args
    match L, hs with
    | [w0, w1, w2, w3], _ => exact ⟨w0, w1, w2, w3, rfl⟩
  have hw := fun d (hd : d ∈ tables_1) => atoms_spec (ws := Jvm.Cond.code x code maxLocals ret :: tables_1) hat d (List.mem_cons_of_mem _ hd)
  obtain ⟨hsets, hown0⟩ := atoms_of _ (rest_1_c_eq ▸ (show rest_1_c.before _ s = true from hrest))
  obtain ⟨i0, e0⟩ := is_v hi0
  obtain rfl : w0 = (.int i0) := Option.some.inj e0
  obtain ⟨i1, e1⟩ := is_v hi1
  obtain rfl : w1 = (.int i1) := Option.some.inj e1
  obtain ⟨i2, e2⟩ := is_v hi2
  obtain rfl : w2 = (.int i2) := Option.some.inj e2
  obtain ⟨i3, e3⟩ := is_v g3
  obtain rfl : w3 = (.int i3) := Option.some.inj e3
  have n5 := not_v (Cond.before_iff.mp (hsets _ (List.mem_of_getElem? (i := 2) rfl)))
  obtain ⟨z, ez⟩ := is_v (Cond.before_iff.mp (hsets _ (List.mem_of_getElem? (i := 1) rfl)))
  have S12 : Sta s s.heap "java/lang/String" "COMPACT_STRINGS" "Z" (.int z) := Sta.start ez (Or.inl (hsets _ (List.mem_of_getElem? (i := 0) rfl)))
  have c17 : ¬ (z = (0 : Int32)) := gotF (Cond.eq_ints ez (Term.int_eval (0))) n5
  have O3 : StrChars.Road.U3Z s s.heap := ⟨Sta.start (own_eqS (hsets _ (List.mem_of_getElem? (i := 12) rfl))) (Or.inl (hsets _ (List.mem_of_getElem? (i := 11) rfl))), Sta.start (own_eqS (hsets _ (List.mem_of_getElem? (i := 15) rfl))) (Or.inl (hsets _ (List.mem_of_getElem? (i := 14) rfl))), Sta.start (own_eqS (hsets _ (List.mem_of_getElem? (i := 18) rfl))) (Or.inl (hsets _ (List.mem_of_getElem? (i := 17) rfl)))⟩
  obtain ⟨G3, e14, rG3⟩ := isR_v (Cond.before_iff.mp (hsets _ (List.mem_of_getElem? (i := 8) rfl)))
  have O4 : Sta s s.heap "jdk/internal/util/Preconditions" "SIOOBE_FORMATTER" "Ljava/util/function/BiFunction;" G3 := Sta.start e14 (Or.inl (hsets _ (List.mem_of_getElem? (i := 7) rfl)))
  have hCH0 : CHv s EL s.vm s.heap := CHv.start (own_EW hw) (fun p hp => hcalls.1 p hp) (hsets _ (List.mem_of_getElem? (i := 2) rfl)) (hw _ (List.mem_of_getElem? (i := 19) rfl)) (hw _ (List.mem_of_getElem? (i := 5) rfl))
  obtain ⟨n, o, h1, h2, h3, _, L, rfl, ⟨rfl, N⟩, -, hq⟩ := own_law l s _ hw tables_1 i0 i1 i2 i3 z G3 s.heap s.heap.size (Nat.le_refl _) (Old.start s) S12 c17 O3 O4 rG3 p e ha hc hk s m _ below hf ((Spec.applies_iff_loose hf).mp happ).1 ⟨rfl, State.Warmed39.refl s, rfl, hCH0⟩ trivial
  refine ⟨n, _, h1, h2, h3, hpost _ _ _ _ _ _ ⟨Cond.after_iff.mpr rfl, Cond.after_iff.mpr (eq_i res_at (Term.int_eval (1)) rfl), trivial⟩ ⟨hq.1, hq.2.1, hq.2.2.1, (hq.2.2.2.sift fun y hy => Or.inr (N y hy)).mono (by decide) (by decide)⟩⟩
theorem main_1_1 : Claimed_1_1 := comes_1 fun _ _ _ _ _ _ h hF => ⟨h.1, hF⟩
theorem main_1_2 : Claimed_1_2 := comes_1 fun _ _ _ _ _ _ h hF => ⟨h.2.1, hF⟩
end Jvm.Pilot.@@N@@
namespace Jvm.Pilot.@@N@@
open Jvm Jvm.ClassFile Sem Op Lib Jvm.Free Jvm.Stand Jvm.Pilot.@@N@@.Jvm.D
/-! MADE BY PROGRAM (witnessworld.py) out of the Statement's table words and the real class files: 21 classes; the members and pool entries that the words name. The judged class is class 1, her method 2. -/
namespace start1
open Jvm.ClassFile
def u (s : String) : CpInfo := .utf8 (stringToUtf16 s)
/-- a pool by its gaps: so many unusable entries, then the entry; so many at the end -/
def gap : Nat → List CpInfo → List CpInfo
  | 0, r => r
  | n + 1, r => .unusable :: gap n r
def poolList (es : List (Nat × CpInfo)) (last : Nat) : List CpInfo := es.foldr (fun e r => gap e.1 (e.2 :: r)) (gap last [])
def pool (es : List (Nat × CpInfo)) (last : Nat) : Array CpInfo := ⟨poolList es last⟩
def fileOf (pool : Array CpInfo) (this : Nat) (attrs : Array Attribute := #[]) (ms : Array MethodInfo := #[]) (fl : Nat := 33) (sup : Nat := 0) (ifs : Array Nat := #[]) (fds : Array FieldInfo := #[]) : ClassFile where
  minorVersion := 0
  majorVersion := 65
  constantPool := pool
  accessFlags := fl
  thisClass := this
  superClass := sup
  interfaces := ifs
  fields := fds
  methods := ms
  attributes := attrs
def plain (name : String) (sup : Option ClassId) : Class where
  name := name
  kind := .ordinary
  loader := none
  accessFlags := 33
  super := sup
  interfaces := #[]
  cf := none
  fields := #[]
  methods := #[]
  instanceTypes := #[]
  staticTypes := #[]
  resolved := #[]
  callSites := []
  init := .initialized
  statics := none
  mirror := none

def pool0 : Array CpInfo := pool [(5, u "<init>"), (0, u "()V"), (1, .class_ 10), (1, u "java/lang/Object")] 113

def k0c0 : Code := { maxStack := 0, maxLocals := 1, code := object_method_1_code, exceptionTable := #[], attributes := #[] }
def k0m0 : Method := { name := "<init>", desc := "()V", sig := { parameters := [], returnType := none }, accessFlags := 1, code := some k0c0 }
/-- java/lang/Object -/
def k0 : Class := { plain "java/lang/Object" none with
  accessFlags := 33
  interfaces := #[]
  cf := some (fileOf pool0 8 #[] #[{ accessFlags := 1, nameIndex := 5, descriptorIndex := 6, attributes := #[] }] 33 0 #[] #[])
  fields := #[]
  methods := #[k0m0]
  instanceTypes := #[]
  staticTypes := #[]
  resolved := Array.replicate 124 none
  statics := none }

def pool1 : Array CpInfo := pool [(2, .class_ 4), (1, u "java/lang/Object"), (0, u "<init>"), (0, u "()V"), (0, .integer 65533), (0, .methodref 9 10), (0, .class_ 11), (0, .nameAndType 12 13), (0, u "com/example/blodis/blodis/corpus/LocaleTextLostBytesPinLaw"), (0, u "draw"), (0, u "(I)C"), (0, .class_ 15), (0, u "java/lang/String"), (0, .methodref 14 17), (0, .nameAndType 5 18), (0, u "([C)V"), (0, .methodref 20 21), (0, .class_ 22), (0, .nameAndType 23 24), (0, u "com/example/blodis/blodis/corpus/LocaleText"), (0, u "lostBytes"), (0, u "(Ljava/lang/String;)Z"), (3, u "law"), (0, u "(IIII)Z")] 2

def k1m0 : Method := { name := "<init>", desc := "()V", sig := { parameters := [], returnType := none }, accessFlags := 2, code := none }
def k1c1 : Code := { maxStack := 2, maxLocals := 1, code := method_2_code, exceptionTable := #[], attributes := #[] }
def k1m1 : Method := { name := "draw", desc := "(I)C", sig := { parameters := [.int], returnType := some .char }, accessFlags := 10, code := some k1c1 }
def k1c2 : Code := { maxStack := 6, maxLocals := 10, code := code, exceptionTable := #[], attributes := #[] }
def k1m2 : Method := { name := "law", desc := "(IIII)Z", sig := { parameters := [.int, .int, .int, .int], returnType := some .boolean }, accessFlags := 9, code := some k1c2 }
/-- com/example/blodis/blodis/corpus/LocaleTextLostBytesPinLaw -/
def k1 : Class := { plain "com/example/blodis/blodis/corpus/LocaleTextLostBytesPinLaw" (some 0) with
  accessFlags := 49
  interfaces := #[]
  cf := some (fileOf pool1 9 #[] #[{ accessFlags := 2, nameIndex := 5, descriptorIndex := 6, attributes := #[] }, { accessFlags := 10, nameIndex := 12, descriptorIndex := 13, attributes := #[] }, { accessFlags := 9, nameIndex := 28, descriptorIndex := 29, attributes := #[] }] 49 2 #[] #[])
  fields := #[]
  methods := #[k1m0, k1m1, k1m2]
  instanceTypes := #[]
  staticTypes := #[]
  resolved := Array.replicate 32 none
  statics := none }

def pool2 : Array CpInfo := pool [(1, .class_ 2), (0, u "java/io/Serializable"), (0, .class_ 4), (0, u "java/lang/Object")] 2

/-- java/io/Serializable -/
def k2 : Class := { plain "java/io/Serializable" (some 0) with
  accessFlags := 1537
  interfaces := #[]
  cf := some (fileOf pool2 1 #[] #[] 1537 3 #[] #[])
  fields := #[]
  methods := #[]
  instanceTypes := #[]
  staticTypes := #[]
  resolved := Array.replicate 7 none
  statics := none }

def pool3 : Array CpInfo := pool [(1, .class_ 2), (0, u "java/lang/Comparable"), (0, .class_ 4), (0, u "java/lang/Object")] 7

/-- java/lang/Comparable -/
def k3 : Class := { plain "java/lang/Comparable" (some 0) with
  accessFlags := 1537
  interfaces := #[]
  cf := some (fileOf pool3 1 #[] #[] 1537 3 #[] #[])
  fields := #[]
  methods := #[]
  instanceTypes := #[]
  staticTypes := #[]
  resolved := Array.replicate 12 none
  statics := none }

def pool4 : Array CpInfo := pool [(2, .class_ 4), (1, u "java/lang/CharSequence"), (42, .class_ 48), (0, u "java/lang/CharSequence$1CodePointIterator"), (10, .class_ 60), (0, u "java/lang/CharSequence$1CharIterator"), (5, .class_ 67), (0, u "java/lang/Object")] 63

/-- java/lang/CharSequence -/
def k4 : Class := { plain "java/lang/CharSequence" (some 0) with
  accessFlags := 1537
  interfaces := #[]
  cf := some (fileOf pool4 2 #[.nestMembers #[47, 59]] #[] 1537 66 #[] #[])
  fields := #[]
  methods := #[]
  instanceTypes := #[]
  staticTypes := #[]
  resolved := Array.replicate 131 none
  statics := none }

def pool5 : Array CpInfo := pool [(1, .class_ 2), (0, u "java/lang/constant/Constable"), (0, .class_ 4), (0, u "java/lang/Object")] 6

/-- java/lang/constant/Constable -/
def k5 : Class := { plain "java/lang/constant/Constable" (some 0) with
  accessFlags := 1537
  interfaces := #[]
  cf := some (fileOf pool5 1 #[] #[] 1537 3 #[] #[])
  fields := #[]
  methods := #[]
  instanceTypes := #[]
  staticTypes := #[]
  resolved := Array.replicate 11 none
  statics := none }

def pool6 : Array CpInfo := pool [(1, .class_ 2), (0, u "java/lang/constant/ConstantDesc"), (0, .class_ 4), (0, u "java/lang/Object")] 32

/-- java/lang/constant/ConstantDesc -/
def k6 : Class := { plain "java/lang/constant/ConstantDesc" (some 0) with
  accessFlags := 1537
  interfaces := #[]
  cf := some (fileOf pool6 1 #[] #[] 1537 3 #[] #[])
  fields := #[]
  methods := #[]
  instanceTypes := #[]
  staticTypes := #[]
  resolved := Array.replicate 37 none
  statics := none }

def pool7 : Array CpInfo := pool [(1, .methodref 2 3), (0, .class_ 4), (0, .nameAndType 5 6), (0, u "java/lang/Object"), (0, u "<init>"), (0, u "()V"), (0, .string 8), (0, u ""), (0, .fieldref 10 11), (0, .class_ 12), (0, .nameAndType 13 14), (0, u "java/lang/String"), (0, u "value"), (0, u "[B"), (0, .fieldref 10 16), (0, .nameAndType 17 18), (0, u "coder"), (0, u "B"), (2, u "hash"), (0, u "I"), (2, u "hashIsZero"), (0, u "Z"), (0, .methodref 10 28), (0, .nameAndType 5 29), (0, u "([CIILjava/lang/Void;)V"), (8, .fieldref 10 39), (0, .nameAndType 40 26), (0, u "COMPACT_STRINGS"), (1, .class_ 44), (1, u "java/lang/StringUTF16"), (0, u "compress"), (1, .methodref 42 48), (0, .nameAndType 49 50), (0, u "coderFromArrayLen"), (0, u "([BI)B"), (56, .class_ 109), (1, u "java/lang/StringLatin1"), (32, u "()Z"), (34, .methodref 42 178), (0, .nameAndType 45 179), (0, u "([CII)[B"), (154, u "()I"), (0, .methodref 10 336), (0, .nameAndType 17 337), (0, u "()B"), (154, .methodref 10 493), (0, .nameAndType 494 142), (0, u "isLatin1"), (10, .methodref 10 506), (0, .nameAndType 507 334), (0, u "length"), (5, u "checkFromToIndex"), (9, u "checkBoundsBeginEnd"), (0, u "(III)V"), (50, .class_ 576), (0, u "java/lang/CharSequence"), (22, u "CASE_INSENSITIVE_ORDER"), (0, u "Ljava/util/Comparator;"), (32, .methodref 10 634), (0, .nameAndType 635 636), (0, u "indexOf"), (0, u "(II)I"), (0, .methodref 107 638), (0, .nameAndType 635 639), (0, u "([BIII)I"), (0, .methodref 42 638), (124, u "(I)I"), (244, u "([C)V"), (42, .fieldref 1054 1055), (0, .class_ 1056), (0, .nameAndType 1057 1058), (0, u "jdk/internal/util/Preconditions"), (0, u "SIOOBE_FORMATTER"), (0, u "Ljava/util/function/BiFunction;"), (3, .methodref 1054 1063), (0, .nameAndType 513 1064), (0, u "(IIILjava/util/function/BiFunction;)I"), (36, u "serialPersistentFields"), (0, u "[Ljava/io/ObjectStreamField;"), (0, .class_ 1104), (0, u "java/lang/String$CaseInsensitiveComparator"), (1, .class_ 1107), (0, u "java/io/Serializable"), (0, .class_ 1109), (0, u "java/lang/Comparable"), (0, .class_ 1111), (0, u "java/lang/constant/Constable"), (0, .class_ 1113), (0, u "java/lang/constant/ConstantDesc"), (2, u "serialVersionUID"), (0, u "J"), (3, u "REPL"), (0, u "C"), (2, u "LATIN1"), (1, u "UTF16")] 323

def k7m0 : Method := { name := "<init>", desc := "()V", sig := { parameters := [], returnType := none }, accessFlags := 1, code := none }
def k7c1 : Code := { maxStack := 5, maxLocals := 2, code := jdk_42_method_3_code, exceptionTable := #[], attributes := #[] }
def k7m1 : Method := { name := "<init>", desc := "([C)V", sig := { parameters := [(.array .char)], returnType := none }, accessFlags := 1, code := some k7c1 }
def k7c2 : Code := { maxStack := 2, maxLocals := 1, code := jdk_42_method_54_code, exceptionTable := #[], attributes := #[] }
def k7m2 : Method := { name := "length", desc := "()I", sig := { parameters := [], returnType := some .int }, accessFlags := 1, code := some k7c2 }
def k7c3 : Code := { maxStack := 3, maxLocals := 2, code := jdk_42_method_79_code, exceptionTable := #[], attributes := #[] }
def k7m3 : Method := { name := "indexOf", desc := "(I)I", sig := { parameters := [.int], returnType := some .int }, accessFlags := 1, code := some k7c3 }
def k7c4 : Code := { maxStack := 4, maxLocals := 3, code := jdk_42_method_80_code, exceptionTable := #[], attributes := #[] }
def k7m4 : Method := { name := "indexOf", desc := "(II)I", sig := { parameters := [.int, .int], returnType := some .int }, accessFlags := 1, code := some k7c4 }
def k7c5 : Code := { maxStack := 4, maxLocals := 6, code := jdk_42_method_149_code, exceptionTable := #[], attributes := #[] }
def k7m5 : Method := { name := "<init>", desc := "([CIILjava/lang/Void;)V", sig := { parameters := [(.array .char), .int, .int, (.object "java/lang/Void")], returnType := none }, accessFlags := 2, code := some k7c5 }
def k7c6 : Code := { maxStack := 1, maxLocals := 1, code := jdk_42_method_152_code, exceptionTable := #[], attributes := #[] }
def k7m6 : Method := { name := "coder", desc := "()B", sig := { parameters := [], returnType := some .byte }, accessFlags := 0, code := some k7c6 }
def k7c7 : Code := { maxStack := 1, maxLocals := 1, code := jdk_42_method_154_code, exceptionTable := #[], attributes := #[] }
def k7m7 : Method := { name := "isLatin1", desc := "()Z", sig := { parameters := [], returnType := some .boolean }, accessFlags := 0, code := some k7c7 }
def k7c8 : Code := { maxStack := 4, maxLocals := 3, code := jdk_42_method_158_code, exceptionTable := #[], attributes := #[] }
def k7m8 : Method := { name := "checkBoundsBeginEnd", desc := "(III)V", sig := { parameters := [.int, .int, .int], returnType := none }, accessFlags := 8, code := some k7c8 }
/-- java/lang/String -/
def k7 : Class := { plain "java/lang/String" (some 0) with
  accessFlags := 49
  interfaces := #[2, 3, 4, 5, 6]
  cf := some (fileOf pool7 10 #[.nestMembers #[1103]] #[{ accessFlags := 1, nameIndex := 5, descriptorIndex := 6, attributes := #[] }, { accessFlags := 1, nameIndex := 5, descriptorIndex := 1010, attributes := #[] }, { accessFlags := 1, nameIndex := 507, descriptorIndex := 334, attributes := #[] }, { accessFlags := 1, nameIndex := 635, descriptorIndex := 765, attributes := #[] }, { accessFlags := 1, nameIndex := 635, descriptorIndex := 636, attributes := #[] }, { accessFlags := 2, nameIndex := 5, descriptorIndex := 29, attributes := #[] }, { accessFlags := 0, nameIndex := 17, descriptorIndex := 337, attributes := #[] }, { accessFlags := 0, nameIndex := 494, descriptorIndex := 142, attributes := #[] }, { accessFlags := 8, nameIndex := 523, descriptorIndex := 524, attributes := #[] }] 49 2 #[1106, 1108, 575, 1110, 1112] #[{ accessFlags := 18, nameIndex := 13, descriptorIndex := 14, attributes := #[] }, { accessFlags := 18, nameIndex := 17, descriptorIndex := 18, attributes := #[] }, { accessFlags := 2, nameIndex := 21, descriptorIndex := 22, attributes := #[] }, { accessFlags := 2, nameIndex := 25, descriptorIndex := 26, attributes := #[] }, { accessFlags := 26, nameIndex := 1116, descriptorIndex := 1117, attributes := #[] }, { accessFlags := 24, nameIndex := 40, descriptorIndex := 26, attributes := #[] }, { accessFlags := 26, nameIndex := 1101, descriptorIndex := 1102, attributes := #[] }, { accessFlags := 26, nameIndex := 1121, descriptorIndex := 1122, attributes := #[] }, { accessFlags := 25, nameIndex := 599, descriptorIndex := 600, attributes := #[] }, { accessFlags := 24, nameIndex := 1125, descriptorIndex := 18, attributes := #[] }, { accessFlags := 24, nameIndex := 1127, descriptorIndex := 18, attributes := #[] }])
  fields := #[{ name := "value", type := (.array .byte), accessFlags := 18, slot := 0, constantValue := 0 }, { name := "coder", type := .byte, accessFlags := 18, slot := 1, constantValue := 0 }, { name := "hash", type := .int, accessFlags := 2, slot := 2, constantValue := 0 }, { name := "hashIsZero", type := .boolean, accessFlags := 2, slot := 3, constantValue := 0 }, { name := "serialVersionUID", type := .long, accessFlags := 26, slot := 0, constantValue := 0 }, { name := "COMPACT_STRINGS", type := .boolean, accessFlags := 24, slot := 1, constantValue := 0 }, { name := "serialPersistentFields", type := (.array (.object "java/io/ObjectStreamField")), accessFlags := 26, slot := 2, constantValue := 0 }, { name := "REPL", type := .char, accessFlags := 26, slot := 3, constantValue := 0 }, { name := "CASE_INSENSITIVE_ORDER", type := (.object "java/util/Comparator"), accessFlags := 25, slot := 4, constantValue := 0 }, { name := "LATIN1", type := .byte, accessFlags := 24, slot := 5, constantValue := 0 }, { name := "UTF16", type := .byte, accessFlags := 24, slot := 6, constantValue := 0 }]
  methods := #[k7m0, k7m1, k7m2, k7m3, k7m4, k7m5, k7m6, k7m7, k7m8]
  instanceTypes := #[(.array .byte), .byte, .int, .boolean]
  staticTypes := #[.long, .boolean, (.array (.object "java/io/ObjectStreamField")), .char, (.object "java/util/Comparator"), .byte, .byte]
  resolved := Array.replicate 1451 none
  statics := some 0 }

def pool8 : Array CpInfo := pool [(2, .class_ 4), (1, u "java/lang/Object"), (0, u "<init>"), (0, u "()V"), (13, u "(Ljava/lang/String;)Z"), (8, .class_ 30), (0, u "com/example/blodis/blodis/corpus/LocaleText"), (0, .integer 65533), (0, .methodref 33 34), (0, .class_ 35), (0, .nameAndType 36 37), (0, u "java/lang/String"), (0, u "indexOf"), (0, u "(I)I"), (21, u "REPLACEMENT"), (0, u "C"), (4, u "lostBytes")] 22

def k8m0 : Method := { name := "<init>", desc := "()V", sig := { parameters := [], returnType := none }, accessFlags := 2, code := none }
def k8c1 : Code := { maxStack := 2, maxLocals := 1, code := prog_10_method_3_code, exceptionTable := #[], attributes := #[] }
def k8m1 : Method := { name := "lostBytes", desc := "(Ljava/lang/String;)Z", sig := { parameters := [(.object "java/lang/String")], returnType := some .boolean }, accessFlags := 9, code := some k8c1 }
/-- com/example/blodis/blodis/corpus/LocaleText -/
def k8 : Class := { plain "com/example/blodis/blodis/corpus/LocaleText" (some 0) with
  accessFlags := 49
  interfaces := #[]
  cf := some (fileOf pool8 29 #[] #[{ accessFlags := 2, nameIndex := 5, descriptorIndex := 6, attributes := #[] }, { accessFlags := 9, nameIndex := 65, descriptorIndex := 20, attributes := #[] }] 49 2 #[] #[{ accessFlags := 26, nameIndex := 59, descriptorIndex := 60, attributes := #[] }])
  fields := #[{ name := "REPLACEMENT", type := .char, accessFlags := 26, slot := 0, constantValue := 0 }]
  methods := #[k8m0, k8m1]
  instanceTypes := #[]
  staticTypes := #[.char]
  resolved := Array.replicate 88 none
  statics := none }

def pool9 : Array CpInfo := pool [(4, .class_ 6), (1, u "java/lang/Object"), (0, u "<init>"), (0, u "()V"), (5, .class_ 16), (1, u "java/lang/StringLatin1"), (71, .methodref 14 89), (0, .nameAndType 90 91), (0, u "canEncode"), (0, u "(I)Z"), (6, u "([BIII)I"), (2, u "indexOf"), (19, u "$assertionsDisabled"), (0, u "Z"), (98, .class_ 223), (1, u "java/lang/StringLatin1$LinesSpliterator"), (166, .class_ 391), (0, u "java/lang/StringLatin1$CharsSpliterator")] 3

def k9m0 : Method := { name := "<init>", desc := "()V", sig := { parameters := [], returnType := none }, accessFlags := 0, code := none }
def k9c1 : Code := { maxStack := 2, maxLocals := 1, code := jdk_43_method_4_code, exceptionTable := #[], attributes := #[] }
def k9m1 : Method := { name := "canEncode", desc := "(I)Z", sig := { parameters := [.int], returnType := some .boolean }, accessFlags := 9, code := some k9c1 }
def k9c2 : Code := { maxStack := 4, maxLocals := 4, code := jdk_43_method_22_code, exceptionTable := #[], attributes := #[] }
def k9m2 : Method := { name := "indexOf", desc := "([BIII)I", sig := { parameters := [(.array .byte), .int, .int, .int], returnType := some .int }, accessFlags := 9, code := some k9c2 }
/-- java/lang/StringLatin1 -/
def k9 : Class := { plain "java/lang/StringLatin1" (some 0) with
  accessFlags := 48
  interfaces := #[]
  cf := some (fileOf pool9 14 #[.nestMembers #[390, 221]] #[{ accessFlags := 0, nameIndex := 7, descriptorIndex := 8, attributes := #[] }, { accessFlags := 9, nameIndex := 90, descriptorIndex := 91, attributes := #[] }, { accessFlags := 9, nameIndex := 101, descriptorIndex := 98, attributes := #[] }] 48 4 #[] #[{ accessFlags := 4120, nameIndex := 121, descriptorIndex := 122, attributes := #[] }])
  fields := #[{ name := "$assertionsDisabled", type := .boolean, accessFlags := 4120, slot := 0, constantValue := 0 }]
  methods := #[k9m0, k9m1, k9m2]
  instanceTypes := #[]
  staticTypes := #[.boolean]
  resolved := Array.replicate 395 none
  statics := none }

def pool10 : Array CpInfo := pool [(3, .class_ 4), (0, u "java/lang/String"), (1, .class_ 8), (1, u "java/lang/Object"), (0, u "<init>"), (0, u "()V"), (0, .methodref 12 13), (0, .class_ 14), (0, .nameAndType 15 16), (0, u "java/lang/StringUTF16"), (0, u "newBytesLength"), (0, u "(I)I"), (3, .integer 1073741823), (23, .fieldref 12 45), (0, .nameAndType 46 47), (0, u "$assertionsDisabled"), (0, u "Z"), (0, .methodref 12 49), (0, .nameAndType 50 51), (0, u "length"), (0, u "([B)I"), (7, .fieldref 12 60), (0, .nameAndType 61 62), (0, u "HI_BYTE_SHIFT"), (0, u "I"), (0, .fieldref 12 64), (0, .nameAndType 65 62), (0, u "LO_BYTE_SHIFT"), (5, .methodref 12 72), (0, .nameAndType 73 74), (0, u "getChar"), (0, u "([BI)C"), (21, .methodref 12 97), (0, .nameAndType 98 99), (0, u "checkBoundsBeginEnd"), (0, u "(II[B)V"), (7, .methodref 12 108), (0, .nameAndType 109 110), (0, u "newBytesFor"), (0, u "(I)[B"), (0, .methodref 12 112), (0, .nameAndType 113 114), (0, u "putChar"), (0, u "([BII)V"), (0, .methodref 12 116), (0, .nameAndType 117 118), (0, u "compress"), (0, u "([CI[BII)I"), (0, .methodref 12 120), (0, .nameAndType 121 122), (0, u "toBytes"), (0, u "([CII)[B"), (60, .methodref 184 185), (0, .class_ 186), (0, .nameAndType 187 188), (0, u "java/lang/Math"), (0, u "min"), (0, u "(II)I"), (35, .methodref 184 225), (0, .nameAndType 226 188), (0, u "max"), (0, .integer 65536), (0, .methodref 12 229), (0, .nameAndType 230 231), (0, u "indexOfChar"), (0, u "([BIII)I"), (9, .methodref 3 242), (0, .nameAndType 98 243), (0, u "(III)V"), (0, .methodref 12 245), (0, .nameAndType 246 231), (0, u "indexOfCharUnsafe"), (14, u "coderFromArrayLen"), (0, u "([BI)B"), (5, u "indexOf"), (100, .class_ 371), (1, u "java/lang/StringUTF16$LinesSpliterator"), (58, u "MAX_LENGTH"), (196, .class_ 628), (0, u "java/lang/StringUTF16$CodePointsSpliterator"), (0, .class_ 630), (0, u "java/lang/StringUTF16$CharsSpliterator")] 4

def k10m0 : Method := { name := "<init>", desc := "()V", sig := { parameters := [], returnType := none }, accessFlags := 0, code := none }
def k10c1 : Code := { maxStack := 1, maxLocals := 1, code := jdk_52_method_2_code, exceptionTable := #[], attributes := #[] }
def k10m1 : Method := { name := "newBytesFor", desc := "(I)[B", sig := { parameters := [.int], returnType := some (.array .byte) }, accessFlags := 9, code := some k10c1 }
def k10c2 : Code := { maxStack := 4, maxLocals := 1, code := jdk_52_method_3_code, exceptionTable := #[], attributes := #[] }
def k10m2 : Method := { name := "newBytesLength", desc := "(I)I", sig := { parameters := [.int], returnType := some .int }, accessFlags := 9, code := some k10c2 }
def k10c3 : Code := { maxStack := 4, maxLocals := 3, code := jdk_52_method_4_code, exceptionTable := #[], attributes := #[] }
def k10m3 : Method := { name := "putChar", desc := "([BII)V", sig := { parameters := [(.array .byte), .int, .int], returnType := none }, accessFlags := 8, code := some k10c3 }
def k10c4 : Code := { maxStack := 3, maxLocals := 2, code := jdk_52_method_5_code, exceptionTable := #[], attributes := #[] }
def k10m4 : Method := { name := "getChar", desc := "([BI)C", sig := { parameters := [(.array .byte), .int], returnType := some .char }, accessFlags := 8, code := some k10c4 }
def k10c5 : Code := { maxStack := 2, maxLocals := 1, code := jdk_52_method_6_code, exceptionTable := #[], attributes := #[] }
def k10m5 : Method := { name := "length", desc := "([B)I", sig := { parameters := [(.array .byte)], returnType := some .int }, accessFlags := 9, code := some k10c5 }
def k10c6 : Code := { maxStack := 4, maxLocals := 5, code := jdk_52_method_14_code, exceptionTable := #[], attributes := #[] }
def k10m6 : Method := { name := "toBytes", desc := "([CII)[B", sig := { parameters := [(.array .char), .int, .int], returnType := some (.array .byte) }, accessFlags := 9, code := some k10c6 }
def k10c7 : Code := { maxStack := 2, maxLocals := 2, code := jdk_52_method_15_code, exceptionTable := #[], attributes := #[] }
def k10m7 : Method := { name := "coderFromArrayLen", desc := "([BI)B", sig := { parameters := [(.array .byte), .int], returnType := some .byte }, accessFlags := 8, code := some k10c7 }
def k10c8 : Code := { maxStack := 5, maxLocals := 6, code := jdk_52_method_16_code, exceptionTable := #[], attributes := #[] }
def k10m8 : Method := { name := "compress", desc := "([CII)[B", sig := { parameters := [(.array .char), .int, .int], returnType := some (.array .byte) }, accessFlags := 9, code := some k10c8 }
def k10c9 : Code := { maxStack := 3, maxLocals := 7, code := jdk_52_method_21_code, exceptionTable := #[], attributes := #[] }
def k10m9 : Method := { name := "compress", desc := "([CI[BII)I", sig := { parameters := [(.array .char), .int, (.array .byte), .int, .int], returnType := some .int }, accessFlags := 9, code := some k10c9 }
def k10c10 : Code := { maxStack := 4, maxLocals := 4, code := jdk_52_method_40_code, exceptionTable := #[], attributes := #[] }
def k10m10 : Method := { name := "indexOf", desc := "([BIII)I", sig := { parameters := [(.array .byte), .int, .int, .int], returnType := some .int }, accessFlags := 9, code := some k10c10 }
def k10c11 : Code := { maxStack := 4, maxLocals := 4, code := jdk_52_method_47_code, exceptionTable := #[], attributes := #[] }
def k10m11 : Method := { name := "indexOfChar", desc := "([BIII)I", sig := { parameters := [(.array .byte), .int, .int, .int], returnType := some .int }, accessFlags := 10, code := some k10c11 }
def k10c12 : Code := { maxStack := 2, maxLocals := 5, code := jdk_52_method_48_code, exceptionTable := #[], attributes := #[] }
def k10m12 : Method := { name := "indexOfCharUnsafe", desc := "([BIII)I", sig := { parameters := [(.array .byte), .int, .int, .int], returnType := some .int }, accessFlags := 10, code := some k10c12 }
def k10c13 : Code := { maxStack := 3, maxLocals := 3, code := jdk_52_method_93_code, exceptionTable := #[], attributes := #[] }
def k10m13 : Method := { name := "checkBoundsBeginEnd", desc := "(II[B)V", sig := { parameters := [.int, .int, (.array .byte)], returnType := none }, accessFlags := 9, code := some k10c13 }
/-- java/lang/StringUTF16 -/
def k10 : Class := { plain "java/lang/StringUTF16" (some 0) with
  accessFlags := 48
  interfaces := #[]
  cf := some (fileOf pool10 12 #[.nestMembers #[627, 629, 369]] #[{ accessFlags := 0, nameIndex := 9, descriptorIndex := 10, attributes := #[] }, { accessFlags := 9, nameIndex := 109, descriptorIndex := 110, attributes := #[] }, { accessFlags := 9, nameIndex := 15, descriptorIndex := 16, attributes := #[] }, { accessFlags := 8, nameIndex := 113, descriptorIndex := 114, attributes := #[] }, { accessFlags := 8, nameIndex := 73, descriptorIndex := 74, attributes := #[] }, { accessFlags := 9, nameIndex := 50, descriptorIndex := 51, attributes := #[] }, { accessFlags := 9, nameIndex := 121, descriptorIndex := 122, attributes := #[] }, { accessFlags := 8, nameIndex := 261, descriptorIndex := 262, attributes := #[] }, { accessFlags := 9, nameIndex := 117, descriptorIndex := 122, attributes := #[] }, { accessFlags := 9, nameIndex := 117, descriptorIndex := 118, attributes := #[] }, { accessFlags := 9, nameIndex := 268, descriptorIndex := 231, attributes := #[] }, { accessFlags := 10, nameIndex := 230, descriptorIndex := 231, attributes := #[] }, { accessFlags := 10, nameIndex := 246, descriptorIndex := 231, attributes := #[] }, { accessFlags := 9, nameIndex := 98, descriptorIndex := 99, attributes := #[] }] 48 6 #[] #[{ accessFlags := 26, nameIndex := 61, descriptorIndex := 62, attributes := #[] }, { accessFlags := 26, nameIndex := 65, descriptorIndex := 62, attributes := #[] }, { accessFlags := 24, nameIndex := 430, descriptorIndex := 62, attributes := #[] }, { accessFlags := 4120, nameIndex := 46, descriptorIndex := 47, attributes := #[] }])
  fields := #[{ name := "HI_BYTE_SHIFT", type := .int, accessFlags := 26, slot := 0, constantValue := 0 }, { name := "LO_BYTE_SHIFT", type := .int, accessFlags := 26, slot := 1, constantValue := 0 }, { name := "MAX_LENGTH", type := .int, accessFlags := 24, slot := 2, constantValue := 0 }, { name := "$assertionsDisabled", type := .boolean, accessFlags := 4120, slot := 3, constantValue := 0 }]
  methods := #[k10m0, k10m1, k10m2, k10m3, k10m4, k10m5, k10m6, k10m7, k10m8, k10m9, k10m10, k10m11, k10m12, k10m13]
  instanceTypes := #[]
  staticTypes := #[.int, .int, .int, .boolean]
  resolved := Array.replicate 635 none
  statics := some 1 }

def pool11 : Array CpInfo := pool [(1, .class_ 2), (0, u "java/lang/Math"), (1, .class_ 6), (1, u "java/lang/Object"), (0, u "<init>"), (0, u "()V"), (89, .class_ 100), (1, u "java/lang/Math$RandomNumberGeneratorHolder"), (71, u "negativeZeroFloatBits"), (0, u "J"), (2, u "negativeZeroDoubleBits"), (21, u "max"), (2, u "min"), (43, u "$assertionsDisabled"), (0, u "Z"), (88, u "(II)I"), (2, u "twoToTheDoubleScaleDown"), (0, u "D"), (4, u "twoToTheDoubleScaleUp"), (9, u "E"), (3, u "PI"), (2, u "TAU"), (2, u "DEGREES_TO_RADIANS"), (0, u "RADIANS_TO_DEGREES")] 94

def k11m0 : Method := { name := "<init>", desc := "()V", sig := { parameters := [], returnType := none }, accessFlags := 2, code := none }
def k11c1 : Code := { maxStack := 2, maxLocals := 2, code := jdk_29_method_65_code, exceptionTable := #[], attributes := #[] }
def k11m1 : Method := { name := "max", desc := "(II)I", sig := { parameters := [.int, .int], returnType := some .int }, accessFlags := 9, code := some k11c1 }
def k11c2 : Code := { maxStack := 2, maxLocals := 2, code := jdk_29_method_69_code, exceptionTable := #[], attributes := #[] }
def k11m2 : Method := { name := "min", desc := "(II)I", sig := { parameters := [.int, .int], returnType := some .int }, accessFlags := 9, code := some k11c2 }
/-- java/lang/Math -/
def k11 : Class := { plain "java/lang/Math" (some 0) with
  accessFlags := 49
  interfaces := #[]
  cf := some (fileOf pool11 1 #[.nestMembers #[98]] #[{ accessFlags := 2, nameIndex := 7, descriptorIndex := 8, attributes := #[] }, { accessFlags := 9, nameIndex := 198, descriptorIndex := 335, attributes := #[] }, { accessFlags := 9, nameIndex := 201, descriptorIndex := 335, attributes := #[] }] 49 4 #[] #[{ accessFlags := 25, nameIndex := 354, descriptorIndex := 339, attributes := #[] }, { accessFlags := 25, nameIndex := 358, descriptorIndex := 339, attributes := #[] }, { accessFlags := 25, nameIndex := 361, descriptorIndex := 339, attributes := #[] }, { accessFlags := 26, nameIndex := 364, descriptorIndex := 339, attributes := #[] }, { accessFlags := 26, nameIndex := 365, descriptorIndex := 339, attributes := #[] }, { accessFlags := 26, nameIndex := 172, descriptorIndex := 173, attributes := #[] }, { accessFlags := 26, nameIndex := 176, descriptorIndex := 173, attributes := #[] }, { accessFlags := 8, nameIndex := 344, descriptorIndex := 339, attributes := #[] }, { accessFlags := 8, nameIndex := 338, descriptorIndex := 339, attributes := #[] }, { accessFlags := 4120, nameIndex := 245, descriptorIndex := 246, attributes := #[] }])
  fields := #[{ name := "E", type := .double, accessFlags := 25, slot := 0, constantValue := 0 }, { name := "PI", type := .double, accessFlags := 25, slot := 1, constantValue := 0 }, { name := "TAU", type := .double, accessFlags := 25, slot := 2, constantValue := 0 }, { name := "DEGREES_TO_RADIANS", type := .double, accessFlags := 26, slot := 3, constantValue := 0 }, { name := "RADIANS_TO_DEGREES", type := .double, accessFlags := 26, slot := 4, constantValue := 0 }, { name := "negativeZeroFloatBits", type := .long, accessFlags := 26, slot := 5, constantValue := 0 }, { name := "negativeZeroDoubleBits", type := .long, accessFlags := 26, slot := 6, constantValue := 0 }, { name := "twoToTheDoubleScaleUp", type := .double, accessFlags := 8, slot := 7, constantValue := 0 }, { name := "twoToTheDoubleScaleDown", type := .double, accessFlags := 8, slot := 8, constantValue := 0 }, { name := "$assertionsDisabled", type := .boolean, accessFlags := 4120, slot := 9, constantValue := 0 }]
  methods := #[k11m0, k11m1, k11m2]
  instanceTypes := #[]
  staticTypes := #[.double, .double, .double, .double, .double, .long, .long, .double, .double, .boolean]
  resolved := Array.replicate 460 none
  statics := none }

def pool12 : Array CpInfo := pool [(2, .class_ 4), (1, u "java/lang/Object"), (0, u "<init>"), (0, u "()V"), (17, .class_ 26), (1, u "jdk/internal/util/Preconditions"), (20, u "checkFromToIndex"), (7, .class_ 56), (0, u "jdk/internal/util/Preconditions$4"), (57, .class_ 115), (0, u "jdk/internal/util/Preconditions$1"), (7, u "SIOOBE_FORMATTER"), (0, u "Ljava/util/function/BiFunction;"), (0, .class_ 126), (0, u "jdk/internal/util/Preconditions$2"), (3, u "AIOOBE_FORMATTER"), (0, .class_ 132), (0, u "jdk/internal/util/Preconditions$3"), (3, u "IOOBE_FORMATTER"), (46, u "(IIILjava/util/function/BiFunction;)I")] 10

def k12m0 : Method := { name := "<init>", desc := "()V", sig := { parameters := [], returnType := none }, accessFlags := 1, code := none }
def k12c1 : Code := { maxStack := 4, maxLocals := 4, code := jdk_41_method_12_code, exceptionTable := #[], attributes := #[] }
def k12m1 : Method := { name := "checkFromToIndex", desc := "(IIILjava/util/function/BiFunction;)I", sig := { parameters := [.int, .int, .int, (.object "java/util/function/BiFunction")], returnType := some .int }, accessFlags := 9, code := some k12c1 }
/-- jdk/internal/util/Preconditions -/
def k12 : Class := { plain "jdk/internal/util/Preconditions" (some 0) with
  accessFlags := 33
  interfaces := #[]
  cf := some (fileOf pool12 24 #[.nestMembers #[55, 131, 125, 114]] #[{ accessFlags := 1, nameIndex := 5, descriptorIndex := 6, attributes := #[] }, { accessFlags := 9, nameIndex := 47, descriptorIndex := 183, attributes := #[] }] 33 2 #[] #[{ accessFlags := 25, nameIndex := 123, descriptorIndex := 124, attributes := #[] }, { accessFlags := 25, nameIndex := 130, descriptorIndex := 124, attributes := #[] }, { accessFlags := 25, nameIndex := 136, descriptorIndex := 124, attributes := #[] }])
  fields := #[{ name := "SIOOBE_FORMATTER", type := (.object "java/util/function/BiFunction"), accessFlags := 25, slot := 0, constantValue := 0 }, { name := "AIOOBE_FORMATTER", type := (.object "java/util/function/BiFunction"), accessFlags := 25, slot := 1, constantValue := 0 }, { name := "IOOBE_FORMATTER", type := (.object "java/util/function/BiFunction"), accessFlags := 25, slot := 2, constantValue := 0 }]
  methods := #[k12m0, k12m1]
  instanceTypes := #[]
  staticTypes := #[(.object "java/util/function/BiFunction"), (.object "java/util/function/BiFunction"), (.object "java/util/function/BiFunction")]
  resolved := Array.replicate 194 none
  statics := some 2 }

def pool13 : Array CpInfo := pool [(9, u "<init>"), (6, .class_ 18), (1, u "java/lang/Object"), (0, u "()V"), (1, .class_ 23), (1, u "jdk/internal/util/ArraysSupport"), (0, u "LOG2_ARRAY_LONG_INDEX_SCALE"), (0, u "I"), (2, u "U"), (0, u "Ljdk/internal/misc/Unsafe;"), (8, u "BIG_ENDIAN"), (0, u "Z"), (8, u "LOG2_BYTE_BIT_SIZE"), (4, u "LOG2_ARRAY_INT_INDEX_SCALE"), (54, u "JLA"), (0, u "Ljdk/internal/access/JavaLangAccess;"), (11, u "LOG2_ARRAY_BOOLEAN_INDEX_SCALE"), (9, u "LOG2_ARRAY_BYTE_INDEX_SCALE"), (5, u "LOG2_ARRAY_CHAR_INDEX_SCALE"), (5, u "LOG2_ARRAY_SHORT_INDEX_SCALE"), (18, u "LOG2_ARRAY_FLOAT_INDEX_SCALE"), (24, u "LOG2_ARRAY_DOUBLE_INDEX_SCALE"), (89, u "T_BOOLEAN"), (2, u "T_CHAR"), (1, u "T_FLOAT"), (1, u "T_DOUBLE"), (1, u "T_BYTE"), (1, u "T_SHORT"), (1, u "T_INT"), (1, u "T_LONG"), (1, u "SOFT_MAX_ARRAY_LENGTH")] 83

def k13m0 : Method := { name := "<init>", desc := "()V", sig := { parameters := [], returnType := none }, accessFlags := 2, code := none }
/-- jdk/internal/util/ArraysSupport -/
def k13 : Class := { plain "jdk/internal/util/ArraysSupport" (some 0) with
  accessFlags := 33
  interfaces := #[]
  cf := some (fileOf pool13 21 #[] #[{ accessFlags := 2, nameIndex := 9, descriptorIndex := 19, attributes := #[] }] 33 16 #[] #[{ accessFlags := 24, nameIndex := 28, descriptorIndex := 29, attributes := #[] }, { accessFlags := 26, nameIndex := 38, descriptorIndex := 39, attributes := #[] }, { accessFlags := 25, nameIndex := 121, descriptorIndex := 25, attributes := #[] }, { accessFlags := 25, nameIndex := 131, descriptorIndex := 25, attributes := #[] }, { accessFlags := 25, nameIndex := 137, descriptorIndex := 25, attributes := #[] }, { accessFlags := 25, nameIndex := 143, descriptorIndex := 25, attributes := #[] }, { accessFlags := 25, nameIndex := 53, descriptorIndex := 25, attributes := #[] }, { accessFlags := 25, nameIndex := 24, descriptorIndex := 25, attributes := #[] }, { accessFlags := 25, nameIndex := 162, descriptorIndex := 25, attributes := #[] }, { accessFlags := 25, nameIndex := 187, descriptorIndex := 25, attributes := #[] }, { accessFlags := 26, nameIndex := 48, descriptorIndex := 25, attributes := #[] }, { accessFlags := 25, nameIndex := 277, descriptorIndex := 25, attributes := #[] }, { accessFlags := 25, nameIndex := 280, descriptorIndex := 25, attributes := #[] }, { accessFlags := 25, nameIndex := 282, descriptorIndex := 25, attributes := #[] }, { accessFlags := 25, nameIndex := 284, descriptorIndex := 25, attributes := #[] }, { accessFlags := 25, nameIndex := 286, descriptorIndex := 25, attributes := #[] }, { accessFlags := 25, nameIndex := 288, descriptorIndex := 25, attributes := #[] }, { accessFlags := 25, nameIndex := 290, descriptorIndex := 25, attributes := #[] }, { accessFlags := 25, nameIndex := 292, descriptorIndex := 25, attributes := #[] }, { accessFlags := 26, nameIndex := 108, descriptorIndex := 109, attributes := #[] }, { accessFlags := 25, nameIndex := 294, descriptorIndex := 25, attributes := #[] }])
  fields := #[{ name := "U", type := (.object "jdk/internal/misc/Unsafe"), accessFlags := 24, slot := 0, constantValue := 0 }, { name := "BIG_ENDIAN", type := .boolean, accessFlags := 26, slot := 1, constantValue := 0 }, { name := "LOG2_ARRAY_BOOLEAN_INDEX_SCALE", type := .int, accessFlags := 25, slot := 2, constantValue := 0 }, { name := "LOG2_ARRAY_BYTE_INDEX_SCALE", type := .int, accessFlags := 25, slot := 3, constantValue := 0 }, { name := "LOG2_ARRAY_CHAR_INDEX_SCALE", type := .int, accessFlags := 25, slot := 4, constantValue := 0 }, { name := "LOG2_ARRAY_SHORT_INDEX_SCALE", type := .int, accessFlags := 25, slot := 5, constantValue := 0 }, { name := "LOG2_ARRAY_INT_INDEX_SCALE", type := .int, accessFlags := 25, slot := 6, constantValue := 0 }, { name := "LOG2_ARRAY_LONG_INDEX_SCALE", type := .int, accessFlags := 25, slot := 7, constantValue := 0 }, { name := "LOG2_ARRAY_FLOAT_INDEX_SCALE", type := .int, accessFlags := 25, slot := 8, constantValue := 0 }, { name := "LOG2_ARRAY_DOUBLE_INDEX_SCALE", type := .int, accessFlags := 25, slot := 9, constantValue := 0 }, { name := "LOG2_BYTE_BIT_SIZE", type := .int, accessFlags := 26, slot := 10, constantValue := 0 }, { name := "T_BOOLEAN", type := .int, accessFlags := 25, slot := 11, constantValue := 0 }, { name := "T_CHAR", type := .int, accessFlags := 25, slot := 12, constantValue := 0 }, { name := "T_FLOAT", type := .int, accessFlags := 25, slot := 13, constantValue := 0 }, { name := "T_DOUBLE", type := .int, accessFlags := 25, slot := 14, constantValue := 0 }, { name := "T_BYTE", type := .int, accessFlags := 25, slot := 15, constantValue := 0 }, { name := "T_SHORT", type := .int, accessFlags := 25, slot := 16, constantValue := 0 }, { name := "T_INT", type := .int, accessFlags := 25, slot := 17, constantValue := 0 }, { name := "T_LONG", type := .int, accessFlags := 25, slot := 18, constantValue := 0 }, { name := "JLA", type := (.object "jdk/internal/access/JavaLangAccess"), accessFlags := 26, slot := 19, constantValue := 0 }, { name := "SOFT_MAX_ARRAY_LENGTH", type := .int, accessFlags := 25, slot := 20, constantValue := 0 }]
  methods := #[k13m0]
  instanceTypes := #[]
  staticTypes := #[(.object "jdk/internal/misc/Unsafe"), .boolean, .int, .int, .int, .int, .int, .int, .int, .int, .int, .int, .int, .int, .int, .int, .int, .int, .int, (.object "jdk/internal/access/JavaLangAccess"), .int]
  resolved := Array.replicate 378 none
  statics := none }

def pool14 : Array CpInfo := pool [(1, u "java/lang/Cloneable"), (0, .class_ 1), (0, u "java/lang/Object"), (0, .class_ 3)] 3

/-- java/lang/Cloneable -/
def k14 : Class := { plain "java/lang/Cloneable" (some 0) with
  accessFlags := 1537
  interfaces := #[]
  cf := some (fileOf pool14 2 #[] #[] 1537 4 #[] #[])
  fields := #[]
  methods := #[]
  instanceTypes := #[]
  staticTypes := #[]
  resolved := Array.replicate 8 none
  statics := none }

/-- the primitive byte -/
def k15 : Class := { plain "byte" none with kind := .primitive 'B', accessFlags := 0x411 }
/-- [B -/
def k16 : Class := { plain "[B" (some 0) with kind := .array 15 .byte, interfaces := #[14, 2], accessFlags := 1041 }

/-- the primitive char -/
def k17 : Class := { plain "char" none with kind := .primitive 'C', accessFlags := 0x411 }
/-- [C -/
def k18 : Class := { plain "[C" (some 0) with kind := .array 17 .char, interfaces := #[14, 2], accessFlags := 1041 }

/-- the primitive int -/
def k19 : Class := { plain "int" none with kind := .primitive 'I', accessFlags := 0x411 }
/-- [I -/
def k20 : Class := { plain "[I" (some 0) with kind := .array 19 .int, interfaces := #[14, 2], accessFlags := 1041 }

def heap : Heap := #[{ cls := 7, slots := #[.long 0, .int 1, .null, .int 0, .null, .int 0, .int 0], vm := .statics 7 },
  { cls := 10, slots := #[.int 0, .int 8, .int 0, .int 1], vm := .statics 10 },
  { cls := 12, slots := #[.null, .null, .null], vm := .statics 12 }]
def classes : Array Class := #[k0, k1, k2, k3, k4, k5, k6, k7, k8, k9, k10, k11, k12, k13, k14, k15, k16, k17, k18, k19, k20]
def interned : List (Array UInt16 × Addr) := []
def slotsUsed : Nat := 14
def theMethod : MethodId := ⟨1, 2⟩
def args0 : Array Value := #[.int 5, .int 5, .int 5, .int 5]
def aboutOver (below : List Frame) : State where
  vm := { classes := classes, interned := interned.toArray }
  heap := heap
  slotsUsed := slotsUsed
  threads := #[{ frames := .invoking theMethod args0 :: below }]
def below0 : List Frame := [.native { method := ⟨0, 0⟩, args := #[] }]
def about1 : State := aboutOver below0
def p0 : Program := .bare "" "" ""
def e0 : Env := launch0.env 0 0 0
theorem w_frames : about1.frames = Frame.invoking theMethod args0 :: below0 := rfl
set_option maxRecDepth 65536 in
theorem w_args : argsFit about1.vm theMethod args0 = true := by decide +kernel
set_option maxRecDepth 65536 in
theorem w_heap : heapFits about1 = true := by decide +kernel
set_option maxRecDepth 65536 in
theorem w_runnable : about1.curStatus? = some .runnable := by decide +kernel
set_option maxRecDepth 65536 in
theorem w_alone : about1.alone = true := by decide +kernel
set_option maxRecDepth 65536 in
theorem w_named : about1.methodNamed? x = some theMethod := by decide +kernel
set_option maxRecDepth 65536 in
theorem w_hears : about1.hears theMethod below0 = true := by decide +kernel
set_option maxRecDepth 65536 in
theorem w_ripe : about1.ripe theMethod args0 below0 = true := by decide +kernel
theorem w_running : about1.status = .running := rfl
set_option maxRecDepth 65536 in
theorem w_room : about1.hasRoom e0.platform room_1 = true :=
  launch0.hasRoom_least _ room_1 (by decide +kernel) (by decide +kernel) (by decide +kernel) (by decide +kernel) (by decide +kernel) (by decide +kernel)
theorem allAtoms_all (ts : List Jvm.Cond) (a : Array Jvm.Value) (st : Jvm.State) : (allAtoms ts).before a st = ts.all (fun c => c.before a st) := by
  induction ts with
  | nil => rfl
  | cons c t ih =>
    show (Jvm.Cond.and c (allAtoms t)).before a st = _
    rw [Jvm.Cond.before_and, ih, List.all_cons]
def words1 : List Jvm.Cond := Jvm.Cond.code x code maxLocals ret :: tables_1
/-- a 'code' word, met by the world's own term for the bytes: nothing is compared byte by byte -/
theorem code_word {y : MethodName} {bytes : ByteArray} {mx : Nat} {rt : Option FieldType} {a : Array Value} {s : State} {m : MethodId} {meth : Method} {c : Code} (h1 : s.methodNamed? y = some m) (h2 : s.vm.method? m = some meth) (h3 : meth.code = some c) (h4 : c.code = bytes)
    (h5 : (c.maxLocals == mx && c.exceptionTable.isEmpty && decide (c.maxStack ≤ mostOperands) && decide (meth.sig.returnType = rt) && !meth.locks && decide (parseMethodDescriptor y.desc = some meth.sig)) = true) : (Jvm.Cond.code y bytes mx rt).before a s = true := by
  simp only [Bool.and_eq_true, beq_iff_eq, Bool.not_eq_true', decide_eq_true_eq] at h5
  obtain ⟨⟨⟨⟨⟨g1, g2⟩, g3⟩, g4⟩, g5⟩, g6⟩ := h5
  simp [Cond.before, Cond.holds, Cond.value, h1, h2, h3, h4, g1, g2, g3, g4, g5, g6]
def isCode : Jvm.Cond → Bool
  | .code _ _ _ _ => true
  | _ => false
theorem all_split {L : List Jvm.Cond} {P : Jvm.Cond → Bool} (h1 : L.all (fun c => isCode c || P c) = true) (h2 : ∀ c ∈ L.filter isCode, P c = true) : L.all P = true := by
  refine List.all_eq_true.mpr fun c hc => ?_
  have h := List.all_eq_true.mp h1 c hc
  rcases Bool.eq_false_or_eq_true (isCode c) with hi | hi
  · exact h2 c (List.mem_filter.mpr ⟨hc, hi⟩)
  · simpa [hi] using h
set_option maxRecDepth 65536 in
theorem w_c0 : (Jvm.Cond.code x code maxLocals ret).before args0 about1 = true := code_word (m := ⟨1, 2⟩) (meth := k1m2) (c := k1c2) (by decide +kernel) rfl rfl rfl (by decide +kernel)
set_option maxRecDepth 65536 in
theorem w_c1 : (Jvm.Cond.code ({ cls := "com/example/blodis/blodis/corpus/LocaleTextLostBytesPinLaw", name := "draw", desc := "(I)C" } : Jvm.MethodName) method_2_code (1 : Nat) (Option.some Jvm.ClassFile.FieldType.char)).before args0 about1 = true := code_word (m := ⟨1, 1⟩) (meth := k1m1) (c := k1c1) (by decide +kernel) rfl rfl rfl (by decide +kernel)
set_option maxRecDepth 65536 in
theorem w_c2 : (Jvm.Cond.code ({ cls := "java/lang/String", name := "<init>", desc := "([C)V" } : Jvm.MethodName) jdk_42_method_3_code (2 : Nat) (Option.none : Option Jvm.ClassFile.FieldType)).before args0 about1 = true := code_word (m := ⟨7, 1⟩) (meth := k7m1) (c := k7c1) (by decide +kernel) rfl rfl rfl (by decide +kernel)
set_option maxRecDepth 65536 in
theorem w_c3 : (Jvm.Cond.code ({ cls := "java/lang/String", name := "<init>", desc := "([CIILjava/lang/Void;)V" } : Jvm.MethodName) jdk_42_method_149_code (6 : Nat) (Option.none : Option Jvm.ClassFile.FieldType)).before args0 about1 = true := code_word (m := ⟨7, 5⟩) (meth := k7m5) (c := k7c5) (by decide +kernel) rfl rfl rfl (by decide +kernel)
set_option maxRecDepth 65536 in
theorem w_c4 : (Jvm.Cond.code ({ cls := "java/lang/Object", name := "<init>", desc := "()V" } : Jvm.MethodName) object_method_1_code (1 : Nat) (Option.none : Option Jvm.ClassFile.FieldType)).before args0 about1 = true := code_word (m := ⟨0, 0⟩) (meth := k0m0) (c := k0c0) (by decide +kernel) rfl rfl rfl (by decide +kernel)
set_option maxRecDepth 65536 in
theorem w_c5 : (Jvm.Cond.code ({ cls := "com/example/blodis/blodis/corpus/LocaleText", name := "lostBytes", desc := "(Ljava/lang/String;)Z" } : Jvm.MethodName) prog_10_method_3_code (1 : Nat) (Option.some Jvm.ClassFile.FieldType.boolean)).before args0 about1 = true := code_word (m := ⟨8, 1⟩) (meth := k8m1) (c := k8c1) (by decide +kernel) rfl rfl rfl (by decide +kernel)
set_option maxRecDepth 65536 in
theorem w_c6 : (Jvm.Cond.code ({ cls := "java/lang/String", name := "indexOf", desc := "(I)I" } : Jvm.MethodName) jdk_42_method_79_code (2 : Nat) (Option.some Jvm.ClassFile.FieldType.int)).before args0 about1 = true := code_word (m := ⟨7, 3⟩) (meth := k7m3) (c := k7c3) (by decide +kernel) rfl rfl rfl (by decide +kernel)
set_option maxRecDepth 65536 in
theorem w_c7 : (Jvm.Cond.code ({ cls := "java/lang/String", name := "indexOf", desc := "(II)I" } : Jvm.MethodName) jdk_42_method_80_code (3 : Nat) (Option.some Jvm.ClassFile.FieldType.int)).before args0 about1 = true := code_word (m := ⟨7, 4⟩) (meth := k7m4) (c := k7c4) (by decide +kernel) rfl rfl rfl (by decide +kernel)
set_option maxRecDepth 65536 in
theorem w_c8 : (Jvm.Cond.code ({ cls := "java/lang/String", name := "isLatin1", desc := "()Z" } : Jvm.MethodName) jdk_42_method_154_code (1 : Nat) (Option.some Jvm.ClassFile.FieldType.boolean)).before args0 about1 = true := code_word (m := ⟨7, 7⟩) (meth := k7m7) (c := k7c7) (by decide +kernel) rfl rfl rfl (by decide +kernel)
set_option maxRecDepth 65536 in
theorem w_c9 : (Jvm.Cond.code ({ cls := "java/lang/String", name := "length", desc := "()I" } : Jvm.MethodName) jdk_42_method_54_code (1 : Nat) (Option.some Jvm.ClassFile.FieldType.int)).before args0 about1 = true := code_word (m := ⟨7, 2⟩) (meth := k7m2) (c := k7c2) (by decide +kernel) rfl rfl rfl (by decide +kernel)
set_option maxRecDepth 65536 in
theorem w_c10 : (Jvm.Cond.code ({ cls := "java/lang/String", name := "coder", desc := "()B" } : Jvm.MethodName) jdk_42_method_152_code (1 : Nat) (Option.some Jvm.ClassFile.FieldType.byte)).before args0 about1 = true := code_word (m := ⟨7, 6⟩) (meth := k7m6) (c := k7c6) (by decide +kernel) rfl rfl rfl (by decide +kernel)
set_option maxRecDepth 65536 in
theorem w_c11 : (Jvm.Cond.code ({ cls := "java/lang/StringLatin1", name := "indexOf", desc := "([BIII)I" } : Jvm.MethodName) jdk_43_method_22_code (4 : Nat) (Option.some Jvm.ClassFile.FieldType.int)).before args0 about1 = true := code_word (m := ⟨9, 2⟩) (meth := k9m2) (c := k9c2) (by decide +kernel) rfl rfl rfl (by decide +kernel)
set_option maxRecDepth 65536 in
theorem w_c12 : (Jvm.Cond.code ({ cls := "java/lang/StringLatin1", name := "canEncode", desc := "(I)Z" } : Jvm.MethodName) jdk_43_method_4_code (1 : Nat) (Option.some Jvm.ClassFile.FieldType.boolean)).before args0 about1 = true := code_word (m := ⟨9, 1⟩) (meth := k9m1) (c := k9c1) (by decide +kernel) rfl rfl rfl (by decide +kernel)
set_option maxRecDepth 65536 in
theorem w_c13 : (Jvm.Cond.code ({ cls := "java/lang/StringUTF16", name := "compress", desc := "([CII)[B" } : Jvm.MethodName) jdk_52_method_16_code (6 : Nat) (Option.some (Jvm.ClassFile.FieldType.array Jvm.ClassFile.FieldType.byte))).before args0 about1 = true := code_word (m := ⟨10, 8⟩) (meth := k10m8) (c := k10c8) (by decide +kernel) rfl rfl rfl (by decide +kernel)
set_option maxRecDepth 65536 in
theorem w_c14 : (Jvm.Cond.code ({ cls := "java/lang/StringUTF16", name := "compress", desc := "([CI[BII)I" } : Jvm.MethodName) jdk_52_method_21_code (7 : Nat) (Option.some Jvm.ClassFile.FieldType.int)).before args0 about1 = true := code_word (m := ⟨10, 9⟩) (meth := k10m9) (c := k10c9) (by decide +kernel) rfl rfl rfl (by decide +kernel)
set_option maxRecDepth 65536 in
theorem w_c15 : (Jvm.Cond.code ({ cls := "java/lang/StringUTF16", name := "toBytes", desc := "([CII)[B" } : Jvm.MethodName) jdk_52_method_14_code (5 : Nat) (Option.some (Jvm.ClassFile.FieldType.array Jvm.ClassFile.FieldType.byte))).before args0 about1 = true := code_word (m := ⟨10, 6⟩) (meth := k10m6) (c := k10c6) (by decide +kernel) rfl rfl rfl (by decide +kernel)
set_option maxRecDepth 65536 in
theorem w_c16 : (Jvm.Cond.code ({ cls := "java/lang/StringUTF16", name := "newBytesFor", desc := "(I)[B" } : Jvm.MethodName) jdk_52_method_2_code (1 : Nat) (Option.some (Jvm.ClassFile.FieldType.array Jvm.ClassFile.FieldType.byte))).before args0 about1 = true := code_word (m := ⟨10, 1⟩) (meth := k10m1) (c := k10c1) (by decide +kernel) rfl rfl rfl (by decide +kernel)
set_option maxRecDepth 65536 in
theorem w_c17 : (Jvm.Cond.code ({ cls := "java/lang/StringUTF16", name := "newBytesLength", desc := "(I)I" } : Jvm.MethodName) jdk_52_method_3_code (1 : Nat) (Option.some Jvm.ClassFile.FieldType.int)).before args0 about1 = true := code_word (m := ⟨10, 2⟩) (meth := k10m2) (c := k10c2) (by decide +kernel) rfl rfl rfl (by decide +kernel)
set_option maxRecDepth 65536 in
theorem w_c18 : (Jvm.Cond.code ({ cls := "java/lang/StringUTF16", name := "putChar", desc := "([BII)V" } : Jvm.MethodName) jdk_52_method_4_code (3 : Nat) (Option.none : Option Jvm.ClassFile.FieldType)).before args0 about1 = true := code_word (m := ⟨10, 3⟩) (meth := k10m3) (c := k10c3) (by decide +kernel) rfl rfl rfl (by decide +kernel)
set_option maxRecDepth 65536 in
theorem w_c19 : (Jvm.Cond.code ({ cls := "java/lang/StringUTF16", name := "getChar", desc := "([BI)C" } : Jvm.MethodName) jdk_52_method_5_code (2 : Nat) (Option.some Jvm.ClassFile.FieldType.char)).before args0 about1 = true := code_word (m := ⟨10, 4⟩) (meth := k10m4) (c := k10c4) (by decide +kernel) rfl rfl rfl (by decide +kernel)
set_option maxRecDepth 65536 in
theorem w_c20 : (Jvm.Cond.code ({ cls := "java/lang/StringUTF16", name := "coderFromArrayLen", desc := "([BI)B" } : Jvm.MethodName) jdk_52_method_15_code (2 : Nat) (Option.some Jvm.ClassFile.FieldType.byte)).before args0 about1 = true := code_word (m := ⟨10, 7⟩) (meth := k10m7) (c := k10c7) (by decide +kernel) rfl rfl rfl (by decide +kernel)
set_option maxRecDepth 65536 in
theorem w_c21 : (Jvm.Cond.code ({ cls := "java/lang/StringUTF16", name := "indexOf", desc := "([BIII)I" } : Jvm.MethodName) jdk_52_method_40_code (4 : Nat) (Option.some Jvm.ClassFile.FieldType.int)).before args0 about1 = true := code_word (m := ⟨10, 10⟩) (meth := k10m10) (c := k10c10) (by decide +kernel) rfl rfl rfl (by decide +kernel)
set_option maxRecDepth 65536 in
theorem w_c22 : (Jvm.Cond.code ({ cls := "java/lang/Math", name := "max", desc := "(II)I" } : Jvm.MethodName) jdk_29_method_65_code (2 : Nat) (Option.some Jvm.ClassFile.FieldType.int)).before args0 about1 = true := code_word (m := ⟨11, 1⟩) (meth := k11m1) (c := k11c1) (by decide +kernel) rfl rfl rfl (by decide +kernel)
set_option maxRecDepth 65536 in
theorem w_c23 : (Jvm.Cond.code ({ cls := "java/lang/Math", name := "min", desc := "(II)I" } : Jvm.MethodName) jdk_29_method_69_code (2 : Nat) (Option.some Jvm.ClassFile.FieldType.int)).before args0 about1 = true := code_word (m := ⟨11, 2⟩) (meth := k11m2) (c := k11c2) (by decide +kernel) rfl rfl rfl (by decide +kernel)
set_option maxRecDepth 65536 in
theorem w_c24 : (Jvm.Cond.code ({ cls := "java/lang/StringUTF16", name := "indexOfChar", desc := "([BIII)I" } : Jvm.MethodName) jdk_52_method_47_code (4 : Nat) (Option.some Jvm.ClassFile.FieldType.int)).before args0 about1 = true := code_word (m := ⟨10, 11⟩) (meth := k10m11) (c := k10c11) (by decide +kernel) rfl rfl rfl (by decide +kernel)
set_option maxRecDepth 65536 in
theorem w_c25 : (Jvm.Cond.code ({ cls := "java/lang/StringUTF16", name := "checkBoundsBeginEnd", desc := "(II[B)V" } : Jvm.MethodName) jdk_52_method_93_code (3 : Nat) (Option.none : Option Jvm.ClassFile.FieldType)).before args0 about1 = true := code_word (m := ⟨10, 13⟩) (meth := k10m13) (c := k10c13) (by decide +kernel) rfl rfl rfl (by decide +kernel)
set_option maxRecDepth 65536 in
theorem w_c26 : (Jvm.Cond.code ({ cls := "java/lang/StringUTF16", name := "length", desc := "([B)I" } : Jvm.MethodName) jdk_52_method_6_code (1 : Nat) (Option.some Jvm.ClassFile.FieldType.int)).before args0 about1 = true := code_word (m := ⟨10, 5⟩) (meth := k10m5) (c := k10c5) (by decide +kernel) rfl rfl rfl (by decide +kernel)
set_option maxRecDepth 65536 in
theorem w_c27 : (Jvm.Cond.code ({ cls := "java/lang/String", name := "checkBoundsBeginEnd", desc := "(III)V" } : Jvm.MethodName) jdk_42_method_158_code (3 : Nat) (Option.none : Option Jvm.ClassFile.FieldType)).before args0 about1 = true := code_word (m := ⟨7, 8⟩) (meth := k7m8) (c := k7c8) (by decide +kernel) rfl rfl rfl (by decide +kernel)
set_option maxRecDepth 65536 in
theorem w_c28 : (Jvm.Cond.code ({ cls := "jdk/internal/util/Preconditions", name := "checkFromToIndex", desc := "(IIILjava/util/function/BiFunction;)I" } : Jvm.MethodName) jdk_41_method_12_code (4 : Nat) (Option.some Jvm.ClassFile.FieldType.int)).before args0 about1 = true := code_word (m := ⟨12, 1⟩) (meth := k12m1) (c := k12c1) (by decide +kernel) rfl rfl rfl (by decide +kernel)
set_option maxRecDepth 65536 in
theorem w_c29 : (Jvm.Cond.code ({ cls := "java/lang/StringUTF16", name := "indexOfCharUnsafe", desc := "([BIII)I" } : Jvm.MethodName) jdk_52_method_48_code (5 : Nat) (Option.some Jvm.ClassFile.FieldType.int)).before args0 about1 = true := code_word (m := ⟨10, 12⟩) (meth := k10m12) (c := k10c12) (by decide +kernel) rfl rfl rfl (by decide +kernel)
def codes1 : List Jvm.Cond := [Jvm.Cond.code x code maxLocals ret, Jvm.Cond.code ({ cls := "com/example/blodis/blodis/corpus/LocaleTextLostBytesPinLaw", name := "draw", desc := "(I)C" } : Jvm.MethodName) method_2_code (1 : Nat) (Option.some Jvm.ClassFile.FieldType.char), Jvm.Cond.code ({ cls := "java/lang/String", name := "<init>", desc := "([C)V" } : Jvm.MethodName) jdk_42_method_3_code (2 : Nat) (Option.none : Option Jvm.ClassFile.FieldType), Jvm.Cond.code ({ cls := "java/lang/String", name := "<init>", desc := "([CIILjava/lang/Void;)V" } : Jvm.MethodName) jdk_42_method_149_code (6 : Nat) (Option.none : Option Jvm.ClassFile.FieldType), Jvm.Cond.code ({ cls := "java/lang/Object", name := "<init>", desc := "()V" } : Jvm.MethodName) object_method_1_code (1 : Nat) (Option.none : Option Jvm.ClassFile.FieldType), Jvm.Cond.code ({ cls := "com/example/blodis/blodis/corpus/LocaleText", name := "lostBytes", desc := "(Ljava/lang/String;)Z" } : Jvm.MethodName) prog_10_method_3_code (1 : Nat) (Option.some Jvm.ClassFile.FieldType.boolean), Jvm.Cond.code ({ cls := "java/lang/String", name := "indexOf", desc := "(I)I" } : Jvm.MethodName) jdk_42_method_79_code (2 : Nat) (Option.some Jvm.ClassFile.FieldType.int), Jvm.Cond.code ({ cls := "java/lang/String", name := "indexOf", desc := "(II)I" } : Jvm.MethodName) jdk_42_method_80_code (3 : Nat) (Option.some Jvm.ClassFile.FieldType.int), Jvm.Cond.code ({ cls := "java/lang/String", name := "isLatin1", desc := "()Z" } : Jvm.MethodName) jdk_42_method_154_code (1 : Nat) (Option.some Jvm.ClassFile.FieldType.boolean), Jvm.Cond.code ({ cls := "java/lang/String", name := "length", desc := "()I" } : Jvm.MethodName) jdk_42_method_54_code (1 : Nat) (Option.some Jvm.ClassFile.FieldType.int), Jvm.Cond.code ({ cls := "java/lang/String", name := "coder", desc := "()B" } : Jvm.MethodName) jdk_42_method_152_code (1 : Nat) (Option.some Jvm.ClassFile.FieldType.byte), Jvm.Cond.code ({ cls := "java/lang/StringLatin1", name := "indexOf", desc := "([BIII)I" } : Jvm.MethodName) jdk_43_method_22_code (4 : Nat) (Option.some Jvm.ClassFile.FieldType.int), Jvm.Cond.code ({ cls := "java/lang/StringLatin1", name := "canEncode", desc := "(I)Z" } : Jvm.MethodName) jdk_43_method_4_code (1 : Nat) (Option.some Jvm.ClassFile.FieldType.boolean), Jvm.Cond.code ({ cls := "java/lang/StringUTF16", name := "compress", desc := "([CII)[B" } : Jvm.MethodName) jdk_52_method_16_code (6 : Nat) (Option.some (Jvm.ClassFile.FieldType.array Jvm.ClassFile.FieldType.byte)), Jvm.Cond.code ({ cls := "java/lang/StringUTF16", name := "compress", desc := "([CI[BII)I" } : Jvm.MethodName) jdk_52_method_21_code (7 : Nat) (Option.some Jvm.ClassFile.FieldType.int), Jvm.Cond.code ({ cls := "java/lang/StringUTF16", name := "toBytes", desc := "([CII)[B" } : Jvm.MethodName) jdk_52_method_14_code (5 : Nat) (Option.some (Jvm.ClassFile.FieldType.array Jvm.ClassFile.FieldType.byte)), Jvm.Cond.code ({ cls := "java/lang/StringUTF16", name := "newBytesFor", desc := "(I)[B" } : Jvm.MethodName) jdk_52_method_2_code (1 : Nat) (Option.some (Jvm.ClassFile.FieldType.array Jvm.ClassFile.FieldType.byte)), Jvm.Cond.code ({ cls := "java/lang/StringUTF16", name := "newBytesLength", desc := "(I)I" } : Jvm.MethodName) jdk_52_method_3_code (1 : Nat) (Option.some Jvm.ClassFile.FieldType.int), Jvm.Cond.code ({ cls := "java/lang/StringUTF16", name := "putChar", desc := "([BII)V" } : Jvm.MethodName) jdk_52_method_4_code (3 : Nat) (Option.none : Option Jvm.ClassFile.FieldType), Jvm.Cond.code ({ cls := "java/lang/StringUTF16", name := "getChar", desc := "([BI)C" } : Jvm.MethodName) jdk_52_method_5_code (2 : Nat) (Option.some Jvm.ClassFile.FieldType.char), Jvm.Cond.code ({ cls := "java/lang/StringUTF16", name := "coderFromArrayLen", desc := "([BI)B" } : Jvm.MethodName) jdk_52_method_15_code (2 : Nat) (Option.some Jvm.ClassFile.FieldType.byte), Jvm.Cond.code ({ cls := "java/lang/StringUTF16", name := "indexOf", desc := "([BIII)I" } : Jvm.MethodName) jdk_52_method_40_code (4 : Nat) (Option.some Jvm.ClassFile.FieldType.int), Jvm.Cond.code ({ cls := "java/lang/Math", name := "max", desc := "(II)I" } : Jvm.MethodName) jdk_29_method_65_code (2 : Nat) (Option.some Jvm.ClassFile.FieldType.int), Jvm.Cond.code ({ cls := "java/lang/Math", name := "min", desc := "(II)I" } : Jvm.MethodName) jdk_29_method_69_code (2 : Nat) (Option.some Jvm.ClassFile.FieldType.int), Jvm.Cond.code ({ cls := "java/lang/StringUTF16", name := "indexOfChar", desc := "([BIII)I" } : Jvm.MethodName) jdk_52_method_47_code (4 : Nat) (Option.some Jvm.ClassFile.FieldType.int), Jvm.Cond.code ({ cls := "java/lang/StringUTF16", name := "checkBoundsBeginEnd", desc := "(II[B)V" } : Jvm.MethodName) jdk_52_method_93_code (3 : Nat) (Option.none : Option Jvm.ClassFile.FieldType), Jvm.Cond.code ({ cls := "java/lang/StringUTF16", name := "length", desc := "([B)I" } : Jvm.MethodName) jdk_52_method_6_code (1 : Nat) (Option.some Jvm.ClassFile.FieldType.int), Jvm.Cond.code ({ cls := "java/lang/String", name := "checkBoundsBeginEnd", desc := "(III)V" } : Jvm.MethodName) jdk_42_method_158_code (3 : Nat) (Option.none : Option Jvm.ClassFile.FieldType), Jvm.Cond.code ({ cls := "jdk/internal/util/Preconditions", name := "checkFromToIndex", desc := "(IIILjava/util/function/BiFunction;)I" } : Jvm.MethodName) jdk_41_method_12_code (4 : Nat) (Option.some Jvm.ClassFile.FieldType.int), Jvm.Cond.code ({ cls := "java/lang/StringUTF16", name := "indexOfCharUnsafe", desc := "([BIII)I" } : Jvm.MethodName) jdk_52_method_48_code (5 : Nat) (Option.some Jvm.ClassFile.FieldType.int)]
set_option maxRecDepth 65536 in
theorem codes_eq : words1.filter isCode = codes1 := rfl
theorem w_codes : ∀ c ∈ words1.filter isCode, c.before args0 about1 = true := by
  rw [codes_eq]
  intro c hc
  simp only [codes1, List.mem_cons, List.not_mem_nil, or_false] at hc
  rcases hc with rfl | rfl | rfl | rfl | rfl | rfl | rfl | rfl | rfl | rfl | rfl | rfl | rfl | rfl | rfl | rfl | rfl | rfl | rfl | rfl | rfl | rfl | rfl | rfl | rfl | rfl | rfl | rfl | rfl | rfl
  · exact w_c0
  · exact w_c1
  · exact w_c2
  · exact w_c3
  · exact w_c4
  · exact w_c5
  · exact w_c6
  · exact w_c7
  · exact w_c8
  · exact w_c9
  · exact w_c10
  · exact w_c11
  · exact w_c12
  · exact w_c13
  · exact w_c14
  · exact w_c15
  · exact w_c16
  · exact w_c17
  · exact w_c18
  · exact w_c19
  · exact w_c20
  · exact w_c21
  · exact w_c22
  · exact w_c23
  · exact w_c24
  · exact w_c25
  · exact w_c26
  · exact w_c27
  · exact w_c28
  · exact w_c29
set_option maxRecDepth 65536 in
theorem w_t1 : (words1.take 24).all (fun c => isCode c || c.before args0 about1) = true := by decide +kernel
set_option maxRecDepth 65536 in
theorem w_t2 : ((words1.drop 24).take 24).all (fun c => isCode c || c.before args0 about1) = true := by decide +kernel
set_option maxRecDepth 65536 in
theorem w_t3 : (((words1.drop 24).drop 24).take 24).all (fun c => isCode c || c.before args0 about1) = true := by decide +kernel
set_option maxRecDepth 65536 in
theorem w_t4 : ((((words1.drop 24).drop 24).drop 24).take 24).all (fun c => isCode c || c.before args0 about1) = true := by decide +kernel
set_option maxRecDepth 65536 in
theorem w_t5 : (((((words1.drop 24).drop 24).drop 24).drop 24).take 24).all (fun c => isCode c || c.before args0 about1) = true := by decide +kernel
set_option maxRecDepth 65536 in
theorem w_t6 : (((((words1.drop 24).drop 24).drop 24).drop 24).drop 24).all (fun c => isCode c || c.before args0 about1) = true := by decide +kernel
theorem w_tables : (allAtoms (Jvm.Cond.code x code maxLocals ret :: tables_1)).before args0 about1 = true := by
  rw [allAtoms_all]
  show words1.all (fun c => c.before args0 about1) = true
  refine all_split ?_ w_codes
  rw [← List.take_append_drop 24 words1, List.all_append, w_t1, ← List.take_append_drop 24 (words1.drop 24), List.all_append, w_t2, ← List.take_append_drop 24 ((words1.drop 24).drop 24), List.all_append, w_t3, ← List.take_append_drop 24 (((words1.drop 24).drop 24).drop 24), List.all_append, w_t4, ← List.take_append_drop 24 ((((words1.drop 24).drop 24).drop 24).drop 24), List.all_append, w_t5, w_t6]
  rfl
set_option maxRecDepth 65536 in
theorem w_rest : rest_1_c.before args0 about1 = true := by decide +kernel
set_option maxRecDepth 65536 in
theorem w_case : (Jvm.Cond.and given_1 narrow_1).before args0 about1 = true := by decide +kernel
set_option maxRecDepth 65536 in
theorem w_consts : constsHeld consts_1 about1 := Jvm.Lit.constsHeldB_iff.mp (by decide +kernel)
theorem w_applies : (headSpec (Jvm.Cond.code x code maxLocals ret :: tables_1) room_1).applies x e0.platform about1 = true :=
  (Spec.applies_iff w_frames).mpr ⟨w_running, w_runnable, w_alone, w_named, w_hears, w_ripe, w_room, w_tables⟩
theorem atStart : AtStart classFile x code maxLocals ret World_1 tables_1 room_1 Calls_1 rest_1 Pre_1 launch0 p0 e0 about1 theMethod args0 below0 :=
  ⟨lists_1, trivial, launch0.admits_env _ _ _, launch0.least_env, fairChoices_fair.cas, fairChoices_fair.clock, w_frames, w_args, w_heap, w_applies, ⟨w_consts, trivial⟩, w_rest, w_case⟩
end start1
theorem witness_1 : WitnessClaimed_1 := ⟨start1.p0, start1.e0, start1.about1, start1.theMethod, start1.args0, start1.below0, start1.atStart⟩
end Jvm.Pilot.@@N@@
