import JvmDerived
import JvmDerived.Pilot.@@N@@Statement
import JvmDerived.Pilot.@@N@@Code
set_option linter.unusedVariables false
set_option linter.unusedSimpArgs false
/- laws to paste: Road.backV, Road.lenW, Road.eqW, Road.codOf, StrChars.narrow_ch, StrChars.lo8_inj (cut by pick.py; bodies as the Statement names them) -/
namespace Jvm.Pilot.@@N@@
namespace StrChars
open Jvm Sem ClassFile Op Lib Jvm.Stand Jvm.Free.XT Jvm.Free.ALB Jvm.Free.JM Jvm.Free
open Jvm.Lib.Cold (StaticIs)
/-- a char array whose places are chars -/
def Ch (a : Addr) (A : Cell) (U : State) : Prop := Arr .char a A U ∧ Typed .char A
theorem Ch.mv {a : Addr} {A : Cell} {U U' : State} (h : Ch a A U) (hal : U.vm.Alike U'.vm) (hh : U'.heap = U.heap) : Ch a A U' := ⟨h.1.mv hal hh, h.2⟩
theorem Ch.keep {a : Addr} {A : Cell} {U U' : State} (h : Ch a A U) (hal : U.vm.Alike U'.vm) (hk : U'.heap[a]? = some A) : Ch a A U' := ⟨h.1.keep hal hk, h.2⟩
/-- what place i of a char[]'s cell holds -/
def cv (A : Cell) (i : Nat) : Int32 := match A.slots[i]? with | some (.int x) => x | _ => 0
theorem Ch.get {a : Addr} {A : Cell} {U : State} (h : Ch a A U) {i : Nat} (hi : i < A.slots.size) : A.slots[i]? = some (.int (cv A i)) := by
  have e := Array.getElem?_eq_getElem hi
  have f := h.2 i _ e
  unfold cv; rw [e]
  generalize A.slots[i] = v at f
  cases v <;> simp [fits] at f ⊢
/-- the byte that i2b leaves of a char -/
def lo8 (x : Int32) : Int32 := x.toInt8.toInt32
theorem fits_lo8 (y : Int32) : fits .byte (.int (lo8 y)) = true := by
  have h1 := y.toInt8.le_toInt
  have h2 := y.toInt8.toInt_lt
  simp only [lo8, fits, Bool.and_eq_true, decide_eq_true_eq, Int32.le_iff_toInt_le, Int8.toInt_toInt32, show (-128 : Int32).toInt = -128 from by decide, show (127 : Int32).toInt = 127 from by decide]
  omega
/-- A' is A but that each place j of lo .. hi - 1 holds f j -/
def Laid (A A' : Cell) (lo hi : Nat) (f : Nat → Value) : Prop := A'.cls = A.cls ∧ A'.vm = A.vm ∧ A'.slots.size = A.slots.size ∧ ∀ i, A'.slots[i]? = if lo ≤ i ∧ i < hi then some (f i) else A.slots[i]?
theorem Laid.zero (A : Cell) (lo : Nat) (f : Nat → Value) : Laid A A lo (lo + 0) f := ⟨rfl, rfl, rfl, fun i => by rw [if_neg (by omega)]⟩
theorem Laid.step {A Ak : Cell} {lo k : Nat} {f : Nat → Value} {v : Value} (h : Laid A Ak lo k f) (hlo : lo ≤ k) (hk : k < Ak.slots.size) (hv : v = f k) : Laid A (Ak.setSlot k v) lo (k + 1) f := by
  refine ⟨h.1, h.2.1, by simpa [Cell.setSlot] using h.2.2.1, fun i => ?_⟩
  by_cases e : k = i
  · subst e; rw [Cell.slots_setSlot_self v hk, if_pos (by omega), hv]
  · rw [Cell.slots_setSlot_ne v e, h.2.2.2 i]
    by_cases q : lo ≤ i ∧ i < k
    · rw [if_pos q, if_pos (by omega)]
    · rw [if_neg q, if_neg (by omega)]
def U16 : String := "java/lang/StringUTF16"
namespace Cmp5
def yN : MethodName := ⟨"java/lang/StringUTF16", "compress", "([CI[BII)I"⟩
abbrev yB : ByteArray := jdk_52_method_21_code
theorem d0 : decode yB 0 = .ok (.iconst 0, 1) := by decide +kernel
theorem d1 : decode yB 1 = .ok (.istore 5, 2) := by decide +kernel
theorem d3 : decode yB 3 = .ok (.iload 5, 2) := by decide +kernel
theorem d5 : decode yB 5 = .ok (.iload 4, 2) := by decide +kernel
theorem d7 : decode yB 7 = .ok (.if_icmp (.ge) 37, 3) := by decide +kernel
theorem d10 : decode yB 10 = .ok (.aload_n 0, 1) := by decide +kernel
theorem d11 : decode yB 11 = .ok (.iload_n 1, 1) := by decide +kernel
theorem d12 : decode yB 12 = .ok (.caload, 1) := by decide +kernel
theorem d13 : decode yB 13 = .ok (.istore 6, 2) := by decide +kernel
theorem d15 : decode yB 15 = .ok (.iload 6, 2) := by decide +kernel
theorem d17 : decode yB 17 = .ok (.sipush 255, 3) := by decide +kernel
theorem d20 : decode yB 20 = .ok (.if_icmp (.le) 6, 3) := by decide +kernel
theorem d26 : decode yB 26 = .ok (.aload_n 2, 1) := by decide +kernel
theorem d27 : decode yB 27 = .ok (.iload_n 3, 1) := by decide +kernel
theorem d28 : decode yB 28 = .ok (.iload 6, 2) := by decide +kernel
theorem d30 : decode yB 30 = .ok (.i2b, 1) := by decide +kernel
theorem d31 : decode yB 31 = .ok (.bastore, 1) := by decide +kernel
theorem d32 : decode yB 32 = .ok (.iinc 1 1, 3) := by decide +kernel
theorem d35 : decode yB 35 = .ok (.iinc 3 1, 3) := by decide +kernel
theorem d38 : decode yB 38 = .ok (.iinc 5 1, 3) := by decide +kernel
theorem d41 : decode yB 41 = .ok (.goto (-38), 3) := by decide +kernel
theorem d44 : decode yB 44 = .ok (.iload 4, 2) := by decide +kernel
theorem d46 : decode yB 46 = .ok (.ireturn, 1) := by decide +kernel
def site : List Cond := []
def tab : Cond := tabOf yN yB 7 (some .int) site
def P (b : Addr) (A : Cell) (d : Addr) (B : Cell) (o q len : Nat) (args : Array Value) (s : State) : Prop := args = #[.ref b, .int (Int32.ofNat o), .ref d, .int (Int32.ofNat q), .int (Int32.ofNat len)] ∧ Ch b A s ∧ Arr .byte d B s ∧ b ≠ d ∧ o + len ≤ A.slots.size ∧ q + len ≤ B.slots.size ∧ ∀ i, i < len → ¬ 255 < cv A (o + i)
def E (b : Addr) (A : Cell) (d : Addr) (B : Cell) (o q len : Nat) (r : Option Value) (s u : State) : Prop := r = some (.int (Int32.ofNat len)) ∧ ∃ B', Put d B' s u ∧ Laid B B' q (q + len) (fun j => Value.int (lo8 (cv A (o + (j - q)))))
/-- no char of the range above 255: len; the places written hold each char's low byte -/
theorem law (l : Launch) (b : Addr) (A : Cell) (d : Addr) (B : Cell) (o q len : Nat) : Law l yN 5 5 0 0 yB 7 (some .int) site (P b A d B o q len) (E b A d B o q len) (copyLocs d q len) 0 0 := by
  refine Law.of_walk (plainFor_of_name (by decide +kernel)) (by decide +kernel) (by decide +kernel) (by decide) (fun _ _ h => by rw [h.1]; rfl) (fun _ U U' hal hh h => ⟨h.1, h.2.1.mv hal hh, h.2.2.1.mv hal hh, h.2.2.2⟩) (fun r U U' V V' h1 hal h2 h => ⟨h.1, h.2.elim fun B' q => ⟨B', q.1.mv h1 h2, q.2⟩⟩) ?_
  intro p e s m args below meth c s₁ X0 hexec hbytes hml hret hlk hnm hown hh0 W hP
  obtain ⟨rfl, hA, hB, hne, l1, l2, hp⟩ := hP
  have c1 : Steps p.tables e below (s₁.setTop (entryFrame m #[.ref b, .int (Int32.ofNat o), .ref d, .int (Int32.ofNat q), .int (Int32.ofNat len)] 7)) (s₁.setTop (mkF m 0 #[.val (.ref b), .val (.int (Int32.ofNat o)), .val (.ref d), .val (.int (Int32.ofNat q)), .val (.int (Int32.ofNat len)), .unset, .unset] [])) := entry rfl
  have hA0 := hA.1.mv X0.warmed.alike hh0
  have hB0 := hB.mv X0.warmed.alike hh0
  have a31 := hA.1.2.2.2
  have c2 : Steps p.tables e below (s₁.setTop (entryFrame m #[.ref b, .int (Int32.ofNat o), .ref d, .int (Int32.ofNat q), .int (Int32.ofNat len)] 7)) (s₁.setTop (mkF m 3 #[.val (.ref b), .val (.int (Int32.ofNat o)), .val (.ref d), .val (.int (Int32.ofNat q)), .val (.int (Int32.ofNat len)), .val (.int 0), .unset] [])) := c1.trans (by
    refine iconstV X0.here hexec rfl 0 (hb hbytes d0) (by decide) ?_
    refine XS.istore X0.here hexec rfl (hb hbytes d1) rfl rfl ?_
    exact Steps.refl _)
  have loop : ∀ (r i : Nat), i + r = len → ∀ (z : Slot), (z = .unset ∨ ∃ w, z = .val w ∧ w.category = 1) → ∀ (Tl : State) (Bk : Cell), Stand p l e { frames := 0, locals := 0, cells := 0, slots := 0 } s m #[.ref b, .int (Int32.ofNat o), .ref d, .int (Int32.ofNat q), .int (Int32.ofNat len)] below meth c Tl ([] ++ copyLocs d q i) 0 0 → Put d Bk s₁ Tl → Laid B Bk q (q + i) (fun j => Value.int (lo8 (cv A (o + (j - q))))) →
      Steps p.tables e below (s₁.setTop (entryFrame m #[.ref b, .int (Int32.ofNat o), .ref d, .int (Int32.ofNat q), .int (Int32.ofNat len)] 7)) (Tl.setTop (mkF m 3 #[.val (.ref b), .val (.int (Int32.ofNat (o + i))), .val (.ref d), .val (.int (Int32.ofNat (q + i))), .val (.int (Int32.ofNat len)), .val (.int (Int32.ofNat i)), z] [])) → ∃ (T' : State) (B' : Cell) (z' : Slot), Stand p l e { frames := 0, locals := 0, cells := 0, slots := 0 } s m #[.ref b, .int (Int32.ofNat o), .ref d, .int (Int32.ofNat q), .int (Int32.ofNat len)] below meth c T' ([] ++ copyLocs d q len) 0 0 ∧ Put d B' s₁ T' ∧ Laid B B' q (q + len) (fun j => Value.int (lo8 (cv A (o + (j - q))))) ∧
      Steps p.tables e below (s₁.setTop (entryFrame m #[.ref b, .int (Int32.ofNat o), .ref d, .int (Int32.ofNat q), .int (Int32.ofNat len)] 7)) (T'.setTop (mkF m 3 #[.val (.ref b), .val (.int (Int32.ofNat (o + len))), .val (.ref d), .val (.int (Int32.ofNat (q + len))), .val (.int (Int32.ofNat len)), .val (.int (Int32.ofNat len)), z'] [])) := by
    intro r
    induction r with
    | zero =>
      intro i hi z hz Tl Bk Xl pl fl cl
      have hil : i = len := by omega
      rw [hil] at Xl fl cl
      exact ⟨Tl, Bk, z, Xl, pl, fl, cl⟩
    | succ r ih =>
      intro i hi z hz Tl Bk Xl pl fl cl
      have all := X0.warmed.alike.symm.trans Xl.warmed.alike
      have hAl := hA0.keep all (pl.other hne hA0.1)
      have hBk := hB0.like all pl.1 fl.1 fl.2.1 fl.2.2.1
      have hlt : q + i < Bk.slots.size := by rw [fl.2.2.1]; omega
      have c3 : Steps p.tables e below (s₁.setTop (entryFrame m #[.ref b, .int (Int32.ofNat o), .ref d, .int (Int32.ofNat q), .int (Int32.ofNat len)] 7)) (Tl.setTop (mkF m 12 #[.val (.ref b), .val (.int (Int32.ofNat (o + i))), .val (.ref d), .val (.int (Int32.ofNat (q + i))), .val (.int (Int32.ofNat len)), .val (.int (Int32.ofNat i)), z] [.int (Int32.ofNat (o + i)), .ref b])) := cl.trans (by
        refine XS.iload Xl.here hexec rfl (hb hbytes d3) rfl ?_
        refine XS.iload Xl.here hexec rfl (hb hbytes d5) rfl ?_
        refine XS.icmpNo Xl.here hexec rfl (hb hbytes d7) rfl (ii_ge_f (lt32 (by omega) (by omega))) ?_
        refine XS.aloadN Xl.here hexec rfl (hb hbytes d10) rfl rfl ?_
        refine XS.iloadN Xl.here hexec rfl (hb hbytes d11) rfl ?_
        exact Steps.refl _)
      have c4 : Steps p.tables e below (s₁.setTop (entryFrame m #[.ref b, .int (Int32.ofNat o), .ref d, .int (Int32.ofNat q), .int (Int32.ofNat len)] 7)) (Tl.setTop (mkF m 13 #[.val (.ref b), .val (.int (Int32.ofNat (o + i))), .val (.ref d), .val (.int (Int32.ofNat (q + i))), .val (.int (Int32.ofNat len)), .val (.int (Int32.ofNat i)), z] [.int (cv A (o + i))])) := c3.trans (by
        refine Xl.aget hexec hAl rfl (hA.get (i := o + i) (by omega)) rfl rfl (hb hbytes d12) ?_
        exact Steps.refl _)
      have c5 : Steps p.tables e below (s₁.setTop (entryFrame m #[.ref b, .int (Int32.ofNat o), .ref d, .int (Int32.ofNat q), .int (Int32.ofNat len)] 7)) (Tl.setTop (mkF m 15 #[.val (.ref b), .val (.int (Int32.ofNat (o + i))), .val (.ref d), .val (.int (Int32.ofNat (q + i))), .val (.int (Int32.ofNat len)), .val (.int (Int32.ofNat i)), .val (.int (cv A (o + i)))] [])) := c4.trans (by
        refine XS.istoreS Xl.here hexec rfl (hb hbytes d13) rfl rfl hz ?_
        exact Steps.refl _)
      have c6 : Steps p.tables e below (s₁.setTop (entryFrame m #[.ref b, .int (Int32.ofNat o), .ref d, .int (Int32.ofNat q), .int (Int32.ofNat len)] 7)) (Tl.setTop (mkF m 31 #[.val (.ref b), .val (.int (Int32.ofNat (o + i))), .val (.ref d), .val (.int (Int32.ofNat (q + i))), .val (.int (Int32.ofNat len)), .val (.int (Int32.ofNat i)), .val (.int (cv A (o + i)))] [.int (lo8 (cv A (o + i))), .int (Int32.ofNat (q + i)), .ref d])) := c5.trans (by
        refine XS.iload Xl.here hexec rfl (hb hbytes d15) rfl ?_
        refine sipushV Xl.here hexec rfl 255 (hb hbytes d17) (by decide) ?_
        refine XS.icmpYes Xl.here hexec rfl (pc0 := 20) rfl (hb hbytes d20) rfl (ii_le_t (hp i (by omega))) (by decide) rfl ?_
        refine XS.aloadN Xl.here hexec rfl (hb hbytes d26) rfl rfl ?_
        refine XS.iloadN Xl.here hexec rfl (hb hbytes d27) rfl ?_
        refine XS.iload Xl.here hexec rfl (hb hbytes d28) rfl ?_
        refine i2b Xl.here hexec rfl (hb hbytes d30) rfl ?_
        exact Steps.refl _)
      obtain ⟨T7, X7, p7, st7⟩ := Xl.aput hexec hBk rfl hlt rfl (fits_lo8 (cv A (o + i))) (g := (mkF m 31 #[.val (.ref b), .val (.int (Int32.ofNat (o + i))), .val (.ref d), .val (.int (Int32.ofNat (q + i))), .val (.int (Int32.ofNat len)), .val (.int (Int32.ofNat i)), .val (.int (cv A (o + i)))] [.int (lo8 (cv A (o + i))), .int (Int32.ofNat (q + i)), .ref d])) rfl (rest := []) rfl (hb hbytes d31)
      have c8 : Steps p.tables e below (s₁.setTop (entryFrame m #[.ref b, .int (Int32.ofNat o), .ref d, .int (Int32.ofNat q), .int (Int32.ofNat len)] 7)) (T7.setTop (mkF m 32 #[.val (.ref b), .val (.int (Int32.ofNat (o + i))), .val (.ref d), .val (.int (Int32.ofNat (q + i))), .val (.int (Int32.ofNat len)), .val (.int (Int32.ofNat i)), .val (.int (cv A (o + i)))] [])) := c6.trans (st7 _ (Steps.refl _))
      have c9 : Steps p.tables e below (s₁.setTop (entryFrame m #[.ref b, .int (Int32.ofNat o), .ref d, .int (Int32.ofNat q), .int (Int32.ofNat len)] 7)) (T7.setTop (mkF m 3 #[.val (.ref b), .val (.int (Int32.ofNat (o + i) + 1)), .val (.ref d), .val (.int (Int32.ofNat (q + i) + 1)), .val (.int (Int32.ofNat len)), .val (.int (Int32.ofNat i + 1)), .val (.int (cv A (o + i)))] [])) := c8.trans (by
        refine iincV X7.here hexec rfl 1 (hb hbytes d32) (by decide) rfl rfl ?_
        refine iincV X7.here hexec rfl 1 (hb hbytes d35) (by decide) rfl rfl ?_
        refine iincV X7.here hexec rfl 1 (hb hbytes d38) (by decide) rfl rfl ?_
        refine XS.goto X7.here hexec rfl (pc0 := 41) rfl (hb hbytes d41) (by decide) rfl ?_
        exact Steps.refl _)
      have c10 : Steps p.tables e below (s₁.setTop (entryFrame m #[.ref b, .int (Int32.ofNat o), .ref d, .int (Int32.ofNat q), .int (Int32.ofNat len)] 7)) (T7.setTop (mkF m 3 #[.val (.ref b), .val (.int (Int32.ofNat (o + (i + 1)))), .val (.ref d), .val (.int (Int32.ofNat (q + (i + 1)))), .val (.int (Int32.ofNat len)), .val (.int (Int32.ofNat (i + 1))), .val (.int (cv A (o + i)))] [])) := by
        have := c9
        rw [succ32, succ32, succ32] at this
        exact this
      exact ih (i + 1) (by omega) _ (Or.inr ⟨_, rfl, rfl⟩) T7 _ (by rw [copyLocs_step, ← List.append_assoc]; exact X7) (pl.trans p7) (fl.step (by omega) hlt (by simp)) c10
  obtain ⟨T9, B9, z9, X9, p9, f9, g9⟩ := loop len 0 (by omega) .unset (Or.inl rfl) s₁ B (by simpa [copyLocs] using X0) ⟨hB0.1, fun _ _ => rfl, rfl⟩ (Laid.zero _ _ _) c2
  have c11 : Steps p.tables e below (s₁.setTop (entryFrame m #[.ref b, .int (Int32.ofNat o), .ref d, .int (Int32.ofNat q), .int (Int32.ofNat len)] 7)) (T9.setTop (mkF m 46 #[.val (.ref b), .val (.int (Int32.ofNat (o + len))), .val (.ref d), .val (.int (Int32.ofNat (q + len))), .val (.int (Int32.ofNat len)), .val (.int (Int32.ofNat len)), z9] [.int (Int32.ofNat len)])) := g9.trans (by
    refine XS.iload X9.here hexec rfl (hb hbytes d3) rfl ?_
    refine XS.iload X9.here hexec rfl (hb hbytes d5) rfl ?_
    refine XS.icmpYes X9.here hexec rfl (pc0 := 7) rfl (hb hbytes d7) rfl (ii_ge_t (nlt32 (by omega) (Nat.le_refl _))) (by decide) rfl ?_
    refine XS.iload X9.here hexec rfl (hb hbytes d44) rfl ?_
    exact Steps.refl _)
  exact ⟨T9, some (.int (Int32.ofNat len)), _, _, _, X9, by simp, rfl, rfl, (fun h => by cases h), ⟨rfl, B9, p9.from hh0, f9⟩, fun fs hl => c11.trans (X9.ireturnOut hexec hret rfl (Or.inl rfl) (hb hbytes d46) hl)⟩
end Cmp5
namespace Cmp3
def yN : MethodName := ⟨"java/lang/StringUTF16", "compress", "([CII)[B"⟩
abbrev yB : ByteArray := jdk_52_method_16_code
theorem d0 : decode yB 0 = .ok (.iload_n 2, 1) := by decide +kernel
theorem d1 : decode yB 1 = .ok (.newarray .byte, 2) := by decide +kernel
theorem d3 : decode yB 3 = .ok (.astore_n 3, 1) := by decide +kernel
theorem d4 : decode yB 4 = .ok (.aload_n 0, 1) := by decide +kernel
theorem d5 : decode yB 5 = .ok (.iload_n 1, 1) := by decide +kernel
theorem d6 : decode yB 6 = .ok (.aload_n 3, 1) := by decide +kernel
theorem d7 : decode yB 7 = .ok (.iconst 0, 1) := by decide +kernel
theorem d8 : decode yB 8 = .ok (.iload_n 2, 1) := by decide +kernel
theorem d9 : decode yB 9 = .ok (.invokestatic 115, 3) := by decide +kernel
theorem d12 : decode yB 12 = .ok (.istore 4, 2) := by decide +kernel
theorem d14 : decode yB 14 = .ok (.iload 4, 2) := by decide +kernel
theorem d16 : decode yB 16 = .ok (.iload_n 2, 1) := by decide +kernel
theorem d17 : decode yB 17 = .ok (.if_icmp (.eq) 40, 3) := by decide +kernel
theorem d57 : decode yB 57 = .ok (.aload_n 3, 1) := by decide +kernel
theorem d58 : decode yB 58 = .ok (.areturn, 1) := by decide +kernel
def site : List Cond := [.arrayClass .byte, Cmp5.tab] ++ staticW U16 115 Cmp5.yN
def tab : Cond := tabOf yN yB 6 (some (.array .byte)) site
def P (b : Addr) (A : Cell) (o len : Nat) (args : Array Value) (s : State) : Prop := args = #[.ref b, .int (Int32.ofNat o), .int (Int32.ofNat len)] ∧ Ch b A s ∧ o + len ≤ A.slots.size ∧ len ≤ 536870912 ∧ ∀ i, i < len → ¬ 255 < cv A (o + i)
def E (b : Addr) (A : Cell) (o len : Nat) (r : Option Value) (s u : State) : Prop := NewArr .byte "[B" len (fun j => .int (lo8 (cv A (o + j)))) r s u ∧ u.heap.size = s.heap.size + 1
/-- no char of the range above 255: a new byte[] of their low bytes -/
theorem law (l : Launch) (b : Addr) (A : Cell) (o len : Nat) : Law l yN 3 3 1 18 yB 6 (some (.array .byte)) site (P b A o len) (E b A o len) [] 1 len := by
  refine Law.of_walk (plainFor_of_name (by decide +kernel)) (by decide +kernel) (by decide +kernel) (by decide) (fun _ _ h => by rw [h.1]; rfl) (fun _ U U' hal hh h => ⟨h.1, h.2.1.mv hal hh, h.2.2⟩) (fun r U U' V V' h1 hal h2 h => ⟨NewArr.mv r U U' V V' h1 hal h2 h.1, by rw [h1, h2]; exact h.2⟩) ?_
  intro p e s m args below meth c s₁ X0 hexec hbytes hml hret hlk hnm hown hh0 W hP
  obtain ⟨rfl, hA, l1, l2, hp⟩ := hP
  have a31 := hA.1.2.2.2
  have c1 : Steps p.tables e below (s₁.setTop (entryFrame m #[.ref b, .int (Int32.ofNat o), .int (Int32.ofNat len)] 6)) (s₁.setTop (mkF m 0 #[.val (.ref b), .val (.int (Int32.ofNat o)), .val (.int (Int32.ofNat len)), .unset, .unset, .unset] [])) := entry rfl
  have c2 : Steps p.tables e below (s₁.setTop (entryFrame m #[.ref b, .int (Int32.ofNat o), .int (Int32.ofNat len)] 6)) (s₁.setTop (mkF m 1 #[.val (.ref b), .val (.int (Int32.ofNat o)), .val (.int (Int32.ofNat len)), .unset, .unset, .unset] [.int (Int32.ofNat len)])) := c1.trans (by
    refine XS.iloadN X0.here hexec rfl (hb hbytes d0) rfl ?_
    exact Steps.refl _)
  obtain ⟨T3, B3, X3, ba3, bs3, bv3, bh3, bf3, st3⟩ := X0.anew hexec (atype := .byte) (wk W (.arrayClass .byte)) rfl (by show len * 1 ≤ _; omega) (by omega) (g := (mkF m 1 #[.val (.ref b), .val (.int (Int32.ofNat o)), .val (.int (Int32.ofNat len)), .unset, .unset, .unset] [.int (Int32.ofNat len)])) rfl (hb hbytes d1) (rest := []) rfl (Nat.le_refl _) (by show 0 + len ≤ len; omega)
  rw [hh0] at ba3 st3
  have kp3 : XT.Kept s T3 := (XT.Kept.of_eq hh0).push bh3
  have hA3 := hA.keep X3.warmed.alike (kp3 _ _ hA.1.1)
  have hne : b ≠ s.heap.size := hA.1.ne
  have c4 : Steps p.tables e below (s₁.setTop (entryFrame m #[.ref b, .int (Int32.ofNat o), .int (Int32.ofNat len)] 6)) (T3.setTop (mkF m 3 #[.val (.ref b), .val (.int (Int32.ofNat o)), .val (.int (Int32.ofNat len)), .unset, .unset, .unset] [.ref s.heap.size])) := c2.trans (st3 _ (Steps.refl _))
  have c5 : Steps p.tables e below (s₁.setTop (entryFrame m #[.ref b, .int (Int32.ofNat o), .int (Int32.ofNat len)] 6)) (T3.setTop (mkF m 9 #[.val (.ref b), .val (.int (Int32.ofNat o)), .val (.int (Int32.ofNat len)), .val (.ref s.heap.size), .unset, .unset] [.int (Int32.ofNat len), .int 0, .ref s.heap.size, .int (Int32.ofNat o), .ref b])) := c4.trans (by
    refine XS.astoreN X3.here hexec rfl (hb hbytes d3) rfl rfl rfl ?_
    refine XS.aloadN X3.here hexec rfl (hb hbytes d4) rfl rfl ?_
    refine XS.iloadN X3.here hexec rfl (hb hbytes d5) rfl ?_
    refine XS.aloadN X3.here hexec rfl (hb hbytes d6) rfl rfl ?_
    refine iconstV X3.here hexec rfl 0 (hb hbytes d7) (by decide) ?_
    refine XS.iloadN X3.here hexec rfl (hb hbytes d8) rfl ?_
    exact Steps.refl _)
  obtain ⟨v6, T6, X6, E6, g6⟩ := X3.callS hexec (Cmp5.law l b A s.heap.size B3 o 0 len) hown (wks W (staticW U16 115 Cmp5.yN)) (wk W Cmp5.tab) (W := 0) (Nat.le_of_ble_eq_true rfl) (Nat.le_of_ble_eq_true rfl) (Nat.le_refl _) (by show 0 + len + 0 ≤ len; omega) (g := (mkF m 9 #[.val (.ref b), .val (.int (Int32.ofNat o)), .val (.int (Int32.ofNat len)), .val (.ref s.heap.size), .unset, .unset] [.int (Int32.ofNat len), .int (Int32.ofNat 0), .ref s.heap.size, .int (Int32.ofNat o), .ref b])) rfl (by rw [hml]; rfl) c5 (argsL := [.ref b, .int (Int32.ofNat o), .ref s.heap.size, .int (Int32.ofNat 0), .int (Int32.ofNat len)]) (rest := []) rfl rfl (by show 2 * 0 + 0 ≤ _; decide) (hb hbytes d9) (⟨rfl, hA3, ba3, hne, l1, by rw [bs3]; simp, hp⟩)
  obtain ⟨rfl, B6, p6, f6⟩ := E6
  have c7 : Steps p.tables e below (s₁.setTop (entryFrame m #[.ref b, .int (Int32.ofNat o), .int (Int32.ofNat len)] 6)) (T6.setTop (mkF m 12 #[.val (.ref b), .val (.int (Int32.ofNat o)), .val (.int (Int32.ofNat len)), .val (.ref s.heap.size), .unset, .unset] [.int (Int32.ofNat len)])) := g6
  have c8 : Steps p.tables e below (s₁.setTop (entryFrame m #[.ref b, .int (Int32.ofNat o), .int (Int32.ofNat len)] 6)) (T6.setTop (mkF m 58 #[.val (.ref b), .val (.int (Int32.ofNat o)), .val (.int (Int32.ofNat len)), .val (.ref s.heap.size), .val (.int (Int32.ofNat len)), .unset] [.ref s.heap.size])) := c7.trans (by
    refine XS.istore X6.here hexec rfl (hb hbytes d12) rfl rfl ?_
    refine XS.iload X6.here hexec rfl (hb hbytes d14) rfl ?_
    refine XS.iloadN X6.here hexec rfl (hb hbytes d16) rfl ?_
    refine XS.icmpYes X6.here hexec rfl (pc0 := 17) rfl (hb hbytes d17) rfl (ii_eq_t rfl) (by decide) rfl ?_
    refine XS.aloadN X6.here hexec rfl (hb hbytes d57) rfl rfl ?_
    exact Steps.refl _)
  have X8 := X6.wide (L' := []) (cells' := 1) (slots' := len) (fun x hx hlt => by
    simp only [List.nil_append, copyLocs, List.mem_map, List.mem_range] at hx
    obtain ⟨i, -, rfl⟩ := hx
    exact absurd hlt (Nat.lt_irrefl _)) (Nat.le_refl _) (by omega)
  exact ⟨T6, some (.ref s.heap.size), _, _, _, X8, rfl, rfl, rfl, (fun h => by cases h), ⟨⟨rfl, B6, ba3.like (X3.warmed.alike.symm.trans X6.warmed.alike) p6.1 f6.1 f6.2.1 f6.2.2.1, f6.2.1.trans bv3, by rw [X6.warmed.alike.findClass, f6.1]; exact bf3, by rw [f6.2.2.1, bs3]; simp, fun j hj => by rw [f6.2.2.2 j, if_pos (by omega)]; rfl, kp3.put p6 (Nat.le_refl _)⟩, by rw [p6.2.2, bh3, hh0]; simp⟩, fun fs hl => c8.trans (X8.areturnOut hexec rfl hret rfl (hb hbytes d58) hl)⟩
end Cmp3
namespace CodL
def yN : MethodName := ⟨"java/lang/StringUTF16", "coderFromArrayLen", "([BI)B"⟩
abbrev yB : ByteArray := jdk_52_method_15_code
theorem d0 : decode yB 0 = .ok (.iload_n 1, 1) := by decide +kernel
theorem d1 : decode yB 1 = .ok (.aload_n 0, 1) := by decide +kernel
theorem d2 : decode yB 2 = .ok (.arraylength, 1) := by decide +kernel
theorem d3 : decode yB 3 = .ok (.isub, 1) := by decide +kernel
theorem d4 : decode yB 4 = .ok (.bipush 31, 2) := by decide +kernel
theorem d6 : decode yB 6 = .ok (.iushr, 1) := by decide +kernel
theorem d7 : decode yB 7 = .ok (.i2b, 1) := by decide +kernel
theorem d8 : decode yB 8 = .ok (.ireturn, 1) := by decide +kernel
def site : List Cond := []
def tab : Cond := tabOf yN yB 2 (some .byte) site
def P (d : Addr) (B : Cell) (args : Array Value) (s : State) : Prop := args = #[.ref d, .int (Int32.ofNat B.slots.size)] ∧ Arr .byte d B s
def E (r : Option Value) (s u : State) : Prop := XT.PureE (some (.int 0)) r s u
/-- an array as long as the number of chars: LATIN1 -/
theorem law (l : Launch) (d : Addr) (B : Cell) : Law l yN 2 2 0 0 yB 2 (some .byte) site (P d B) E [] 0 0 := by
  refine Law.of_walk (plainFor_of_name (by decide +kernel)) (by decide +kernel) (by decide +kernel) (by decide) (fun _ _ h => by rw [h.1]; rfl) (fun _ U U' hal hh h => ⟨h.1, h.2.mv hal hh⟩) (fun r U U' V V' h1 hal h2 h => XT.PureE.mv r U U' V V' h1 hal h2 h) ?_
  intro p e s m args below meth c s₁ X0 hexec hbytes hml hret hlk hnm hown hh0 W hP
  obtain ⟨rfl, hB⟩ := hP
  have hB0 := hB.mv X0.warmed.alike hh0
  have c1 : Steps p.tables e below (s₁.setTop (entryFrame m #[.ref d, .int (Int32.ofNat B.slots.size)] 2)) (s₁.setTop (mkF m 0 #[.val (.ref d), .val (.int (Int32.ofNat B.slots.size))] [])) := entry rfl
  have c2 : Steps p.tables e below (s₁.setTop (entryFrame m #[.ref d, .int (Int32.ofNat B.slots.size)] 2)) (s₁.setTop (mkF m 2 #[.val (.ref d), .val (.int (Int32.ofNat B.slots.size))] [.ref d, .int (Int32.ofNat B.slots.size)])) := c1.trans (by
    refine XS.iloadN X0.here hexec rfl (hb hbytes d0) rfl ?_
    refine XS.aloadN X0.here hexec rfl (hb hbytes d1) rfl rfl ?_
    exact Steps.refl _)
  have c3 : Steps p.tables e below (s₁.setTop (entryFrame m #[.ref d, .int (Int32.ofNat B.slots.size)] 2)) (s₁.setTop (mkF m 8 #[.val (.ref d), .val (.int (Int32.ofNat B.slots.size))] [.int (lo8 (ushr (Int32.ofNat B.slots.size - Int32.ofNat B.slots.size) 31))])) := c2.trans (by
    refine X0.alen hexec hB0 rfl rfl (hb hbytes d2) ?_
    refine XS.isub X0.here hexec rfl (hb hbytes d3) rfl ?_
    refine bipushV X0.here hexec rfl 31 (hb hbytes d4) (by decide) ?_
    refine iushr X0.here hexec rfl (hb hbytes d6) rfl ?_
    refine i2b X0.here hexec rfl (hb hbytes d7) rfl ?_
    exact Steps.refl _)
  have e0 : lo8 (ushr (Int32.ofNat B.slots.size - Int32.ofNat B.slots.size) 31) = 0 := by rw [Int32.sub_self]; decide
  rw [e0] at c3
  exact ⟨s₁, some (.int 0), _, _, _, X0, rfl, rfl, rfl, (fun h => by cases h), ⟨rfl, hh0⟩, fun fs hl => c3.trans (X0.ireturnOut hexec hret rfl (Or.inr (Or.inr (Or.inl rfl))) (hb hbytes d8) hl)⟩
end CodL
/-- the String at a is Latin-1 over a new byte[] (the heap's one new cell): the low bytes of the len chars of A from o on; every cell but a is kept -/
def Got (a : Addr) (D : Cell) (fV fC : Field) (A : Cell) (o len : Nat) (r : Option Value) (s u : State) : Prop := r = none ∧ ∃ D' V : Cell, Blank "java/lang/String" a D' u ∧ Same D D' [fV.slot, fC.slot] ∧ D'.slots[fV.slot]? = some (.ref s.heap.size) ∧ D'.slots[fC.slot]? = some (.int 0) ∧ Arr .byte s.heap.size V u ∧ V.vm = .none ∧ u.vm.findClass "[B" = some V.cls ∧ V.slots.size = len ∧ (∀ j, j < len → V.slots[j]? = some (.int (lo8 (cv A (o + j))))) ∧ (∀ (y : Addr) (c : Cell), y ≠ a → s.heap[y]? = some c → u.heap[y]? = some c) ∧ u.heap.size = s.heap.size + 1
theorem Got.mv {a : Addr} {D A : Cell} {fV fC : Field} {o len : Nat} : ∀ r (U U' V V' : State), U'.heap = U.heap → V.vm.Alike V'.vm → V'.heap = V.heap → Got a D fV fC A o len r U V → Got a D fV fC A o len r U' V' :=
  fun r U U' V V' h1 hal h2 ⟨e0, D', X, a1, a2, a3, a4, a5, a6, a7, a8, a9, a10, a11⟩ => ⟨e0, D', X, a1.mv hal h2, a2, by rw [h1]; exact a3, a4, by rw [h1]; exact a5.mv hal h2, a6, by rw [hal.findClass]; exact a7, a8, a9, by rw [h1, h2]; exact a10, by rw [h1, h2]; exact a11⟩
namespace New4
def yN : MethodName := ⟨"java/lang/String", "<init>", "([CIILjava/lang/Void;)V"⟩
abbrev yB : ByteArray := jdk_42_method_149_code
theorem d0 : decode yB 0 = .ok (.aload_n 0, 1) := by decide +kernel
theorem d1 : decode yB 1 = .ok (.invokespecial 1, 3) := by decide +kernel
theorem d4 : decode yB 4 = .ok (.iload_n 3, 1) := by decide +kernel
theorem d5 : decode yB 5 = .ok (.ifCond (.ne) 22, 3) := by decide +kernel
theorem d27 : decode yB 27 = .ok (.getstatic 38, 3) := by decide +kernel
theorem d30 : decode yB 30 = .ok (.ifCond (.eq) 28, 3) := by decide +kernel
theorem d33 : decode yB 33 = .ok (.aload_n 1, 1) := by decide +kernel
theorem d34 : decode yB 34 = .ok (.iload_n 2, 1) := by decide +kernel
theorem d35 : decode yB 35 = .ok (.iload_n 3, 1) := by decide +kernel
theorem d36 : decode yB 36 = .ok (.invokestatic 177, 3) := by decide +kernel
theorem d39 : decode yB 39 = .ok (.astore 5, 2) := by decide +kernel
theorem d41 : decode yB 41 = .ok (.aload_n 0, 1) := by decide +kernel
theorem d42 : decode yB 42 = .ok (.aload 5, 2) := by decide +kernel
theorem d44 : decode yB 44 = .ok (.iload_n 3, 1) := by decide +kernel
theorem d45 : decode yB 45 = .ok (.invokestatic 47, 3) := by decide +kernel
theorem d48 : decode yB 48 = .ok (.putfield 15, 3) := by decide +kernel
theorem d51 : decode yB 51 = .ok (.aload_n 0, 1) := by decide +kernel
theorem d52 : decode yB 52 = .ok (.aload 5, 2) := by decide +kernel
theorem d54 : decode yB 54 = .ok (.putfield 9, 3) := by decide +kernel
theorem d57 : decode yB 57 = .ok (.return_, 1) := by decide +kernel
def site : List Cond := [.fieldLink "java/lang/String" 38 "java/lang/String" "COMPACT_STRINGS" "Z", Cmp3.tab, CodL.tab, .laysFinal "java/lang/String" "java/lang/String" "value" "[B", .fieldLink "java/lang/String" 9 "java/lang/String" "value" "[B", .laysFinal "java/lang/String" "java/lang/String" "coder" "B", .fieldLink "java/lang/String" 15 "java/lang/String" "coder" "B"] ++ objW "java/lang/String" 1 ++ staticW "java/lang/String" 177 Cmp3.yN ++ staticW "java/lang/String" 47 CodL.yN
def tab : Cond := tabOf yN yB 6 none site
def P (a : Addr) (D : Cell) (fV fC : Field) (b : Addr) (A : Cell) (z : Int32) (o len : Nat) (args : Array Value) (s : State) : Prop := args = #[.ref a, .ref b, .int (Int32.ofNat o), .int (Int32.ofNat len), .null] ∧ Blank "java/lang/String" a D s ∧ Found "java/lang/String" "value" "[B" fV s ∧ Found "java/lang/String" "coder" "B" fC s ∧ Ch b A s ∧ StaticIs s "java/lang/String" "COMPACT_STRINGS" "Z" (.int z) ∧ ¬ z = 0 ∧ 0 < len ∧ o + len ≤ A.slots.size ∧ len ≤ 536870912 ∧ ∀ i, i < len → ¬ 255 < cv A (o + i)
def E (a : Addr) (D : Cell) (fV fC : Field) (A : Cell) (o len : Nat) (r : Option Value) (s u : State) : Prop := Got a D fV fC A o len r s u
/-- len > 0, no char of the range above 255: a Latin-1 String of their low bytes -/
theorem law (l : Launch) (a : Addr) (D : Cell) (fV fC : Field) (b : Addr) (A : Cell) (z : Int32) (o len : Nat) : Law l yN 5 4 2 35 yB 6 none site (P a D fV fC b A z o len) (E a D fV fC A o len) [⟨a, fC.slot⟩, ⟨a, fV.slot⟩] 1 len := by
  refine Law.of_walk (plainFor_of_name (by decide +kernel)) (by decide +kernel) (by decide +kernel) (by decide) (fun _ _ h => by rw [h.1]; rfl) (fun _ U U' hal hh h => ⟨h.1, h.2.1.mv hal hh, h.2.2.1.al hal, h.2.2.2.1.al hal, h.2.2.2.2.1.mv hal hh, h.2.2.2.2.2.1.there hal hh, h.2.2.2.2.2.2⟩) (fun r U U' V V' h1 hal h2 h => Got.mv r U U' V V' h1 hal h2 h) ?_
  intro p e s m args below meth c s₁ X0 hexec hbytes hml hret hlk hnm hown hh0 W hP
  obtain ⟨rfl, hB, f1, f2, hA, s1, hz, l0, l1, l2, hp⟩ := hP
  have a31 := hA.1.2.2.2
  have c1 : Steps p.tables e below (s₁.setTop (entryFrame m #[.ref a, .ref b, .int (Int32.ofNat o), .int (Int32.ofNat len), .null] 6)) (s₁.setTop (mkF m 0 #[.val (.ref a), .val (.ref b), .val (.int (Int32.ofNat o)), .val (.int (Int32.ofNat len)), .val .null, .unset] [])) := entry rfl
  have c2 : Steps p.tables e below (s₁.setTop (entryFrame m #[.ref a, .ref b, .int (Int32.ofNat o), .int (Int32.ofNat len), .null] 6)) (s₁.setTop (mkF m 1 #[.val (.ref a), .val (.ref b), .val (.int (Int32.ofNat o)), .val (.int (Int32.ofNat len)), .val .null, .unset] [.ref a])) := c1.trans (by
    refine XS.aloadN X0.here hexec rfl (hb hbytes d0) rfl rfl ?_
    exact Steps.refl _)
  obtain ⟨T3, X3, q3, st3⟩ := X0.oinit hexec hown (wks W (objW "java/lang/String" 1)) (g := (mkF m 1 #[.val (.ref a), .val (.ref b), .val (.int (Int32.ofNat o)), .val (.int (Int32.ofNat len)), .val .null, .unset] [.ref a])) rfl (by rw [hml]; rfl) (rest := []) rfl (hb hbytes d1) (W := 0) (by show 2 * 0 + 0 ≤ _; decide) (Nat.le_of_ble_eq_true rfl) (Nat.le_of_ble_eq_true rfl)
  have hh3 := q3.trans hh0
  have c4 : Steps p.tables e below (s₁.setTop (entryFrame m #[.ref a, .ref b, .int (Int32.ofNat o), .int (Int32.ofNat len), .null] 6)) (T3.setTop (mkF m 27 #[.val (.ref a), .val (.ref b), .val (.int (Int32.ofNat o)), .val (.int (Int32.ofNat len)), .val .null, .unset] [])) := (c2.trans (st3 _ (Steps.refl _))).trans (by
    refine XS.iloadN X3.here hexec rfl (hb hbytes d4) rfl ?_
    refine XS.ifYes X3.here hexec rfl (pc0 := 5) rfl (hb hbytes d5) rfl (i0_ne_t (nz32 (by omega) l0)) (by decide) rfl ?_
    exact Steps.refl _)
  obtain ⟨T5, X5, q5, st5⟩ := X3.sget hexec hown (wk W (.fieldLink "java/lang/String" 38 "java/lang/String" "COMPACT_STRINGS" "Z")) s1 (fun _ _ h => by rw [hh3]; exact h) (g := (mkF m 27 #[.val (.ref a), .val (.ref b), .val (.int (Int32.ofNat o)), .val (.int (Int32.ofNat len)), .val .null, .unset] [])) rfl (hb hbytes d27)
  have hh5 := q5.trans hh3
  have c6 : Steps p.tables e below (s₁.setTop (entryFrame m #[.ref a, .ref b, .int (Int32.ofNat o), .int (Int32.ofNat len), .null] 6)) (T5.setTop (mkF m 30 #[.val (.ref a), .val (.ref b), .val (.int (Int32.ofNat o)), .val (.int (Int32.ofNat len)), .val .null, .unset] [.int z])) := c4.trans (st5 _ (Steps.refl _))
  have c7 : Steps p.tables e below (s₁.setTop (entryFrame m #[.ref a, .ref b, .int (Int32.ofNat o), .int (Int32.ofNat len), .null] 6)) (T5.setTop (mkF m 36 #[.val (.ref a), .val (.ref b), .val (.int (Int32.ofNat o)), .val (.int (Int32.ofNat len)), .val .null, .unset] [.int (Int32.ofNat len), .int (Int32.ofNat o), .ref b])) := c6.trans (by
    refine XS.ifNo X5.here hexec rfl (hb hbytes d30) rfl (i0_eq_f hz) ?_
    refine XS.aloadN X5.here hexec rfl (hb hbytes d33) rfl rfl ?_
    refine XS.iloadN X5.here hexec rfl (hb hbytes d34) rfl ?_
    refine XS.iloadN X5.here hexec rfl (hb hbytes d35) rfl ?_
    exact Steps.refl _)
  obtain ⟨v8, T8, X8, E8, g8⟩ := X5.callS hexec (Cmp3.law l b A o len) hown (wks W (staticW "java/lang/String" 177 Cmp3.yN)) (wk W Cmp3.tab) (W := 0) (Nat.le_of_ble_eq_true rfl) (Nat.le_of_ble_eq_true rfl) (Nat.le_refl _) (by show 0 + len ≤ len; omega) (g := (mkF m 36 #[.val (.ref a), .val (.ref b), .val (.int (Int32.ofNat o)), .val (.int (Int32.ofNat len)), .val .null, .unset] [.int (Int32.ofNat len), .int (Int32.ofNat o), .ref b])) rfl (by rw [hml]; rfl) c7 (argsL := [.ref b, .int (Int32.ofNat o), .int (Int32.ofNat len)]) (rest := []) rfl rfl (by show 2 * 0 + 0 ≤ _; decide) (hb hbytes d36) (⟨rfl, hA.mv X5.warmed.alike hh5, l1, l2, hp⟩)
  obtain ⟨e8, z8⟩ := E8
  obtain ⟨rfl, N, n1, n2, n3, n4, n5, n6⟩ := NewArr.mv _ T5 s _ _ hh5.symm (Vm.Alike.refl _) rfl e8
  rw [hh5] at z8
  have hB1 := hB.keep X8.warmed.alike (n6 _ _ hB.1)
  have hne : s.heap.size ≠ a := (Nat.ne_of_lt (Array.getElem?_eq_some_iff.mp hB.1).1).symm
  have c9 : Steps p.tables e below (s₁.setTop (entryFrame m #[.ref a, .ref b, .int (Int32.ofNat o), .int (Int32.ofNat len), .null] 6)) (T8.setTop (mkF m 39 #[.val (.ref a), .val (.ref b), .val (.int (Int32.ofNat o)), .val (.int (Int32.ofNat len)), .val .null, .unset] [.ref s.heap.size])) := g8
  have c10 : Steps p.tables e below (s₁.setTop (entryFrame m #[.ref a, .ref b, .int (Int32.ofNat o), .int (Int32.ofNat len), .null] 6)) (T8.setTop (mkF m 45 #[.val (.ref a), .val (.ref b), .val (.int (Int32.ofNat o)), .val (.int (Int32.ofNat len)), .val .null, .val (.ref s.heap.size)] [.int (Int32.ofNat N.slots.size), .ref s.heap.size, .ref a])) := by
    have hc : Steps p.tables e below (s₁.setTop (entryFrame m #[.ref a, .ref b, .int (Int32.ofNat o), .int (Int32.ofNat len), .null] 6)) (T8.setTop (mkF m 45 #[.val (.ref a), .val (.ref b), .val (.int (Int32.ofNat o)), .val (.int (Int32.ofNat len)), .val .null, .val (.ref s.heap.size)] [.int (Int32.ofNat len), .ref s.heap.size, .ref a])) := c9.trans (by
      refine XS.astore X8.here hexec rfl (hb hbytes d39) rfl rfl rfl ?_
      refine XS.aloadN X8.here hexec rfl (hb hbytes d41) rfl rfl ?_
      refine XS.aload X8.here hexec rfl (hb hbytes d42) rfl rfl ?_
      refine XS.iloadN X8.here hexec rfl (hb hbytes d44) rfl ?_
      exact Steps.refl _)
    rw [n4]; exact hc
  obtain ⟨v11, T11, X11, E11, g11⟩ := X8.callS hexec (CodL.law l s.heap.size N) hown (wks W (staticW "java/lang/String" 47 CodL.yN)) (wk W CodL.tab) (W := 1) (Nat.le_of_ble_eq_true rfl) (Nat.le_of_ble_eq_true rfl) (Nat.le_refl _) (by show 0 + len + 0 ≤ len; omega) (g := (mkF m 45 #[.val (.ref a), .val (.ref b), .val (.int (Int32.ofNat o)), .val (.int (Int32.ofNat len)), .val .null, .val (.ref s.heap.size)] [.int (Int32.ofNat N.slots.size), .ref s.heap.size, .ref a])) rfl (by rw [hml]; rfl) c10 (argsL := [.ref s.heap.size, .int (Int32.ofNat N.slots.size)]) (rest := [.ref a]) rfl rfl (by show 2 * 0 + (1 + 0) ≤ _; decide) (hb hbytes d45) (⟨rfl, n1⟩)
  obtain ⟨rfl, q11⟩ := E11
  have hB11 := hB1.mv (X8.warmed.alike.symm.trans X11.warmed.alike) q11
  have c12 : Steps p.tables e below (s₁.setTop (entryFrame m #[.ref a, .ref b, .int (Int32.ofNat o), .int (Int32.ofNat len), .null] 6)) (T11.setTop (mkF m 48 #[.val (.ref a), .val (.ref b), .val (.int (Int32.ofNat o)), .val (.int (Int32.ofNat len)), .val .null, .val (.ref s.heap.size)] [.int 0, .ref a])) := g11
  obtain ⟨T13, X13, p13, bl13, sl13, st13⟩ := X11.finit hexec hown (wk W (.fieldLink "java/lang/String" 15 "java/lang/String" "coder" "B")) (Or.inr ⟨_, (wk W (.laysFinal "java/lang/String" "java/lang/String" "coder" "B"))⟩) (Or.inl ⟨rfl, hnm⟩) f2 (Or.inl rfl) hB11 (t := .byte) (by decide +kernel) rfl (g := (mkF m 48 #[.val (.ref a), .val (.ref b), .val (.int (Int32.ofNat o)), .val (.int (Int32.ofNat len)), .val .null, .val (.ref s.heap.size)] [.int 0, .ref a])) rfl (rest := []) rfl (hb hbytes d48)
  have c14 : Steps p.tables e below (s₁.setTop (entryFrame m #[.ref a, .ref b, .int (Int32.ofNat o), .int (Int32.ofNat len), .null] 6)) (T13.setTop (mkF m 54 #[.val (.ref a), .val (.ref b), .val (.int (Int32.ofNat o)), .val (.int (Int32.ofNat len)), .val .null, .val (.ref s.heap.size)] [.ref s.heap.size, .ref a])) := (c12.trans (st13 _ (Steps.refl _))).trans (by
    refine XS.aloadN X13.here hexec rfl (hb hbytes d51) rfl rfl ?_
    refine XS.aload X13.here hexec rfl (hb hbytes d52) rfl rfl ?_
    exact Steps.refl _)
  obtain ⟨T15, X15, p15, bl15, sl15, st15⟩ := X13.finit hexec hown (wk W (.fieldLink "java/lang/String" 9 "java/lang/String" "value" "[B")) (Or.inr ⟨_, (wk W (.laysFinal "java/lang/String" "java/lang/String" "value" "[B"))⟩) (Or.inl ⟨rfl, hnm⟩) f1 (Or.inl rfl) bl13 (t := (.array .byte)) (by decide +kernel) rfl (g := (mkF m 54 #[.val (.ref a), .val (.ref b), .val (.int (Int32.ofNat o)), .val (.int (Int32.ofNat len)), .val .null, .val (.ref s.heap.size)] [.ref s.heap.size, .ref a])) rfl (rest := []) rfl (hb hbytes d54)
  have c16 : Steps p.tables e below (s₁.setTop (entryFrame m #[.ref a, .ref b, .int (Int32.ofNat o), .int (Int32.ofNat len), .null] 6)) (T15.setTop (mkF m 57 #[.val (.ref a), .val (.ref b), .val (.int (Int32.ofNat o)), .val (.int (Int32.ofNat len)), .val .null, .val (.ref s.heap.size)] [])) := c14.trans (st15 _ (Steps.refl _))
  have ap := apart (Or.inr ⟨_, (wk W (.laysFinal "java/lang/String" "java/lang/String" "value" "[B"))⟩) (Or.inr ⟨_, (wk W (.laysFinal "java/lang/String" "java/lang/String" "coder" "B"))⟩) f1 f2 (t₁ := .array .byte) (t₂ := .byte) (by decide +kernel) (by decide +kernel) (by decide)
  have al := X8.warmed.alike.symm.trans X15.warmed.alike
  have n7 : T11.heap[s.heap.size]? = some N := by rw [q11]; exact n1.1
  exact ⟨T15, none, _, _, _, X15, by simp, rfl, by omega, (fun _ => rfl), ⟨rfl, _, N, bl15, ((Same.refl D _).set _ (by simp)).set _ (by simp), sl15, (Cell.slots_setSlot_ne _ ap).trans sl13, n1.keep al (p15.other hne (p13.other hne n7)), n2, by rw [al.findClass]; exact n3, n4, n5, fun y c h1 h2 => p15.other h1 (p13.other h1 (by rw [q11]; exact n6 y c h2)), by rw [p15.2.2, p13.2.2, q11]; exact z8⟩, fun fs hl => c16.trans (X15.returnOut hexec hret (hb hbytes d57) hl)⟩
end New4
namespace New1
def yN : MethodName := ⟨"java/lang/String", "<init>", "([C)V"⟩
abbrev yB : ByteArray := jdk_42_method_3_code
theorem d0 : decode yB 0 = .ok (.aload_n 0, 1) := by decide +kernel
theorem d1 : decode yB 1 = .ok (.aload_n 1, 1) := by decide +kernel
theorem d2 : decode yB 2 = .ok (.iconst 0, 1) := by decide +kernel
theorem d3 : decode yB 3 = .ok (.aload_n 1, 1) := by decide +kernel
theorem d4 : decode yB 4 = .ok (.arraylength, 1) := by decide +kernel
theorem d5 : decode yB 5 = .ok (.aconst_null, 1) := by decide +kernel
theorem d6 : decode yB 6 = .ok (.invokespecial 27, 3) := by decide +kernel
theorem d9 : decode yB 9 = .ok (.return_, 1) := by decide +kernel
def site : List Cond := [New4.tab] ++ initW "java/lang/String" 27 New4.yN
def tab : Cond := tabOf yN yB 2 none site
def P (a : Addr) (D : Cell) (fV fC : Field) (b : Addr) (A : Cell) (z : Int32) (args : Array Value) (s : State) : Prop := args = #[.ref a, .ref b] ∧ Blank "java/lang/String" a D s ∧ Found "java/lang/String" "value" "[B" fV s ∧ Found "java/lang/String" "coder" "B" fC s ∧ Ch b A s ∧ StaticIs s "java/lang/String" "COMPACT_STRINGS" "Z" (.int z) ∧ ¬ z = 0 ∧ 0 < A.slots.size ∧ A.slots.size ≤ 536870912 ∧ ∀ i, i < A.slots.size → ¬ 255 < cv A i
def E (a : Addr) (D : Cell) (fV fC : Field) (A : Cell) (r : Option Value) (s u : State) : Prop := Got a D fV fC A 0 A.slots.size r s u
/-- new String(chars), not empty, no char above 255: a Latin-1 String of their low bytes -/
theorem law (l : Launch) (a : Addr) (D : Cell) (fV fC : Field) (b : Addr) (A : Cell) (z : Int32) : Law l yN 2 1 3 52 yB 2 none site (P a D fV fC b A z) (E a D fV fC A) [⟨a, fC.slot⟩, ⟨a, fV.slot⟩] 1 A.slots.size := by
  refine Law.of_walk (plainFor_of_name (by decide +kernel)) (by decide +kernel) (by decide +kernel) (by decide) (fun _ _ h => by rw [h.1]; rfl) (fun _ U U' hal hh h => ⟨h.1, h.2.1.mv hal hh, h.2.2.1.al hal, h.2.2.2.1.al hal, h.2.2.2.2.1.mv hal hh, h.2.2.2.2.2.1.there hal hh, h.2.2.2.2.2.2⟩) (fun r U U' V V' h1 hal h2 h => Got.mv r U U' V V' h1 hal h2 h) ?_
  intro p e s m args below meth c s₁ X0 hexec hbytes hml hret hlk hnm hown hh0 W hP
  obtain ⟨rfl, hB, f1, f2, hA, s1, hz, l0, l2, hp⟩ := hP
  have c1 : Steps p.tables e below (s₁.setTop (entryFrame m #[.ref a, .ref b] 2)) (s₁.setTop (mkF m 0 #[.val (.ref a), .val (.ref b)] [])) := entry rfl
  have c2 : Steps p.tables e below (s₁.setTop (entryFrame m #[.ref a, .ref b] 2)) (s₁.setTop (mkF m 6 #[.val (.ref a), .val (.ref b)] [.null, .int (Int32.ofNat A.slots.size), .int 0, .ref b, .ref a])) := c1.trans (by
    refine XS.aloadN X0.here hexec rfl (hb hbytes d0) rfl rfl ?_
    refine XS.aloadN X0.here hexec rfl (hb hbytes d1) rfl rfl ?_
    refine iconstV X0.here hexec rfl 0 (hb hbytes d2) (by decide) ?_
    refine XS.aloadN X0.here hexec rfl (hb hbytes d3) rfl rfl ?_
    refine X0.alen hexec (hA.1.mv X0.warmed.alike hh0) rfl rfl (hb hbytes d4) ?_
    refine XS.aconstNull X0.here hexec rfl (hb hbytes d5) ?_
    exact Steps.refl _)
  obtain ⟨v3, T3, X3, E3, g3⟩ := X0.callN hexec (New4.law l a D fV fC b A z 0 A.slots.size) rfl hown (wks W (initW "java/lang/String" 27 New4.yN)) (W New4.tab (by simp only [site, List.mem_cons, List.mem_append, true_or, or_true])) (W := 0) (Nat.le_of_ble_eq_true rfl) (Nat.le_of_ble_eq_true rfl) (Nat.le_refl _) (by show 0 + A.slots.size ≤ A.slots.size; omega) (g := (mkF m 6 #[.val (.ref a), .val (.ref b)] [.null, .int (Int32.ofNat A.slots.size), .int (Int32.ofNat 0), .ref b, .ref a])) rfl (by rw [hml]; rfl) c2 (argsL := [.ref b, .int (Int32.ofNat 0), .int (Int32.ofNat A.slots.size), .null]) (rest := []) rfl rfl (by show 2 * 0 + 0 ≤ _; decide) (hb hbytes d6) (⟨rfl, hB.mv X0.warmed.alike hh0, f1.al X0.warmed.alike, f2.al X0.warmed.alike, hA.mv X0.warmed.alike hh0, s1.there X0.warmed.alike hh0, hz, l0, by omega, l2, fun i hi => by rw [Nat.zero_add]; exact hp i hi⟩)
  have e0 := Got.mv _ s₁ s _ _ hh0.symm (Vm.Alike.refl _) rfl E3
  obtain rfl := e0.1
  have c4 : Steps p.tables e below (s₁.setTop (entryFrame m #[.ref a, .ref b] 2)) (T3.setTop (mkF m 9 #[.val (.ref a), .val (.ref b)] [])) := g3
  exact ⟨T3, none, _, _, _, X3, by simp, rfl, by omega, (fun _ => rfl), e0, fun fs hl => c4.trans (X3.returnOut hexec hret (hb hbytes d9) hl)⟩
theorem pays {l : Launch} {R : Room} {p : Program} {e : Env} {below : List Frame} {s : State} {sargs : Array Value} {len W : Nat} (a : Addr) (D : Cell) (fV fC : Field) (b : Addr) (A : Cell) (z : Int32) (htab : tab.before sargs s = true) (hfr : 4 ≤ R.frames) (hlo : W + 65 ≤ R.locals) :
    Back l R p e below s sargs yN len W (fun A₁ a₁ => A₁.cells + 1 ≤ R.cells ∧ A₁.slots + A.slots.size ≤ R.slots ∧ P a D fV fC b A z a₁ A₁.U) (fun A₁ _ v₁ B₁ => E a D fV fC A v₁ A₁.U B₁.U ∧ B₁.locs = A₁.locs ++ [⟨a, fC.slot⟩, ⟨a, fV.slot⟩] ∧ B₁.cells = A₁.cells + 1 ∧ B₁.slots = A₁.slots + A.slots.size) :=
  (law l a D fV fC b A z).pays htab hfr (by omega)
end New1
/-- the byte, read back as charAt reads it, is the char -/
theorem lo8_mask {x : Int32} (h0 : ¬ x < 0) (h1 : ¬ 255 < x) : lo8 x &&& 255 = x := by
  have t : ∀ k : Fin 256, lo8 (Int32.ofNat k.val) &&& 255 = Int32.ofNat k.val := by decide +kernel
  rw [Int32.lt_iff_toInt_lt] at h0 h1
  have e0 : (0 : Int32).toInt = 0 := rfl
  have e1 : (255 : Int32).toInt = 255 := rfl
  obtain ⟨k, hk⟩ : ∃ k : Nat, x.toInt = k := ⟨x.toInt.toNat, by omega⟩
  have hx : x = Int32.ofNat k := Int32.toInt_inj.mp (by rw [hk, Int32.toInt_ofNat_small (by omega)])
  rw [hx]
  exact t ⟨k, by omega⟩
end StrChars
namespace StrChars.Road
open Jvm Sem ClassFile Op Lib Jvm.Stand Jvm.Free Jvm.Free.XT
open Jvm.Lib.Cold (StaticIs)
abbrev ST : String := "java/lang/String"
/-- every table word that New1's law asks, flat -/
abbrev words : List Jvm.Cond := [.code New1.yN New1.yB 2 none, .initialized ST, .methodLink ST 27 New4.yN, .instanceMethod New4.yN,
  .code New4.yN New4.yB 6 none, .fieldLink ST 38 ST "COMPACT_STRINGS" "Z", .laysFinal ST ST "value" "[B", .fieldLink ST 9 ST "value" "[B", .laysFinal ST ST "coder" "B", .fieldLink ST 15 ST "coder" "B",
  .methodLink ST 1 Lib.objectInit, .instanceMethod Lib.objectInit, .code Lib.objectInit ⟨#[0xb1]⟩ 1 none, .methodLink ST 177 Cmp3.yN, .static Cmp3.yN, .methodLink ST 47 CodL.yN, .static CodL.yN,
  .code Cmp3.yN Cmp3.yB 6 (some (.array .byte)), .initialized U16, .arrayClass .byte, .methodLink U16 115 Cmp5.yN, .static Cmp5.yN, .code Cmp5.yN Cmp5.yB 7 (some .int), .code CodL.yN CodL.yB 2 (some .byte)]
theorem tab_of {a : Array Value} {s : State} (h : ∀ w ∈ words, w.before a s = true) : New1.tab.before a s = true := by
  have h5 : Cmp5.tab.before a s = true := unparts (wk h (.code Cmp5.yN Cmp5.yB 7 (some .int))) (wks h (.initialized Cmp5.yN.cls :: Cmp5.site))
  have hc : CodL.tab.before a s = true := unparts (wk h (.code CodL.yN CodL.yB 2 (some .byte))) (wks h (.initialized CodL.yN.cls :: CodL.site))
  have q5 : ∀ w ∈ Cmp5.tab :: words, w.before a s = true := fun w hw => (List.mem_cons.mp hw).elim (fun e => e ▸ h5) (h w)
  have h3 : Cmp3.tab.before a s = true := unparts (wk q5 (.code Cmp3.yN Cmp3.yB 6 (some (.array .byte)))) (wks q5 (.initialized Cmp3.yN.cls :: Cmp3.site))
  have q3 : ∀ w ∈ Cmp3.tab :: CodL.tab :: words, w.before a s = true := fun w hw => (List.mem_cons.mp hw).elim (fun e => e ▸ h3) fun hw => (List.mem_cons.mp hw).elim (fun e => e ▸ hc) (h w)
  have h4 : New4.tab.before a s = true := unparts (wk q3 (.code New4.yN New4.yB 6 none)) (wks q3 (.initialized New4.yN.cls :: New4.site))
  have q4 : ∀ w ∈ New4.tab :: words, w.before a s = true := fun w hw => (List.mem_cons.mp hw).elim (fun e => e ▸ h4) (h w)
  exact unparts (wk q4 (.code New1.yN New1.yB 2 none)) (wks q4 (.initialized New1.yN.cls :: New1.site))
/-- the words ride from the start Z to the walk's own state -/
theorem moved {Z s : State} {a0 args : Array Value} (hZ : Z.Warmed39 s.vm) (hw : ∀ d ∈ words, d.before a0 Z = true) : ∀ d ∈ words, d.before args s = true := fun d hd => by
  have q := hw d hd
  have t : ∀ d ∈ words, d = .arrayClass .byte ∨ (d.onTables && d.keepsFace) = true := by decide +kernel
  rcases t d hd with rfl | t
  · exact RoadKit.mvA hZ q
  · exact RoadKit.mv hZ q t
/-- WHAT COMES BACK, over the tables of the start Z: h the heap at the call, h' behind it -/
def Q (Z : State) (x : Addr) (A : Cell) (h : Heap) (v : Option Value) (h' : Heap) (L : List Loc) : Prop := v = none ∧ (∀ y ∈ L, y.base = x) ∧ RoadKit.Keep h h' [x] ∧ h'.size = h.size + 1 ∧ RoadKit.Exa Z h' x ST ∧ RoadKit.Fld Z h' x ST "value" "[B" (.ref h.size) ∧ RoadKit.Fld Z h' x ST "coder" "B" (.int 0) ∧
  (∃ V : Cell, RoadKit.Arr Z h' h.size V .byte ∧ V.vm = .none ∧ Z.vm.findClass "[B" = some V.cls ∧ V.slots.size = A.slots.size ∧ ∀ j, j < A.slots.size → V.slots[j]? = some (.int (lo8 (cv A j)))) ∧
  ∀ (O n d : String) (w : Value), RoadKit.Fld Z h x O n d w → RoadKit.slotOf Z O n d ≠ RoadKit.slotOf Z ST "value" "[B" → RoadKit.slotOf Z O n d ≠ RoadKit.slotOf Z ST "coder" "B" → RoadKit.Fld Z h' x O n d w
/-- **new String(chars) AT A CALL, IN THE ROAD'S FORM**: for specialBack behind newO: x the fresh String, b the char[] with the cell A -/
theorem back {p : Program} {l : Launch} {e : Env} {R : Room} {s : State} {args : Array Value} {below : List Frame} {len W : Nat} {Z : State} {a0 : Array Value} {h : Heap} (hZ : Z.Warmed39 s.vm) (hw : ∀ d ∈ words, d.before a0 Z = true) {kI : Nat} (wi : (Jvm.Cond.instantiable ST kI).before a0 Z = true)
    {x b : Addr} {A : Cell} {z : Int32} {v0 c0 : Value} (E : RoadKit.Exa Z h x ST) (V : RoadKit.Fld Z h x ST "value" "[B" v0) (C : RoadKit.Fld Z h x ST "coder" "B" c0) (K : RoadKit.Arr Z h b A .char) (hty : Typed .char A) (S : RoadKit.Sta Z h ST "COMPACT_STRINGS" "Z" (.int z)) (hz : ¬ z = 0)
    (l0 : 0 < A.slots.size) (l2 : A.slots.size ≤ 536870912) (hp : ∀ i, i < A.slots.size → ¬ 255 < cv A i) (hfr : 4 ≤ R.frames) (hlo : W + 65 ≤ R.locals) :
    Back l R p e below s args New1.yN len W (fun P a => a = #[.ref x, .ref b] ∧ P.U.heap = h ∧ P.cells + 1 ≤ R.cells ∧ P.slots + A.slots.size ≤ R.slots)
      (fun P _ v B => ∃ L, Q Z x A h v B.U.heap L ∧ B.locs = P.locs ++ L ∧ B.cells = P.cells + 1 ∧ B.slots = P.slots + A.slots.size) := by
  intro m meth c P g ig mk a X hg hsize hdg hW hn hp'
  obtain ⟨rfl, rfl, r1, r2⟩ := hp'
  have al : Z.vm.Alike P.U.vm := hZ.alike.trans X.warmed.alike
  obtain ⟨D, cfV, kV, iV, fV, hD, gV, stV, knV, obV, asV, slV⟩ := id V
  obtain ⟨D', cfC, kC, iC, fC, hD', gC, stC, -, -, asC, slC⟩ := id C
  cases hD.symm.trans hD'
  obtain ⟨D2, kD, e1, e2, e3, e4, e5⟩ := id E
  cases hD.symm.trans e1
  obtain ⟨c2, k2, i1, i2, i3, -⟩ := Cond.instantiable_spec wi
  cases e2.symm.trans i1
  cases e3.symm.trans i2
  obtain ⟨kU, u1, u2⟩ := al.2.2 _ _ e3
  have hB : Blank ST x D P.U := ⟨hD, ⟨knV, fun q hq => by rw [hq] at obV; cases obV⟩, by rw [al.findClass]; exact e2, kU, u1, by rw [u2]; exact i3, by rw [u2]; exact e5 i3⟩
  have F1 : Found ST "value" "[B" fV P.U := ⟨SBG.found_only al ⟨cfV, kV, iV, gV⟩, stV⟩
  have F2 : Found ST "coder" "B" fC P.U := ⟨SBG.found_only al ⟨cfC, kC, iC, gC⟩, stC⟩
  have hA : Ch b A P.U := ⟨⟨K.1, State.isArrayOf_alike al K.2.1, K.2.2, by omega⟩, hty⟩
  have hS : StaticIs P.U ST "COMPACT_STRINGS" "Z" (.int z) := by
    obtain ⟨cfS, iS, kS, fS, st, cS, t1, t2, t3, t4, t5, t6, t7⟩ := S
    exact StaticIs.there (s := { Z with heap := P.U.heap }) ⟨cfS, iS, kS, fS, st, cS, t1, t2, t3, t4, t5, (fun q => by rw [q] at t6; cases t6), t7⟩ al rfl
  obtain ⟨v, B, X', ⟨⟨hv, E', V', q1, q2, q3, q4, q5, q6, q7, q8, q9, q10, q11⟩, hl, hc, hs⟩, st⟩ := New1.pays x D fV fC b A z (tab_of (moved hZ hw)) hfr hlo m meth c P g ig mk _ X hg hsize hdg hW hn ⟨r1, r2, rfl, hB, F1, F2, hA, hS, hz, l0, l2, hp⟩
  have al' : Z.vm.Alike B.U.vm := hZ.alike.trans X'.warmed.alike
  have hsz : E'.slots.size = D.slots.size := by
    obtain ⟨-, -, -, kB, w1, w2, w3⟩ := q1
    obtain ⟨kB', y1, y2⟩ := al'.2.2 _ _ e3
    rw [q2.2.1] at w1
    cases w1.symm.trans y1
    rw [w3, e5 i3, y2]
  refine ⟨v, B, X', ⟨_, ⟨hv, ?_, ⟨by omega, fun y cy hy hn' => q10 y cy (by simpa using hn') hy, fun y cy hy => ?_⟩, q11, ⟨E', _, q1.1, by rw [q2.2.1]; exact e2, by rw [q2.2.1]; exact e3, by rw [q2.1]; exact obV, fun _ => by rw [hsz]; exact e5 i3⟩,
    ⟨E', cfV, kV, iV, fV, q1.1, gV, stV, by rw [q2.1]; exact knV, by rw [q2.1]; exact obV, by rw [q2.2.1]; exact asV, q3⟩, ⟨E', cfC, kC, iC, fC, q1.1, gC, stC, by rw [q2.1]; exact knV, by rw [q2.1]; exact obV, by rw [q2.2.1]; exact asC, q4⟩,
    ⟨V', ⟨q5.1, State.isArrayOf_alike al'.symm q5.2.1, q5.2.2.1⟩, q6, by rw [← al'.findClass]; exact q7, q8, fun j hj => by have := q9 j hj; rwa [Nat.zero_add] at this⟩, fun O n d w F n1 n2 => ?_⟩, hl, hc, hs⟩, st⟩
  · intro y hy
    simp only [List.mem_cons, List.not_mem_nil, or_false] at hy
    rcases hy with rfl | rfl <;> rfl
  · by_cases q : y = x
    · subst q
      cases hD.symm.trans hy
      exact ⟨E', q1.1, q2.2.1, q2.1, hsz⟩
    · exact ⟨cy, q10 y cy q hy, rfl, rfl, rfl⟩
  · obtain ⟨D3, cf, k, i, f, g1, g2, g3, g4, g5, g6, g7⟩ := F
    cases hD.symm.trans g1
    simp only [RoadKit.slotOf, g2, gV, gC, Option.map_some, Option.getD_some] at n1 n2
    exact ⟨E', cf, k, i, f, q1.1, g2, g3, by rw [q2.1]; exact g4, by rw [q2.1]; exact g5, by rw [q2.2.1]; exact g6, by rw [q2.2.2 f.slot (by simp [n1, n2])]; exact g7⟩
end StrChars.Road
namespace StrChars.Road
open Jvm Sem ClassFile Op Lib Jvm.Stand Jvm.Free Jvm.Free.XT
/-- WHAT COMES BACK, the byte[] as a list of values -/
def QA (Z : State) (x : Addr) (zn : Int32) (cs : List Int32) (h : Heap) (v : Option Value) (h' : Heap) (L : List Loc) : Prop := v = none ∧ (∀ y ∈ L, y.base = x) ∧ RoadKit.Keep h h' [x] ∧ h'.size = h.size + 1 ∧ RoadKit.Exa Z h' x ST ∧ RoadKit.Fld Z h' x ST "value" "[B" (.ref h.size) ∧ RoadKit.Fld Z h' x ST "coder" "B" (.int 0) ∧
  (∃ kb, Z.vm.findClass "[B" = some kb ∧ RoadKit.Arv Z h' h.size kb .byte zn (cs.map fun c => .int (lo8 c)) (.int 0)) ∧
  ∀ (O n d : String) (w : Value), RoadKit.Fld Z h x O n d w → RoadKit.slotOf Z O n d ≠ RoadKit.slotOf Z ST "value" "[B" → RoadKit.slotOf Z O n d ≠ RoadKit.slotOf Z ST "coder" "B" → RoadKit.Fld Z h' x O n d w
/-- **new String(chars) AT A CALL, THE ARRAYS AS LISTS**: the char[] at b holds cs, not empty, no char above 255 -/
theorem backArv {p : Program} {l : Launch} {e : Env} {R : Room} {s : State} {args : Array Value} {below : List Frame} {len W : Nat} {Z : State} {a0 : Array Value} {h : Heap} (hZ : Z.Warmed39 s.vm) (hw : ∀ d ∈ words, d.before a0 Z = true) {kI : Nat} (wi : (Jvm.Cond.instantiable ST kI).before a0 Z = true)
    {x b : Addr} {k : ClassId} {zn z : Int32} {cs : List Int32} {dv v0 c0 : Value} (E : RoadKit.Exa Z h x ST) (V : RoadKit.Fld Z h x ST "value" "[B" v0) (C : RoadKit.Fld Z h x ST "coder" "B" c0) (K : RoadKit.Arv Z h b k .char zn (cs.map Value.int) dv) (S : RoadKit.Sta Z h ST "COMPACT_STRINGS" "Z" (.int z)) (hz : ¬ z = 0)
    (hlen : zn.toNatClampNeg = cs.length) (h0 : 0 < cs.length) (hbig : cs.length ≤ 536870912) (hall : ∀ c ∈ cs, ¬ 255 < c) (hfr : 4 ≤ R.frames) (hlo : W + 65 ≤ R.locals) :
    Back l R p e below s args New1.yN len W (fun P a => a = #[.ref x, .ref b] ∧ P.U.heap = h ∧ P.cells + 1 ≤ R.cells ∧ P.slots + cs.length ≤ R.slots)
      (fun P _ v B => ∃ L, QA Z x zn cs h v B.U.heap L ∧ B.locs = P.locs ++ L ∧ B.cells = P.cells + 1 ∧ B.slots = P.slots + cs.length) := by
  obtain ⟨A, K1, K2, K3, K4, K5, K6⟩ := K
  have e : A.slots.size = cs.length := K3.trans hlen
  have hat : ∀ (i : Nat) (hi : i < cs.length), A.slots[i]? = some (.int cs[i]) := fun i hi => by rw [K5 i (by omega)]; simp [List.getD_eq_getElem?_getD, hi]
  have hcv : ∀ (i : Nat) (hi : i < cs.length), cv A i = cs[i] := fun i hi => by unfold cv; rw [hat i hi]
  have hty : Typed .char A := fun i v hv => by
    have hi : i < A.slots.size := (Array.getElem?_eq_some_iff.mp hv).1
    have q := K5 i hi
    rw [hv] at q
    rw [Option.some.inj q]
    exact K6 i hi
  refine Back.mono (back hZ hw wi E V C K1 hty S hz (by omega) (by omega) (fun i hi => by rw [hcv i (by omega)]; exact hall _ (List.getElem_mem _)) hfr hlo) (fun P a hp => ⟨hp.1, hp.2.1, hp.2.2.1, by rw [e]; exact hp.2.2.2⟩) (fun P a v B hp hq => ?_)
  obtain ⟨L, ⟨q1, q2, q3, q4, q5, q6, q7, ⟨V', v1, v2, v3, v4, v5⟩, q9⟩, hl, hc, hs⟩ := hq
  refine ⟨L, ⟨q1, q2, q3, q4, q5, q6, q7, ⟨V'.cls, v3, V', v1, rfl, by rw [v4, e, hlen], K4, fun i hi => ?_, fun i hi => ?_⟩, q9⟩, hl, hc, by rw [hs, e]⟩
  · have hi' : i < cs.length := by omega
    rw [v5 i (by omega), hcv i hi']; simp [List.getD_eq_getElem?_getD, hi']
  · have hi' : i < cs.length := by omega
    simp only [List.getD_eq_getElem?_getD, List.getElem?_map, List.getElem?_eq_getElem hi', Option.map_some, Option.getD_some]
    exact fits_lo8 _
end StrChars.Road
namespace StrChars.Road
open Jvm Sem ClassFile Op Lib Jvm.Stand Jvm.Free Jvm.Free.XT
/-- WHAT COMES BACK, in the writer's own shape -/
def QV (Z : State) (x : Addr) (N : Int32) (bs : List Int32) (h : Heap) (n0 : Nat) (v : Option Value) (h' : Heap) (L : List Loc) : Prop := v = none ∧ RoadKit.Fr n0 L ∧ RoadKit.Keep h h' [x] ∧ RoadKit.Exa Z h' x ST ∧ RoadKit.Fld Z h' x ST "coder" "B" (.int 0) ∧
  ∃ (t : Addr) (kb : ClassId), n0 ≤ t ∧ h.size ≤ t ∧ ¬ t = x ∧ RoadKit.Fld Z h' x ST "value" "[B" (.ref t) ∧ RoadKit.Arv Z h' t kb .byte N (bs.map Value.int) (.int 0)
/-- **new String(chars) AT A CALL, FOR THE WRITER**: a char[] of n known ints, each 0 to 255 -/
theorem backV {p : Program} {l : Launch} {e : Env} {R : Room} {s : State} {args : Array Value} {below : List Frame} {len W : Nat} {Z : State} {a0 : Array Value} {h : Heap} (hZ : Z.Warmed39 s.vm) (hw : ∀ d ∈ words, d.before a0 Z = true) {kI : Nat} (wi : (Jvm.Cond.instantiable ST kI).before a0 Z = true)
    {x b : Addr} {kC : ClassId} {cs bs : List Int32} {d v0 c0 : Value} {z N : Int32} {n n0 : Nat} (hx0 : n0 ≤ x) (hh0 : n0 ≤ h.size) (E : RoadKit.Exa Z h x ST) (V : RoadKit.Fld Z h x ST "value" "[B" v0) (C : RoadKit.Fld Z h x ST "coder" "B" c0) (K : RoadKit.Arv Z h b kC .char N (cs.map Value.int) d) (S : RoadKit.Sta Z h ST "COMPACT_STRINGS" "Z" (.int z)) (hz : ¬ z = 0)
    (hn : cs.length = n) (hN : N = Int32.ofNat n) (l0 : 0 < n) (l2 : n ≤ 4000) (hp : ∀ c ∈ cs, ¬ c < 0 ∧ ¬ (255 : Int32) < c) (hb : bs = cs.map (fun c => c.toInt8.toInt32)) (hfr : 4 ≤ R.frames) (hlo : W + 65 ≤ R.locals) :
    Back l R p e below s args (⟨"java/lang/String", "<init>", "([C)V"⟩ : MethodName) len W (fun P a => a = #[.ref x, .ref b] ∧ P.U.heap = h ∧ P.cells + 1 ≤ R.cells ∧ P.slots + n ≤ R.slots)
      (fun P _ v B => ∃ L, QV Z x N bs h n0 v B.U.heap L ∧ B.locs = P.locs ++ L ∧ B.cells = P.cells + 1 ∧ B.slots = P.slots + n) := by
  subst hn hN hb
  refine Back.mono (backArv hZ hw wi E V C K S hz (n32 (by omega)) l0 (by omega) (fun c hc => (hp c hc).2) hfr hlo) (fun P a hp => hp) (fun P a v B hp hq => ?_)
  obtain ⟨L, ⟨q1, q2, q3, q4, q5, q6, q7, ⟨kb, v1, v2⟩, q9⟩, hl, hc, hs⟩ := hq
  exact ⟨L, ⟨q1, fun y hy => by rw [q2 y hy]; exact hx0, q3, q5, q7, h.size, kb, hh0, Nat.le_refl _, Nat.ne_of_gt E.lt, q6, by rw [List.map_map]; exact v2⟩, hl, hc, hs⟩
end StrChars.Road
namespace StrChars
open Jvm Sem ClassFile Op Lib Jvm.Stand Jvm.Free.XT Jvm.Free.ALB Jvm.Free.JM Jvm.Free
open Jvm.Lib.Cold (StaticIs)
def hi8 (x : Int32) : Int32 := lo8 (x >>> ((8 : Int32) &&& 31))
/-- what StringUTF16.getChar makes of two bytes -/
def pairCh (u v : Int32) : Int32 := (((u &&& 255) <<< ((0 : Int32) &&& 31)) ||| ((v &&& 255) <<< ((8 : Int32) &&& 31))).toUInt32.toUInt16.toUInt32.toInt32
theorem shr0 (c : Int32) : c >>> ((0 : Int32) &&& 31) = c := by
  have e : ((0 : Int32) &&& 31) = 0 := by decide
  rw [e]
  apply Int32.toBitVec_inj.mp
  rw [Int32.toBitVec_shiftRight]
  have e1 : ((0 : Int32).toBitVec.smod 32) = 0#32 := by decide
  rw [e1, BitVec.sshiftRight_eq']
  exact BitVec.sshiftRight_zero
theorem lo8_and (x : Int32) : (lo8 x &&& 255).toBitVec.toNat = x.toBitVec.toNat % 256 := by
  have h : (lo8 x).toBitVec = (x.toBitVec.signExtend 8).signExtend 32 := by rw [lo8, Int8.toBitVec_toInt32, Int32.toBitVec_toInt8]
  rw [Int32.toBitVec_and, BitVec.toNat_and, h]
  have e : ((x.toBitVec.signExtend 8).signExtend 32).toNat % 256 = x.toBitVec.toNat % 256 := by
    rw [BitVec.toNat_signExtend]
    have hlt := x.toBitVec.isLt
    simp only [BitVec.toNat_setWidth, BitVec.toNat_signExtend]
    split <;> split <;> omega
  rw [← e]
  exact Nat.and_two_pow_sub_one_eq_mod _ 8
theorem pair_says {c : Int32} (h0 : ¬ c < 0) (h1 : ¬ 65535 < c) : pairCh (lo8 c) (hi8 c) = c := by
  rw [Int32.lt_iff_toInt_lt] at h0 h1
  have e0 : (0 : Int32).toInt = 0 := rfl
  have e1 : (65535 : Int32).toInt = 65535 := rfl
  have hc : c.toInt = c.toBitVec.toNat := by
    have := c.toBitVec.isLt
    have e : c.toInt = c.toBitVec.toInt := rfl
    rw [e] at h0 h1
    rw [e]
    rw [BitVec.toInt_eq_toNat_cond] at h0 h1 ⊢
    split at h0 <;> split <;> omega
  have hn : c.toBitVec.toNat < 65536 := by omega
  have a1 := lo8_and c
  have a2 : (hi8 c &&& 255).toBitVec.toNat = c.toBitVec.toNat / 256 := by
    rw [hi8, lo8_and]
    have e : ((8 : Int32) &&& 31) = 8 := by decide
    rw [e, Int32.toBitVec_shiftRight]
    have e2 : ((8 : Int32).toBitVec.smod 32) = 8#32 := by decide
    rw [e2, BitVec.sshiftRight_eq', BitVec.toNat_sshiftRight_of_msb_false (by rw [BitVec.msb_eq_false_iff_two_mul_lt]; omega)]
    show c.toBitVec.toNat >>> 8 % 256 = _
    rw [Nat.shiftRight_eq_div_pow]
    omega
  unfold pairCh
  apply Int32.toBitVec_inj.mp
  apply BitVec.eq_of_toNat_eq
  have f0 : ((0 : Int32) &&& 31) = 0 := by decide
  have f8 : ((8 : Int32) &&& 31) = 8 := by decide
  rw [f0, f8]
  have g : (((lo8 c &&& 255) <<< (0 : Int32)) ||| ((hi8 c &&& 255) <<< (8 : Int32))).toBitVec.toNat = c.toBitVec.toNat := by
    rw [Int32.toBitVec_or, Int32.toBitVec_shiftLeft, Int32.toBitVec_shiftLeft]
    have s0 : ((0 : Int32).toBitVec.smod 32) = 0#32 := by decide
    have s8 : ((8 : Int32).toBitVec.smod 32) = 8#32 := by decide
    rw [s0, s8, BitVec.toNat_or]
    simp only [BitVec.shiftLeft_eq', BitVec.toNat_shiftLeft, a1, a2]
    show (c.toBitVec.toNat % 256) <<< 0 % 2 ^ 32 ||| (c.toBitVec.toNat / 256) <<< 8 % 2 ^ 32 = _
    rw [Nat.shiftLeft_zero, Nat.mod_eq_of_lt (show c.toBitVec.toNat % 256 < 2 ^ 32 by omega), Nat.mod_eq_of_lt (show (c.toBitVec.toNat / 256) <<< 8 < 2 ^ 32 by rw [Nat.shiftLeft_eq]; omega), Nat.or_comm, ← Nat.shiftLeft_add_eq_or_of_lt (by omega), Nat.shiftLeft_eq]
    omega
  show BitVec.toNat (((((lo8 c &&& 255) <<< (0 : Int32)) ||| ((hi8 c &&& 255) <<< (8 : Int32))).toBitVec.setWidth 16).setWidth 32) = _
  rw [BitVec.toNat_setWidth, BitVec.toNat_setWidth, g]
  omega
end StrChars
namespace StrChars
open Jvm Sem ClassFile Op Lib Jvm.Stand Jvm.Free.XT Jvm.Free.ALB Jvm.Free.JM Jvm.Free
open Jvm.Lib.Cold (StaticIs)
theorem shr1 {n : Nat} (h : 2 * n < 2 ^ 31) : Int32.ofNat (2 * n) >>> ((1 : Int32) &&& 31) = Int32.ofNat n := by
  have e : ((1 : Int32) &&& 31) = 1 := by decide
  rw [e]
  apply Int32.toBitVec_inj.mp
  rw [Int32.toBitVec_shiftRight]
  have e1 : ((1 : Int32).toBitVec.smod 32) = 1#32 := by decide
  have hm : (BitVec.ofNat 32 (2 * n)).toNat = 2 * n := by rw [BitVec.toNat_ofNat, Nat.mod_eq_of_lt (by omega)]
  rw [e1, BitVec.sshiftRight_eq']
  apply BitVec.eq_of_toNat_eq
  show ((BitVec.ofNat 32 (2 * n)).sshiftRight 1).toNat = (BitVec.ofNat 32 n).toNat
  rw [BitVec.toNat_sshiftRight_of_msb_false (by rw [BitVec.msb_eq_false_iff_two_mul_lt, hm]; omega), hm, BitVec.toNat_ofNat, Nat.shiftRight_eq_div_pow]
  omega
theorem narrow_ch {c : Int32} (h0 : ¬ c < 0) (h1 : ¬ 65535 < c) : narrow .char (.int c) = .int c := by
  have q : narrow .char (.int (pairCh (lo8 c) (hi8 c))) = .int (pairCh (lo8 c) (hi8 c)) := narrow_c _
  rwa [pair_says h0 h1] at q
/-- the array's cell V codes the n chars f 0 .. f (n - 1) by the coder cd, as the JDK does: coder 1 just where some char is above 255 -/
def Cod (cd : Int32) (n : Nat) (f : Nat → Int32) (V : Cell) : Prop := (cd = 0 ∧ V.slots.size = n ∧ ∀ j, j < n → V.slots[j]? = some (.int (lo8 (f j))) ∧ ¬ 255 < f j) ∨ (cd = 1 ∧ V.slots.size = 2 * n ∧ (∀ j, j < n → V.slots[2 * j]? = some (.int (lo8 (f j))) ∧ V.slots[2 * j + 1]? = some (.int (hi8 (f j)))) ∧ ∃ j, j < n ∧ 255 < f j)
theorem Cod.cd {cd : Int32} {n : Nat} {f : Nat → Int32} {V : Cell} (h : Cod cd n f V) : cd = 0 ∨ cd = 1 := h.imp (fun q => q.1) fun q => q.1
theorem Cod.len {cd : Int32} {n : Nat} {f : Nat → Int32} {V : Cell} (h : Cod cd n f V) (hs : V.slots.size < 2 ^ 31) : Int32.ofNat V.slots.size >>> (cd &&& 31) = Int32.ofNat n := by
  rcases h with ⟨rfl, h, -⟩ | ⟨rfl, h, -⟩
  · rw [shr0, h]
  · rw [h, shr1 (by omega)]
/-- **x is a String of the n chars f 0 .. f (n - 1)**, Latin-1 or UTF-16; its array at t has the cell V -/
def Txt (x t : Addr) (V : Cell) (cd : Int32) (n : Nat) (f : Nat → Int32) (U : State) : Prop := Exact "java/lang/String" x U ∧ Has x "java/lang/String" "value" "[B" (.ref t) U ∧ Has x "java/lang/String" "coder" "B" (.int cd) U ∧ XT.Arr .byte t V U ∧ Cod cd n f V ∧ ∀ j, j < n → ¬ f j < 0 ∧ ¬ 65535 < f j
theorem Txt.mv {x t : Addr} {V : Cell} {cd : Int32} {n : Nat} {f : Nat → Int32} {U U' : State} (h : Txt x t V cd n f U) (hal : U.vm.Alike U'.vm) (hh : U'.heap = U.heap) : Txt x t V cd n f U' := ⟨h.1.mv hal hh, h.2.1.mv hal hh, h.2.2.1.mv hal hh, h.2.2.2.1.mv hal hh, h.2.2.2.2⟩
namespace Cdr
def yN : MethodName := ⟨"java/lang/String", "coder", "()B"⟩
abbrev yB : ByteArray := jdk_42_method_152_code
theorem d0 : decode yB 0 = .ok (.getstatic 38, 3) := by decide +kernel
theorem d3 : decode yB 3 = .ok (.ifCond (.eq) 10, 3) := by decide +kernel
theorem d6 : decode yB 6 = .ok (.aload_n 0, 1) := by decide +kernel
theorem d7 : decode yB 7 = .ok (.getfield 15, 3) := by decide +kernel
theorem d10 : decode yB 10 = .ok (.goto 4, 3) := by decide +kernel
theorem d14 : decode yB 14 = .ok (.ireturn, 1) := by decide +kernel
def site : List Cond := [.fieldLink "java/lang/String" 38 "java/lang/String" "COMPACT_STRINGS" "Z", .fieldLink "java/lang/String" 15 "java/lang/String" "coder" "B"]
def tab : Cond := tabOf yN yB 1 (some .byte) site
def P (x : Addr) (cd z : Int32) (args : Array Value) (s : State) : Prop := args = #[.ref x] ∧ Has x "java/lang/String" "coder" "B" (.int cd) s ∧ (cd = 0 ∨ cd = 1) ∧ StaticIs s "java/lang/String" "COMPACT_STRINGS" "Z" (.int z) ∧ ¬ z = 0
def E (cd : Int32) (r : Option Value) (s u : State) : Prop := XT.PureE (some (.int cd)) r s u
theorem law (l : Launch) (x : Addr) (cd z : Int32) : Law l yN 1 0 0 0 yB 1 (some .byte) site (P x cd z) (E cd) [] 0 0 := by
  refine Law.of_walk (plainFor_of_name (by decide +kernel)) (by decide +kernel) (by decide +kernel) (by decide) (fun _ _ h => by rw [h.1]; rfl) (fun _ U U' hal hh h => ⟨h.1, h.2.1.mv hal hh, h.2.2.1, h.2.2.2.1.there hal hh, h.2.2.2.2⟩) (fun r U U' V V' h1 hal h2 h => XT.PureE.mv r U U' V V' h1 hal h2 h) ?_
  intro p e s m args below meth c s₁ X0 hexec hbytes hml hret hlk hnm hown hh0 W hP
  obtain ⟨rfl, hx, hc, s1, hz⟩ := hP
  have c1 : Steps p.tables e below (s₁.setTop (entryFrame m #[.ref x] 1)) (s₁.setTop (mkF m 0 #[.val (.ref x)] [])) := entry rfl
  obtain ⟨T2, X2, q2, st2⟩ := X0.sget hexec hown (wk W (.fieldLink "java/lang/String" 38 "java/lang/String" "COMPACT_STRINGS" "Z")) s1 (fun _ _ h => by rw [hh0]; exact h) (g := (mkF m 0 #[.val (.ref x)] [])) rfl (hb hbytes d0)
  have hh2 := q2.trans hh0
  have c3 : Steps p.tables e below (s₁.setTop (entryFrame m #[.ref x] 1)) (T2.setTop (mkF m 7 #[.val (.ref x)] [.ref x])) := (c1.trans (st2 _ (Steps.refl _))).trans (by
    refine XS.ifNo X2.here hexec rfl (hb hbytes d3) rfl (i0_eq_f hz) ?_
    refine XS.aloadN X2.here hexec rfl (hb hbytes d6) rfl rfl ?_
    exact Steps.refl _)
  obtain ⟨T4, X4, q4, st4⟩ := X2.hget hexec hown (wk W (.fieldLink "java/lang/String" 15 "java/lang/String" "coder" "B")) (hx.mv X2.warmed.alike hh2) (g := (mkF m 7 #[.val (.ref x)] [.ref x])) rfl (rest := []) rfl (hb hbytes d7)
  have c5 : Steps p.tables e below (s₁.setTop (entryFrame m #[.ref x] 1)) (T4.setTop (mkF m 14 #[.val (.ref x)] [.int cd])) := (c3.trans (st4 _ (Steps.refl _))).trans (by
    refine XS.goto X4.here hexec rfl (pc0 := 10) rfl (hb hbytes d10) (by decide) rfl ?_
    exact Steps.refl _)
  exact ⟨T4, some (.int cd), _, _, _, X4, rfl, rfl, rfl, (fun h => by cases h), ⟨rfl, q4.trans hh2⟩, fun fs hl => c5.trans (X4.ireturnOut hexec hret (by rcases hc with rfl | rfl <;> rfl) (Or.inr (Or.inr (Or.inl rfl))) (hb hbytes d14) hl)⟩
end Cdr
namespace Len
def yN : MethodName := ⟨"java/lang/String", "length", "()I"⟩
abbrev yB : ByteArray := jdk_42_method_54_code
theorem d0 : decode yB 0 = .ok (.aload_n 0, 1) := by decide +kernel
theorem d1 : decode yB 1 = .ok (.getfield 9, 3) := by decide +kernel
theorem d4 : decode yB 4 = .ok (.arraylength, 1) := by decide +kernel
theorem d5 : decode yB 5 = .ok (.aload_n 0, 1) := by decide +kernel
theorem d6 : decode yB 6 = .ok (.invokevirtual 335, 3) := by decide +kernel
theorem d9 : decode yB 9 = .ok (.ishr, 1) := by decide +kernel
theorem d10 : decode yB 10 = .ok (.ireturn, 1) := by decide +kernel
def site : List Cond := [.fieldLink "java/lang/String" 9 "java/lang/String" "value" "[B", Cdr.tab] ++ virtW "java/lang/String" 335 "java/lang/String" Cdr.yN Cdr.yN
def tab : Cond := tabOf yN yB 1 (some .int) site
def P (x t : Addr) (V : Cell) (cd : Int32) (n : Nat) (f : Nat → Int32) (z : Int32) (args : Array Value) (s : State) : Prop := args = #[.ref x] ∧ Txt x t V cd n f s ∧ StaticIs s "java/lang/String" "COMPACT_STRINGS" "Z" (.int z) ∧ ¬ z = 0
def E (n : Nat) (r : Option Value) (s u : State) : Prop := XT.PureE (some (.int (Int32.ofNat n))) r s u
/-- length() of a String of n chars, in either coding -/
theorem law (l : Launch) (x t : Addr) (V : Cell) (cd : Int32) (n : Nat) (f : Nat → Int32) (z : Int32) : Law l yN 1 0 1 13 yB 1 (some .int) site (P x t V cd n f z) (E n) [] 0 0 := by
  refine Law.of_walk (plainFor_of_name (by decide +kernel)) (by decide +kernel) (by decide +kernel) (by decide) (fun _ _ h => by rw [h.1]; rfl) (fun _ U U' hal hh h => ⟨h.1, h.2.1.mv hal hh, h.2.2.1.there hal hh, h.2.2.2⟩) (fun r U U' V V' h1 hal h2 h => XT.PureE.mv r U U' V V' h1 hal h2 h) ?_
  intro p e s m args below meth c s₁ X0 hexec hbytes hml hret hlk hnm hown hh0 W hP
  obtain ⟨rfl, hx, s1, hz⟩ := hP
  have v31 := hx.2.2.2.1.2.2.2
  have c1 : Steps p.tables e below (s₁.setTop (entryFrame m #[.ref x] 1)) (s₁.setTop (mkF m 1 #[.val (.ref x)] [.ref x])) := Steps.trans (entry rfl) (by
    show Steps p.tables e below (s₁.setTop (mkF m 0 #[.val (.ref x)] [])) _
    refine XS.aloadN X0.here hexec rfl (hb hbytes d0) rfl rfl ?_
    exact Steps.refl _)
  obtain ⟨T2, X2, q2, st2⟩ := X0.hget hexec hown (wk W (.fieldLink "java/lang/String" 9 "java/lang/String" "value" "[B")) (hx.mv X0.warmed.alike hh0).2.1 (g := (mkF m 1 #[.val (.ref x)] [.ref x])) rfl (rest := []) rfl (hb hbytes d1)
  have hh2 := q2.trans hh0
  have hx2 := hx.mv X2.warmed.alike hh2
  have c3 : Steps p.tables e below (s₁.setTop (entryFrame m #[.ref x] 1)) (T2.setTop (mkF m 6 #[.val (.ref x)] [.ref x, .int (Int32.ofNat V.slots.size)])) := (c1.trans (st2 _ (Steps.refl _))).trans (by
    refine X2.alen hexec hx2.2.2.2.1 rfl rfl (hb hbytes d4) ?_
    refine XS.aloadN X2.here hexec rfl (hb hbytes d5) rfl rfl ?_
    exact Steps.refl _)
  obtain ⟨v4, T4, X4, E4, g4⟩ := X2.callV hexec (Cdr.law l x cd z) hown (wks W (virtW "java/lang/String" 335 "java/lang/String" Cdr.yN Cdr.yN)) rfl (by decide) (wk W Cdr.tab) (W := 1) (Nat.le_of_ble_eq_true rfl) (Nat.le_of_ble_eq_true rfl) (Nat.le_refl _) (Nat.le_refl _) (hx2.1.fc X2.warmed.alike) hx2.1.is (g := (mkF m 6 #[.val (.ref x)] [.ref x, .int (Int32.ofNat V.slots.size)])) rfl (by rw [hml]; rfl) c3 (argsL := []) (rest := [.int (Int32.ofNat V.slots.size)]) rfl rfl (by show 2 * 0 + (1 + 0) ≤ _; decide) (hb hbytes d6) (⟨rfl, hx2.2.2.1, hx.2.2.2.2.1.cd, s1.there X2.warmed.alike hh2, hz⟩)
  obtain ⟨rfl, q4⟩ := E4
  have c5 : Steps p.tables e below (s₁.setTop (entryFrame m #[.ref x] 1)) (T4.setTop (mkF m 10 #[.val (.ref x)] [.int (Int32.ofNat V.slots.size >>> (cd &&& 31))])) := Steps.trans g4 (by
    refine ishr X4.here hexec rfl (hb hbytes d9) rfl ?_
    exact Steps.refl _)
  rw [hx.2.2.2.2.1.len v31] at c5
  exact ⟨T4, some (.int (Int32.ofNat n)), _, _, _, X4, rfl, rfl, rfl, (fun h => by cases h), ⟨rfl, q4.trans hh2⟩, fun fs hl => c5.trans (X4.ireturnOut hexec hret rfl (Or.inl rfl) (hb hbytes d10) hl)⟩
theorem pays {l : Launch} {R : Room} {p : Program} {e : Env} {below : List Frame} {s : State} {sargs : Array Value} {len W : Nat} (x t : Addr) (V : Cell) (cd : Int32) (n : Nat) (f : Nat → Int32) (z : Int32) (htab : tab.before sargs s = true) (hfr : 2 ≤ R.frames) (hlo : W + 25 ≤ R.locals) :
    Back l R p e below s sargs yN len W (fun A₁ a₁ => A₁.cells + 0 ≤ R.cells ∧ A₁.slots + 0 ≤ R.slots ∧ P x t V cd n f z a₁ A₁.U) (fun A₁ _ v₁ B₁ => E n v₁ A₁.U B₁.U ∧ B₁.locs = A₁.locs ++ [] ∧ B₁.cells = A₁.cells + 0 ∧ B₁.slots = A₁.slots + 0) :=
  (law l x t V cd n f z).pays htab hfr (by omega)
end Len
end StrChars
namespace StrChars.Road
open Jvm Sem ClassFile Op Lib Jvm.Stand Jvm.Free Jvm.Free.XT
open Jvm.Lib.Cold (StaticIs)
theorem consq {a : Array Value} {s : State} {c : Jvm.Cond} {L : List Jvm.Cond} (h0 : c.before a s = true) (h : ∀ w ∈ L, w.before a s = true) : ∀ w ∈ c :: L, w.before a s = true := fun w hw => (List.mem_cons.mp hw).elim (fun e => e ▸ h0) (h w)
/-- the words of String.length(), either coding -/
abbrev wordsLen : List Jvm.Cond := [.code Len.yN Len.yB 1 (some .int), .initialized ST, .fieldLink ST 9 ST "value" "[B", .fieldLink ST 38 ST "COMPACT_STRINGS" "Z", .fieldLink ST 15 ST "coder" "B", .code Cdr.yN Cdr.yB 1 (some .byte), .methodLink ST 335 Cdr.yN, .declares Cdr.yN, .selects ST Cdr.yN Cdr.yN, .instanceMethod Cdr.yN]
theorem tabLen_of {a : Array Value} {s : State} (h : ∀ w ∈ wordsLen, w.before a s = true) : Len.tab.before a s = true := by
  have hc : Cdr.tab.before a s = true := unparts (wk h (.code Cdr.yN Cdr.yB 1 (some .byte))) (wks h (.initialized Cdr.yN.cls :: Cdr.site))
  have q := consq hc h
  exact unparts (wk q (.code Len.yN Len.yB 1 (some .int))) (wks q (.initialized Len.yN.cls :: Len.site))
theorem movedLen {Z s : State} {a0 args : Array Value} (hZ : Z.Warmed39 s.vm) (hw : ∀ d ∈ wordsLen, d.before a0 Z = true) : ∀ d ∈ wordsLen, d.before args s = true := fun d hd => by
  have q := hw d hd
  have t : ∀ d ∈ wordsLen, d = .arrayClass .byte ∨ (d.onTables && d.keepsFace) = true := by decide +kernel
  rcases t d hd with rfl | t
  · exact RoadKit.mvA hZ q
  · exact RoadKit.mv hZ q t
/-- the bytes of the chars cs, low before high -/
def wideBytes : List Int32 → List Value
  | [] => []
  | c :: cs => .int (lo8 c) :: .int (hi8 c) :: wideBytes cs
theorem wide_lo (d : Value) : ∀ (cs : List Int32) (j : Nat), j < cs.length → (wideBytes cs).getD (2 * j) d = .int (lo8 (cs.getD j 0))
  | [], j, h => absurd h (Nat.not_lt_zero j)
  | c :: cs, 0, _ => rfl
  | c :: cs, j + 1, h => by
    have q := wide_lo d cs j (by simpa using h)
    rw [show 2 * (j + 1) = 2 * j + 1 + 1 from by omega]
    simpa [wideBytes] using q
theorem wide_hi (d : Value) : ∀ (cs : List Int32) (j : Nat), j < cs.length → (wideBytes cs).getD (2 * j + 1) d = .int (hi8 (cs.getD j 0))
  | [], j, h => absurd h (Nat.not_lt_zero j)
  | c :: cs, 0, _ => rfl
  | c :: cs, j + 1, h => by
    have q := wide_hi d cs j (by simpa using h)
    rw [show 2 * (j + 1) + 1 = 2 * j + 1 + 1 + 1 from by omega]
    simpa [wideBytes] using q
theorem low_at (d : Value) (cs : List Int32) (j : Nat) (h : j < cs.length) : (cs.map fun c => Value.int (lo8 c)).getD j d = .int (lo8 (cs.getD j 0)) := by
  simp [List.getD_eq_getElem?_getD, h]
/-- an array of N2 bytes vs codes the chars cs by the coder cd -/
def CodA (cs : List Int32) (cd N2 : Int32) (vs : List Value) : Prop := (cd = 0 ∧ N2 = Int32.ofNat cs.length ∧ vs = (cs.map fun c => Value.int (lo8 c)) ∧ ∀ c ∈ cs, ¬ 255 < c) ∨ (cd = 1 ∧ N2 = Int32.ofNat (2 * cs.length) ∧ vs = wideBytes cs ∧ ∃ c ∈ cs, 255 < c)
theorem CodA.cod {cs : List Int32} {cd N2 : Int32} {vs : List Value} {V : Cell} (h : CodA cs cd N2 vs) (hn : 2 * cs.length < 2 ^ 31) (hs : V.slots.size = N2.toNatClampNeg) (hv : RoadKit.Has V vs (.int 0)) : Cod cd cs.length (fun j => cs.getD j 0) V := by
  rcases h with ⟨rfl, rfl, rfl, h⟩ | ⟨rfl, rfl, rfl, c, hc, hw⟩
  · rw [n32 (by omega)] at hs
    exact Or.inl ⟨rfl, hs, fun j hj => ⟨by rw [hv j (by omega), low_at _ _ _ hj], by
      have e : cs.getD j 0 = cs[j] := by simp [List.getD_eq_getElem?_getD, hj]
      show ¬ 255 < cs.getD j 0
      rw [e]; exact h _ (List.getElem_mem _)⟩⟩
  · rw [n32 (by omega)] at hs
    obtain ⟨j, hj, rfl⟩ := List.getElem_of_mem hc
    exact Or.inr ⟨rfl, hs, fun j hj => ⟨by rw [hv _ (by omega), wide_lo _ _ _ hj], by rw [hv _ (by omega), wide_hi _ _ _ hj]⟩, j, hj, by
      have e : cs.getD j 0 = cs[j] := by simp [List.getD_eq_getElem?_getD, hj]
      show 255 < cs.getD j 0
      rw [e]; exact hw⟩
/-- an object of exactly java/lang/String, its two fields found: as the laws ask it -/
theorem strObj {Z U : State} {a0 : Array Value} {kI : Nat} (wi : (Jvm.Cond.instantiable ST kI).before a0 Z = true) (al : Z.vm.Alike U.vm) {x : Addr} {v0 c0 : Value} (E : RoadKit.Exa Z U.heap x ST) (V : RoadKit.Fld Z U.heap x ST "value" "[B" v0) (C : RoadKit.Fld Z U.heap x ST "coder" "B" c0) :
    ∃ (D : Cell) (fV fC : Field), Blank ST x D U ∧ Found ST "value" "[B" fV U ∧ Found ST "coder" "B" fC U ∧ D.slots[fV.slot]? = some v0 ∧ D.slots[fC.slot]? = some c0 ∧ RoadKit.slotOf Z ST "value" "[B" = fV.slot ∧ RoadKit.slotOf Z ST "coder" "B" = fC.slot := by
  obtain ⟨D, cfV, kV, iV, fV, hD, gV, stV, knV, obV, asV, slV⟩ := V
  obtain ⟨D', cfC, kC, iC, fC, hD', gC, stC, -, -, asC, slC⟩ := C
  cases hD.symm.trans hD'
  obtain ⟨D2, kD, e1, e2, e3, e4, e5⟩ := E
  cases hD.symm.trans e1
  obtain ⟨c2, k2, i1, i2, i3, -⟩ := Cond.instantiable_spec wi
  cases e2.symm.trans i1
  cases e3.symm.trans i2
  obtain ⟨kU, u1, u2⟩ := al.2.2 _ _ e3
  exact ⟨D, fV, fC, ⟨hD, ⟨knV, fun q hq => by rw [hq] at obV; cases obV⟩, by rw [al.findClass]; exact e2, kU, u1, by rw [u2]; exact i3, by rw [u2]; exact e5 i3⟩, ⟨SBG.found_only al ⟨cfV, kV, iV, gV⟩, stV⟩, ⟨SBG.found_only al ⟨cfC, kC, iC, gC⟩, stC⟩, slV, slC, by simp [RoadKit.slotOf, gV], by simp [RoadKit.slotOf, gC]⟩
theorem sta_is {Z U : State} (al : Z.vm.Alike U.vm) {C n d : String} {v : Value} (S : RoadKit.Sta Z U.heap C n d v) : StaticIs U C n d v := by
  obtain ⟨cfS, iS, kS, fS, st, cS, t1, t2, t3, t4, t5, t6, t7⟩ := S
  exact StaticIs.there (s := { Z with heap := U.heap }) ⟨cfS, iS, kS, fS, st, cS, t1, t2, t3, t4, t5, (fun q => by rw [q] at t6; cases t6), t7⟩ al rfl
/-- **length() OF SUCH A STRING** -/
theorem lenW {p : Program} {l : Launch} {e : Env} {R : Room} {s : State} {args : Array Value} {below : List Frame} {len W : Nat} {Z : State} {a0 : Array Value} {h : Heap} (hZ : Z.Warmed39 s.vm) (hw : ∀ d ∈ wordsLen, d.before a0 Z = true) {kI : Nat} (wi : (Jvm.Cond.instantiable ST kI).before a0 Z = true)
    {x t : Addr} {kb : ClassId} {cs : List Int32} {cd N2 z : Int32} {vs : List Value} (E : RoadKit.Exa Z h x ST) (V : RoadKit.Fld Z h x ST "value" "[B" (.ref t)) (C : RoadKit.Fld Z h x ST "coder" "B" (.int cd)) (K : RoadKit.Arv Z h t kb .byte N2 vs (.int 0)) (hc : CodA cs cd N2 vs) (hb : ∀ c ∈ cs, ¬ c < 0 ∧ ¬ (65535 : Int32) < c)
    (S : RoadKit.Sta Z h ST "COMPACT_STRINGS" "Z" (.int z)) (hz : ¬ z = 0) (l2 : cs.length ≤ 4000) (hfr : 2 ≤ R.frames) (hlo : W + 25 ≤ R.locals) :
    Back l R p e below s args (⟨"java/lang/String", "length", "()I"⟩ : MethodName) len W (fun P a => a = #[.ref x] ∧ P.U.heap = h ∧ P.cells + 0 ≤ R.cells ∧ P.slots + 0 ≤ R.slots)
      (fun P _ v B => ∃ L, (v = some (.int (Int32.ofNat cs.length)) ∧ L = [] ∧ B.U.heap = h) ∧ B.locs = P.locs ++ L ∧ B.cells = P.cells + 0 ∧ B.slots = P.slots + 0) := by
  obtain ⟨A, K1, K2, K3, K4, K5, K6⟩ := K
  have hcod := hc.cod (by omega) K3 K5
  intro m meth c P g ig mk a X hg hsize hdg hW hn hp'
  obtain ⟨rfl, rfl, r1, r2⟩ := hp'
  have al : Z.vm.Alike P.U.vm := hZ.alike.trans X.warmed.alike
  obtain ⟨D, fV, fC, hB, F1, F2, g1, g2, -, -⟩ := strObj wi al E V C
  have hx : Txt x t A cd cs.length (fun j => cs.getD j 0) P.U := ⟨⟨_, hB.2.2.1, D, hB.1, rfl, by cases q : D.vm <;> first | rfl | exact absurd q (hB.2.1.2 _)⟩, Has.of hB F1 g1, Has.of hB F2 g2, ⟨K1.1, State.isArrayOf_alike al K1.2.1, K1.2.2, by rcases hcod with ⟨-, q, -⟩ | ⟨-, q, -⟩ <;> omega⟩, hcod, fun j hj => by
    have e : cs.getD j 0 = cs[j] := by simp [List.getD_eq_getElem?_getD, hj]
    show ¬ cs.getD j 0 < 0 ∧ ¬ 65535 < cs.getD j 0
    rw [e]; exact hb _ (List.getElem_mem _)⟩
  obtain ⟨v, B, X', ⟨⟨hv, hh⟩, hl, hk, hs⟩, st⟩ := Len.pays x t A cd cs.length (fun j => cs.getD j 0) z (tabLen_of (movedLen hZ hw)) hfr hlo m meth c P g ig mk _ X hg hsize hdg hW hn ⟨r1, r2, rfl, hx, sta_is al S, hz⟩
  exact ⟨v, B, X', ⟨[], ⟨hv, rfl, hh⟩, hl, hk, hs⟩, st⟩
end StrChars.Road
namespace StrChars
open Jvm Sem ClassFile Op Lib Jvm.Stand Jvm.Free.XT Jvm.Free.ALB Jvm.Free.JM Jvm.Free
open Jvm.Lib.Cold (StaticIs)
/-- what place i of a byte[]'s cell holds -/
def yv (A : Cell) (i : Nat) : Int32 := match A.slots[i]? with | some (.int x) => x | _ => 0
theorem yv_get {a : Addr} {A : Cell} {U : State} (h : XT.Arr .byte a A U) (ht : Typed .byte A) {i : Nat} (hi : i < A.slots.size) : A.slots[i]? = some (.int (yv A i)) := by
  have e := Array.getElem?_eq_getElem hi
  have f := ht i _ e
  unfold yv; rw [e]
  generalize A.slots[i] = v at f
  cases v <;> simp [fits] at f ⊢
/-- the two arrays are equal, place for place -/
def EqC (A B : Cell) : Prop := A.slots.size = B.slots.size ∧ ∀ i, i < A.slots.size → yv A i = yv B i
/-- a boolean that says whether p -/
def Says01 (q : Prop) (r : Option Value) (s u : State) : Prop := ∃ v : Int32, r = some (.int v) ∧ u.heap = s.heap ∧ ((v = 1 ∧ q) ∨ (v = 0 ∧ ¬ q))
theorem Says01.mv {q : Prop} : ∀ r (U U' V V' : State), U'.heap = U.heap → V.vm.Alike V'.vm → V'.heap = V.heap → Says01 q r U V → Says01 q r U' V' :=
  fun r U U' V V' h1 _ h2 ⟨v, a, b, c⟩ => ⟨v, a, by rw [h1, h2]; exact b, c⟩
namespace LEq
def yN : MethodName := ⟨"java/lang/StringLatin1", "equals", "([B[B)Z"⟩
abbrev yB : ByteArray := jdk_43_method_13_code
theorem d0 : decode yB 0 = .ok (.aload_n 0, 1) := by decide +kernel
theorem d1 : decode yB 1 = .ok (.arraylength, 1) := by decide +kernel
theorem d2 : decode yB 2 = .ok (.aload_n 1, 1) := by decide +kernel
theorem d3 : decode yB 3 = .ok (.arraylength, 1) := by decide +kernel
theorem d4 : decode yB 4 = .ok (.if_icmp (.ne) 30, 3) := by decide +kernel
theorem d7 : decode yB 7 = .ok (.iconst 0, 1) := by decide +kernel
theorem d8 : decode yB 8 = .ok (.istore_n 2, 1) := by decide +kernel
theorem d9 : decode yB 9 = .ok (.iload_n 2, 1) := by decide +kernel
theorem d10 : decode yB 10 = .ok (.aload_n 0, 1) := by decide +kernel
theorem d11 : decode yB 11 = .ok (.arraylength, 1) := by decide +kernel
theorem d12 : decode yB 12 = .ok (.if_icmp (.ge) 20, 3) := by decide +kernel
theorem d15 : decode yB 15 = .ok (.aload_n 0, 1) := by decide +kernel
theorem d16 : decode yB 16 = .ok (.iload_n 2, 1) := by decide +kernel
theorem d17 : decode yB 17 = .ok (.baload, 1) := by decide +kernel
theorem d18 : decode yB 18 = .ok (.aload_n 1, 1) := by decide +kernel
theorem d19 : decode yB 19 = .ok (.iload_n 2, 1) := by decide +kernel
theorem d20 : decode yB 20 = .ok (.baload, 1) := by decide +kernel
theorem d21 : decode yB 21 = .ok (.if_icmp (.eq) 5, 3) := by decide +kernel
theorem d24 : decode yB 24 = .ok (.iconst 0, 1) := by decide +kernel
theorem d25 : decode yB 25 = .ok (.ireturn, 1) := by decide +kernel
theorem d26 : decode yB 26 = .ok (.iinc 2 1, 3) := by decide +kernel
theorem d29 : decode yB 29 = .ok (.goto (-20), 3) := by decide +kernel
theorem d32 : decode yB 32 = .ok (.iconst 1, 1) := by decide +kernel
theorem d33 : decode yB 33 = .ok (.ireturn, 1) := by decide +kernel
theorem d34 : decode yB 34 = .ok (.iconst 0, 1) := by decide +kernel
theorem d35 : decode yB 35 = .ok (.ireturn, 1) := by decide +kernel
def site : List Cond := []
def tab : Cond := tabOf yN yB 3 (some .boolean) site
def P (a : Addr) (A : Cell) (b : Addr) (B : Cell) (args : Array Value) (s : State) : Prop := args = #[.ref a, .ref b] ∧ XT.Arr .byte a A s ∧ Typed .byte A ∧ XT.Arr .byte b B s ∧ Typed .byte B
/-- whether two byte[] are equal, place for place -/
theorem law (l : Launch) (a : Addr) (A : Cell) (b : Addr) (B : Cell) : Law l yN 2 2 0 0 yB 3 (some .boolean) site (P a A b B) (Says01 (EqC A B)) [] 0 0 := by
  refine Law.of_walk (plainFor_of_name (by decide +kernel)) (by decide +kernel) (by decide +kernel) (by decide) (fun _ _ h => by rw [h.1]; rfl) (fun _ U U' hal hh h => ⟨h.1, h.2.1.mv hal hh, h.2.2.1, h.2.2.2.1.mv hal hh, h.2.2.2.2⟩) (fun r U U' V V' h1 hal h2 h => Says01.mv r U U' V V' h1 hal h2 h) ?_
  intro p e s m args below meth c s₁ X0 hexec hbytes hml hret hlk hnm hown hh0 W hP
  obtain ⟨rfl, hA, tA, hB, tB⟩ := hP
  have a31 := hA.2.2.2
  have b31 := hB.2.2.2
  have hA0 := hA.mv X0.warmed.alike hh0
  have hB0 := hB.mv X0.warmed.alike hh0
  have c1 : Steps p.tables e below (s₁.setTop (entryFrame m #[.ref a, .ref b] 3)) (s₁.setTop (mkF m 0 #[.val (.ref a), .val (.ref b), .unset] [])) := entry rfl
  have c2 : Steps p.tables e below (s₁.setTop (entryFrame m #[.ref a, .ref b] 3)) (s₁.setTop (mkF m 4 #[.val (.ref a), .val (.ref b), .unset] [.int (Int32.ofNat B.slots.size), .int (Int32.ofNat A.slots.size)])) := c1.trans (by
    refine XS.aloadN X0.here hexec rfl (hb hbytes d0) rfl rfl ?_
    refine X0.alen hexec hA0 rfl rfl (hb hbytes d1) ?_
    refine XS.aloadN X0.here hexec rfl (hb hbytes d2) rfl rfl ?_
    refine X0.alen hexec hB0 rfl rfl (hb hbytes d3) ?_
    exact Steps.refl _)
  by_cases hs : A.slots.size = B.slots.size
  · have c3 : Steps p.tables e below (s₁.setTop (entryFrame m #[.ref a, .ref b] 3)) (s₁.setTop (mkF m 9 #[.val (.ref a), .val (.ref b), .val (.int 0)] [])) := c2.trans (by
      refine XS.icmpNo X0.here hexec rfl (hb hbytes d4) rfl (ii_ne_f (by rw [hs])) ?_
      refine iconstV X0.here hexec rfl 0 (hb hbytes d7) (by decide) ?_
      refine XS.istoreN X0.here hexec rfl (hb hbytes d8) rfl rfl ?_
      exact Steps.refl _)
    have loop : ∀ (r i : Nat), i + r = A.slots.size → (∀ j, j < i → yv A j = yv B j) → Steps p.tables e below (s₁.setTop (entryFrame m #[.ref a, .ref b] 3)) (s₁.setTop (mkF m 9 #[.val (.ref a), .val (.ref b), .val (.int (Int32.ofNat i))] [])) → ∃ (pc : Nat) (Ls : Array Slot) (v : Int32), (pc = 25 ∨ pc = 33) ∧ ((v = 1 ∧ EqC A B) ∨ (v = 0 ∧ ¬ EqC A B)) ∧ Steps p.tables e below (s₁.setTop (entryFrame m #[.ref a, .ref b] 3)) (s₁.setTop (mkF m pc Ls [.int v])) := by
      intro r
      induction r with
      | zero =>
        intro i hi he cl
        exact ⟨33, _, 1, Or.inr rfl, Or.inl ⟨rfl, hs, fun j hj => he j (by omega)⟩, cl.trans (by
          refine XS.iloadN X0.here hexec rfl (hb hbytes d9) rfl ?_
          refine XS.aloadN X0.here hexec rfl (hb hbytes d10) rfl rfl ?_
          refine X0.alen hexec hA0 rfl rfl (hb hbytes d11) ?_
          refine XS.icmpYes X0.here hexec rfl (pc0 := 12) rfl (hb hbytes d12) rfl (ii_ge_t (nlt32 (by omega) (by omega))) (by decide) rfl ?_
          refine iconstV X0.here hexec rfl 1 (hb hbytes d32) (by decide) ?_
          exact Steps.refl _)⟩
      | succ r ih =>
        intro i hi he cl
        have c4 : Steps p.tables e below (s₁.setTop (entryFrame m #[.ref a, .ref b] 3)) (s₁.setTop (mkF m 21 #[.val (.ref a), .val (.ref b), .val (.int (Int32.ofNat i))] [.int (yv B i), .int (yv A i)])) := cl.trans (by
          refine XS.iloadN X0.here hexec rfl (hb hbytes d9) rfl ?_
          refine XS.aloadN X0.here hexec rfl (hb hbytes d10) rfl rfl ?_
          refine X0.alen hexec hA0 rfl rfl (hb hbytes d11) ?_
          refine XS.icmpNo X0.here hexec rfl (hb hbytes d12) rfl (ii_ge_f (lt32 (by omega) (by omega))) ?_
          refine XS.aloadN X0.here hexec rfl (hb hbytes d15) rfl rfl ?_
          refine XS.iloadN X0.here hexec rfl (hb hbytes d16) rfl ?_
          refine X0.aget hexec hA0 rfl (yv_get hA tA (i := i) (by omega)) rfl rfl (hb hbytes d17) ?_
          refine XS.aloadN X0.here hexec rfl (hb hbytes d18) rfl rfl ?_
          refine XS.iloadN X0.here hexec rfl (hb hbytes d19) rfl ?_
          refine X0.aget hexec hB0 rfl (yv_get hB tB (i := i) (by omega)) rfl rfl (hb hbytes d20) ?_
          exact Steps.refl _)
        by_cases hv : yv A i = yv B i
        · have c5 : Steps p.tables e below (s₁.setTop (entryFrame m #[.ref a, .ref b] 3)) (s₁.setTop (mkF m 9 #[.val (.ref a), .val (.ref b), .val (.int (Int32.ofNat i + 1))] [])) := c4.trans (by
            refine XS.icmpYes X0.here hexec rfl (pc0 := 21) rfl (hb hbytes d21) rfl (ii_eq_t hv) (by decide) rfl ?_
            refine iincV X0.here hexec rfl 1 (hb hbytes d26) (by decide) rfl rfl ?_
            refine XS.goto X0.here hexec rfl (pc0 := 29) rfl (hb hbytes d29) (by decide) rfl ?_
            exact Steps.refl _)
          rw [succ32] at c5
          exact ih (i + 1) (by omega) (fun j hj => by
            by_cases e : j = i
            · rw [e]; exact hv
            · exact he j (by omega)) c5
        · exact ⟨25, _, 0, Or.inl rfl, Or.inr ⟨rfl, fun q => hv (q.2 i (by omega))⟩, c4.trans (by
            refine XS.icmpNo X0.here hexec rfl (hb hbytes d21) rfl (ii_eq_f hv) ?_
            refine iconstV X0.here hexec rfl 0 (hb hbytes d24) (by decide) ?_
            exact Steps.refl _)⟩
    obtain ⟨pc, Ls, v, hpc, hv, cz⟩ := loop A.slots.size 0 (by omega) (fun j hj => absurd hj (Nat.not_lt_zero j)) c3
    have nv : narrow .boolean (.int v) = .int v := by rcases hv with ⟨rfl, -⟩ | ⟨rfl, -⟩ <;> rfl
    rcases hpc with rfl | rfl
    · exact ⟨s₁, some (.int v), _, _, _, X0, rfl, rfl, rfl, (fun h => by cases h), ⟨v, rfl, hh0, hv⟩, fun fs hl => cz.trans (X0.ireturnOut hexec hret nv (Or.inr (Or.inl rfl)) (hb hbytes d25) hl)⟩
    · exact ⟨s₁, some (.int v), _, _, _, X0, rfl, rfl, rfl, (fun h => by cases h), ⟨v, rfl, hh0, hv⟩, fun fs hl => cz.trans (X0.ireturnOut hexec hret nv (Or.inr (Or.inl rfl)) (hb hbytes d33) hl)⟩
  · have c3 : Steps p.tables e below (s₁.setTop (entryFrame m #[.ref a, .ref b] 3)) (s₁.setTop (mkF m 35 #[.val (.ref a), .val (.ref b), .unset] [.int 0])) := c2.trans (by
      refine XS.icmpYes X0.here hexec rfl (pc0 := 4) rfl (hb hbytes d4) rfl (ii_ne_t (ne32 a31 b31 hs)) (by decide) rfl ?_
      refine iconstV X0.here hexec rfl 0 (hb hbytes d34) (by decide) ?_
      exact Steps.refl _)
    exact ⟨s₁, some (.int 0), _, _, _, X0, rfl, rfl, rfl, (fun h => by cases h), ⟨0, rfl, hh0, Or.inr ⟨rfl, fun q => hs q.1⟩⟩, fun fs hl => c3.trans (X0.ireturnOut hexec hret rfl (Or.inr (Or.inl rfl)) (hb hbytes d35) hl)⟩
end LEq
theorem Cod.ty {cd : Int32} {n : Nat} {f : Nat → Int32} {V : Cell} (h : Cod cd n f V) : Typed .byte V := fun i v hv => by
  have hi : i < V.slots.size := (Array.getElem?_eq_some_iff.mp hv).1
  rcases h with ⟨-, k1, k2⟩ | ⟨-, k1, k2, -⟩
  · rw [(k2 i (by omega)).1] at hv; cases hv; exact fits_lo8 _
  · rcases Nat.mod_two_eq_zero_or_one i with e | e
    · obtain ⟨j, rfl⟩ : ∃ j, i = 2 * j := ⟨i / 2, by omega⟩
      rw [(k2 j (by omega)).1] at hv; cases hv; exact fits_lo8 _
    · obtain ⟨j, rfl⟩ : ∃ j, i = 2 * j + 1 := ⟨i / 2, by omega⟩
      rw [(k2 j (by omega)).2] at hv; cases hv; exact fits_lo8 _
/-- the same text -/
def SameT (n : Nat) (f : Nat → Int32) (k : Nat) (g : Nat → Int32) : Prop := n = k ∧ ∀ j, j < n → f j = g j
theorem lo8_inj {x y : Int32} (h0 : ¬ x < 0) (h1 : ¬ 255 < x) (k0 : ¬ y < 0) (k1 : ¬ 255 < y) (h : lo8 x = lo8 y) : x = y := by
  rw [← lo8_mask h0 h1, ← lo8_mask k0 k1, h]
/-- arrays coded by one coder are equal just where the texts are -/
theorem Cod.eqv {cd : Int32} {n k : Nat} {f g : Nat → Int32} {V V' : Cell} (h : Cod cd n f V) (h' : Cod cd k g V') (hf : ∀ j, j < n → ¬ f j < 0 ∧ ¬ 65535 < f j) (hg : ∀ j, j < k → ¬ g j < 0 ∧ ¬ 65535 < g j) : EqC V V' ↔ SameT n f k g := by
  have yvv : ∀ {W : Cell} {i : Nat} {x : Int32}, W.slots[i]? = some (.int x) → yv W i = x := fun q => by unfold yv; rw [q]
  rcases h with ⟨rfl, k1, k2⟩ | ⟨rfl, k1, k2, -⟩
  · rcases h' with ⟨-, m1, m2⟩ | ⟨e, -⟩
    · constructor
      · rintro ⟨e1, e2⟩
        refine ⟨by omega, fun j hj => ?_⟩
        have q := e2 j (by omega)
        rw [yvv (k2 j hj).1, yvv (m2 j (by omega)).1] at q
        exact lo8_inj (hf j hj).1 (k2 j hj).2 (hg j (by omega)).1 (m2 j (by omega)).2 q
      · rintro ⟨rfl, e2⟩
        refine ⟨by omega, fun j hj => ?_⟩
        rw [yvv (k2 j (by omega)).1, yvv (m2 j (by omega)).1, e2 j (by omega)]
    · exact absurd e (by decide)
  · rcases h' with ⟨e, -⟩ | ⟨-, m1, m2, -⟩
    · exact absurd e (by decide)
    · constructor
      · rintro ⟨e1, e2⟩
        refine ⟨by omega, fun j hj => ?_⟩
        have q1 := e2 (2 * j) (by omega)
        have q2 := e2 (2 * j + 1) (by omega)
        rw [yvv (k2 j hj).1, yvv (m2 j (by omega)).1] at q1
        rw [yvv (k2 j hj).2, yvv (m2 j (by omega)).2] at q2
        rw [← pair_says (hf j hj).1 (hf j hj).2, ← pair_says (hg j (by omega)).1 (hg j (by omega)).2, q1, q2]
      · rintro ⟨rfl, e2⟩
        refine ⟨by omega, fun i hi => ?_⟩
        rcases Nat.mod_two_eq_zero_or_one i with e | e
        · obtain ⟨j, rfl⟩ : ∃ j, i = 2 * j := ⟨i / 2, by omega⟩
          rw [yvv (k2 j (by omega)).1, yvv (m2 j (by omega)).1, e2 j (by omega)]
        · obtain ⟨j, rfl⟩ : ∃ j, i = 2 * j + 1 := ⟨i / 2, by omega⟩
          rw [yvv (k2 j (by omega)).2, yvv (m2 j (by omega)).2, e2 j (by omega)]
/-- two codings differ: so do the texts -/
theorem Cod.dif {cd cd' : Int32} {n k : Nat} {f g : Nat → Int32} {V V' : Cell} (h : Cod cd n f V) (h' : Cod cd' k g V') (hne : ¬ cd = cd') : ¬ SameT n f k g := by
  rintro ⟨rfl, e⟩
  rcases h with ⟨rfl, -, k2⟩ | ⟨rfl, -, -, j, hj, hw⟩
  · rcases h' with ⟨rfl, -⟩ | ⟨-, -, -, j, hj, hw⟩
    · exact hne rfl
    · exact (k2 j hj).2 (by rw [e j hj]; exact hw)
  · rcases h' with ⟨-, -, m2⟩ | ⟨rfl, -⟩
    · exact (m2 j hj).2 (by rw [← e j hj]; exact hw)
    · exact hne rfl
/-- an object of exactly C is an instance of C -/
theorem cinst {p : Program} {l : Launch} {e : Env} {R : Room} {s : State} {m : MethodId} {args : Array Value} {below : List Frame} {meth : Method} {c : Code} {T : State} {locs : List Loc} {cells slots : Nat} (X : Stand p l e R s m args below meth c T locs cells slots) (hexec : p.tables.exec = Jvm.exec) {own C : String} {index : Nat} (hown : s.vm.findClass own = some m.cls) (hlink : (Cond.classLink own index C).before args s = true) {a : Addr} (hE : Exact C a T)
    {g : JFrame} (hg : g.method = m) {rest : List Value} (hstack : g.stack = .ref a :: rest) (hdg : decode c.code g.pc = .ok (.instanceof index, 3)) :
    ∃ T', Stand p l e R s m args below meth c T' locs cells slots ∧ T'.heap = T.heap ∧ ∀ target, Steps p.tables e below (T'.setTop { g with pc := g.pc + 3, stack := .int 1 :: rest }) target → Steps p.tables e below (T.setTop g) target := by
  obtain ⟨cB, h1, D, h2, h3, h4⟩ := hE
  have h1' : s.vm.findClass C = some cB := by rw [← X.warmed.alike.findClass]; exact h1
  obtain ⟨vm', X', st⟩ := X.instanceofYes hexec hown hlink h2 h4 h1' (by rw [h3]; exact Jvm.Free.SB.assignable_self _ _) hg hstack hdg
  exact ⟨_, X', rfl, st⟩
theorem cself {p : Program} {l : Launch} {e : Env} {R : Room} {s : State} {m : MethodId} {args : Array Value} {below : List Frame} {meth : Method} {c : Code} {T : State} {locs : List Loc} {cells slots : Nat} (X : Stand p l e R s m args below meth c T locs cells slots) (hexec : p.tables.exec = Jvm.exec) {own C : String} {index : Nat} (hown : s.vm.findClass own = some m.cls) (hlink : (Cond.classLink own index C).before args s = true) {a : Addr} (hE : Exact C a T)
    {g : JFrame} (hg : g.method = m) {rest : List Value} (hstack : g.stack = .ref a :: rest) (hdg : decode c.code g.pc = .ok (.checkcast index, 3)) :
    ∃ T', Stand p l e R s m args below meth c T' locs cells slots ∧ T'.heap = T.heap ∧ ∀ target, Steps p.tables e below (T'.setTop { g with pc := g.pc + 3, stack := .ref a :: rest }) target → Steps p.tables e below (T.setTop g) target := by
  obtain ⟨cB, h1, D, h2, h3, h4⟩ := hE
  have h1' : s.vm.findClass C = some cB := by rw [← X.warmed.alike.findClass]; exact h1
  obtain ⟨vm', X', st⟩ := X.checkcastYes hexec hown hlink h2 h4 h1' (by rw [h3]; exact Jvm.Free.SB.assignable_self _ _) hg hstack hdg
  exact ⟨_, X', rfl, fun t h => st t (by rw [← hstack] at h; exact h)⟩
namespace SEq
def yN : MethodName := ⟨"java/lang/String", "equals", "(Ljava/lang/Object;)Z"⟩
abbrev yB : ByteArray := jdk_42_method_66_code
theorem d0 : decode yB 0 = .ok (.aload_n 0, 1) := by decide +kernel
theorem d1 : decode yB 1 = .ok (.aload_n 1, 1) := by decide +kernel
theorem d2 : decode yB 2 = .ok (.if_acmp (.ne) 5, 3) := by decide +kernel
theorem d5 : decode yB 5 = .ok (.iconst 1, 1) := by decide +kernel
theorem d6 : decode yB 6 = .ok (.ireturn, 1) := by decide +kernel
theorem d7 : decode yB 7 = .ok (.aload_n 1, 1) := by decide +kernel
theorem d8 : decode yB 8 = .ok (.instanceof 10, 3) := by decide +kernel
theorem d11 : decode yB 11 = .ok (.ifCond (.eq) 43, 3) := by decide +kernel
theorem d14 : decode yB 14 = .ok (.aload_n 1, 1) := by decide +kernel
theorem d15 : decode yB 15 = .ok (.checkcast 10, 3) := by decide +kernel
theorem d18 : decode yB 18 = .ok (.astore_n 2, 1) := by decide +kernel
theorem d19 : decode yB 19 = .ok (.getstatic 38, 3) := by decide +kernel
theorem d22 : decode yB 22 = .ok (.ifCond (.eq) 14, 3) := by decide +kernel
theorem d25 : decode yB 25 = .ok (.aload_n 0, 1) := by decide +kernel
theorem d26 : decode yB 26 = .ok (.getfield 15, 3) := by decide +kernel
theorem d29 : decode yB 29 = .ok (.aload_n 2, 1) := by decide +kernel
theorem d30 : decode yB 30 = .ok (.getfield 15, 3) := by decide +kernel
theorem d33 : decode yB 33 = .ok (.if_icmp (.ne) 21, 3) := by decide +kernel
theorem d36 : decode yB 36 = .ok (.aload_n 0, 1) := by decide +kernel
theorem d37 : decode yB 37 = .ok (.getfield 9, 3) := by decide +kernel
theorem d40 : decode yB 40 = .ok (.aload_n 2, 1) := by decide +kernel
theorem d41 : decode yB 41 = .ok (.getfield 9, 3) := by decide +kernel
theorem d44 : decode yB 44 = .ok (.invokestatic 541, 3) := by decide +kernel
theorem d47 : decode yB 47 = .ok (.ifCond (.eq) 7, 3) := by decide +kernel
theorem d50 : decode yB 50 = .ok (.iconst 1, 1) := by decide +kernel
theorem d51 : decode yB 51 = .ok (.goto 4, 3) := by decide +kernel
theorem d54 : decode yB 54 = .ok (.iconst 0, 1) := by decide +kernel
theorem d55 : decode yB 55 = .ok (.ireturn, 1) := by decide +kernel
def site : List Cond := [.classLink "java/lang/String" 10 "java/lang/String", .fieldLink "java/lang/String" 38 "java/lang/String" "COMPACT_STRINGS" "Z", .fieldLink "java/lang/String" 15 "java/lang/String" "coder" "B", .fieldLink "java/lang/String" 9 "java/lang/String" "value" "[B", LEq.tab] ++ staticW "java/lang/String" 541 LEq.yN
def tab : Cond := tabOf yN yB 3 (some .boolean) site
def P (x t : Addr) (V : Cell) (cd : Int32) (n : Nat) (f : Nat → Int32) (y t' : Addr) (V' : Cell) (cd' : Int32) (k : Nat) (g : Nat → Int32) (z : Int32) (args : Array Value) (s : State) : Prop := args = #[.ref x, .ref y] ∧ Txt x t V cd n f s ∧ Txt y t' V' cd' k g s ∧ StaticIs s "java/lang/String" "COMPACT_STRINGS" "Z" (.int z) ∧ ¬ z = 0
/-- equals(Object) of two Strings: whether the texts are the same -/
theorem law (l : Launch) (x t : Addr) (V : Cell) (cd : Int32) (n : Nat) (f : Nat → Int32) (y t' : Addr) (V' : Cell) (cd' : Int32) (k : Nat) (g : Nat → Int32) (z : Int32) : Law l yN 2 1 1 14 yB 3 (some .boolean) site (P x t V cd n f y t' V' cd' k g z) (Says01 (SameT n f k g)) [] 0 0 := by
  refine Law.of_walk (plainFor_of_name (by decide +kernel)) (by decide +kernel) (by decide +kernel) (by decide) (fun _ _ h => by rw [h.1]; rfl) (fun _ U U' hal hh h => ⟨h.1, h.2.1.mv hal hh, h.2.2.1.mv hal hh, h.2.2.2.1.there hal hh, h.2.2.2.2⟩) (fun r U U' V V' h1 hal h2 h => Says01.mv r U U' V V' h1 hal h2 h) ?_
  intro p e s m args below meth c s₁ X0 hexec hbytes hml hret hlk hnm hown hh0 W hP
  obtain ⟨rfl, hx, hy, s1, hz⟩ := hP
  have c1 : Steps p.tables e below (s₁.setTop (entryFrame m #[.ref x, .ref y] 3)) (s₁.setTop (mkF m 2 #[.val (.ref x), .val (.ref y), .unset] [.ref y, .ref x])) := Steps.trans (entry rfl) (by
    show Steps p.tables e below (s₁.setTop (mkF m 0 #[.val (.ref x), .val (.ref y), .unset] [])) _
    refine XS.aloadN X0.here hexec rfl (hb hbytes d0) rfl rfl ?_
    refine XS.aloadN X0.here hexec rfl (hb hbytes d1) rfl rfl ?_
    exact Steps.refl _)
  by_cases hxy : x = y
  · have c2 : Steps p.tables e below (s₁.setTop (entryFrame m #[.ref x, .ref y] 3)) (s₁.setTop (mkF m 6 #[.val (.ref x), .val (.ref y), .unset] [.int 1])) := c1.trans (by
      refine acmpNo X0.here hexec rfl (hb hbytes d2) rfl rfl rfl (by simp [acmp, hxy]) ?_
      refine iconstV X0.here hexec rfl 1 (hb hbytes d5) (by decide) ?_
      exact Steps.refl _)
    subst hxy
    have ec : cd = cd' := by
      obtain ⟨D, fd, a1, a2, a3⟩ := hx.2.2.1
      obtain ⟨D', fd', b1, b2, b3⟩ := hy.2.2.1
      cases a1.symm.trans b1
      obtain ⟨q1, q2, q3, q4⟩ := a2.1
      obtain ⟨r1, r2, r3, r4⟩ := b2.1
      cases q4.symm.trans r4
      cases a3.symm.trans b3; rfl
    have et : t = t' := by
      obtain ⟨D, fd, a1, a2, a3⟩ := hx.2.1
      obtain ⟨D', fd', b1, b2, b3⟩ := hy.2.1
      cases a1.symm.trans b1
      obtain ⟨q1, q2, q3, q4⟩ := a2.1
      obtain ⟨r1, r2, r3, r4⟩ := b2.1
      cases q4.symm.trans r4
      cases a3.symm.trans b3; rfl
    subst ec et
    have ev : V = V' := by cases hx.2.2.2.1.1.symm.trans hy.2.2.2.1.1; rfl
    subst ev
    have hs : SameT n f k g := (Cod.eqv hx.2.2.2.2.1 hy.2.2.2.2.1 hx.2.2.2.2.2 hy.2.2.2.2.2).mp ⟨rfl, fun _ _ => rfl⟩
    exact ⟨s₁, some (.int 1), _, _, _, X0, rfl, rfl, rfl, (fun h => by cases h), ⟨1, rfl, hh0, Or.inl ⟨rfl, hs⟩⟩, fun fs hl => c2.trans (X0.ireturnOut hexec hret rfl (Or.inr (Or.inl rfl)) (hb hbytes d6) hl)⟩
  · have c2 : Steps p.tables e below (s₁.setTop (entryFrame m #[.ref x, .ref y] 3)) (s₁.setTop (mkF m 8 #[.val (.ref x), .val (.ref y), .unset] [.ref y])) := c1.trans (by
      refine acmpYes X0.here hexec rfl (pc0 := 2) rfl (hb hbytes d2) rfl rfl rfl (by simp [acmp, hxy]) (by decide) rfl ?_
      refine XS.aloadN X0.here hexec rfl (hb hbytes d7) rfl rfl ?_
      exact Steps.refl _)
    obtain ⟨T3, X3, q3, st3⟩ := cinst X0 hexec hown (wk W (.classLink "java/lang/String" 10 "java/lang/String")) (hy.mv X0.warmed.alike hh0).1 (g := (mkF m 8 #[.val (.ref x), .val (.ref y), .unset] [.ref y])) rfl (rest := []) rfl (hb hbytes d8)
    have hh3 := q3.trans hh0
    have c4 : Steps p.tables e below (s₁.setTop (entryFrame m #[.ref x, .ref y] 3)) (T3.setTop (mkF m 15 #[.val (.ref x), .val (.ref y), .unset] [.ref y])) := (c2.trans (st3 _ (Steps.refl _))).trans (by
      refine XS.ifNo X3.here hexec rfl (hb hbytes d11) rfl (i0_eq_f (by decide)) ?_
      refine XS.aloadN X3.here hexec rfl (hb hbytes d14) rfl rfl ?_
      exact Steps.refl _)
    obtain ⟨T5, X5, q5, st5⟩ := cself X3 hexec hown (wk W (.classLink "java/lang/String" 10 "java/lang/String")) (hy.mv X3.warmed.alike hh3).1 (g := (mkF m 15 #[.val (.ref x), .val (.ref y), .unset] [.ref y])) rfl (rest := []) rfl (hb hbytes d15)
    have hh5 := q5.trans hh3
    have c6 : Steps p.tables e below (s₁.setTop (entryFrame m #[.ref x, .ref y] 3)) (T5.setTop (mkF m 19 #[.val (.ref x), .val (.ref y), .val (.ref y)] [])) := (c4.trans (st5 _ (Steps.refl _))).trans (by
      refine XS.astoreN X5.here hexec rfl (hb hbytes d18) rfl rfl rfl ?_
      exact Steps.refl _)
    obtain ⟨T7, X7, q7, st7⟩ := X5.sget hexec hown (wk W (.fieldLink "java/lang/String" 38 "java/lang/String" "COMPACT_STRINGS" "Z")) s1 (fun _ _ h => by rw [hh5]; exact h) (g := (mkF m 19 #[.val (.ref x), .val (.ref y), .val (.ref y)] [])) rfl (hb hbytes d19)
    have hh7 := q7.trans hh5
    have c8 : Steps p.tables e below (s₁.setTop (entryFrame m #[.ref x, .ref y] 3)) (T7.setTop (mkF m 26 #[.val (.ref x), .val (.ref y), .val (.ref y)] [.ref x])) := (c6.trans (st7 _ (Steps.refl _))).trans (by
      refine XS.ifNo X7.here hexec rfl (hb hbytes d22) rfl (i0_eq_f hz) ?_
      refine XS.aloadN X7.here hexec rfl (hb hbytes d25) rfl rfl ?_
      exact Steps.refl _)
    obtain ⟨T9, X9, q9, st9⟩ := X7.hget hexec hown (wk W (.fieldLink "java/lang/String" 15 "java/lang/String" "coder" "B")) (hx.mv X7.warmed.alike hh7).2.2.1 (g := (mkF m 26 #[.val (.ref x), .val (.ref y), .val (.ref y)] [.ref x])) rfl (rest := []) rfl (hb hbytes d26)
    have hh9 := q9.trans hh7
    have c10 : Steps p.tables e below (s₁.setTop (entryFrame m #[.ref x, .ref y] 3)) (T9.setTop (mkF m 30 #[.val (.ref x), .val (.ref y), .val (.ref y)] [.ref y, .int cd])) := (c8.trans (st9 _ (Steps.refl _))).trans (by
      refine XS.aloadN X9.here hexec rfl (hb hbytes d29) rfl rfl ?_
      exact Steps.refl _)
    obtain ⟨T11, X11, q11, st11⟩ := X9.hget hexec hown (wk W (.fieldLink "java/lang/String" 15 "java/lang/String" "coder" "B")) (hy.mv X9.warmed.alike hh9).2.2.1 (g := (mkF m 30 #[.val (.ref x), .val (.ref y), .val (.ref y)] [.ref y, .int cd])) rfl (rest := [.int cd]) rfl (hb hbytes d30)
    have hh11 := q11.trans hh9
    have c12 : Steps p.tables e below (s₁.setTop (entryFrame m #[.ref x, .ref y] 3)) (T11.setTop (mkF m 33 #[.val (.ref x), .val (.ref y), .val (.ref y)] [.int cd', .int cd])) := c10.trans (st11 _ (Steps.refl _))
    by_cases hcd : cd = cd'
    · subst hcd
      have c13 : Steps p.tables e below (s₁.setTop (entryFrame m #[.ref x, .ref y] 3)) (T11.setTop (mkF m 37 #[.val (.ref x), .val (.ref y), .val (.ref y)] [.ref x])) := c12.trans (by
        refine XS.icmpNo X11.here hexec rfl (hb hbytes d33) rfl (ii_ne_f rfl) ?_
        refine XS.aloadN X11.here hexec rfl (hb hbytes d36) rfl rfl ?_
        exact Steps.refl _)
      obtain ⟨T14, X14, q14, st14⟩ := X11.hget hexec hown (wk W (.fieldLink "java/lang/String" 9 "java/lang/String" "value" "[B")) (hx.mv X11.warmed.alike hh11).2.1 (g := (mkF m 37 #[.val (.ref x), .val (.ref y), .val (.ref y)] [.ref x])) rfl (rest := []) rfl (hb hbytes d37)
      have hh14 := q14.trans hh11
      have c15 : Steps p.tables e below (s₁.setTop (entryFrame m #[.ref x, .ref y] 3)) (T14.setTop (mkF m 41 #[.val (.ref x), .val (.ref y), .val (.ref y)] [.ref y, .ref t])) := (c13.trans (st14 _ (Steps.refl _))).trans (by
        refine XS.aloadN X14.here hexec rfl (hb hbytes d40) rfl rfl ?_
        exact Steps.refl _)
      obtain ⟨T16, X16, q16, st16⟩ := X14.hget hexec hown (wk W (.fieldLink "java/lang/String" 9 "java/lang/String" "value" "[B")) (hy.mv X14.warmed.alike hh14).2.1 (g := (mkF m 41 #[.val (.ref x), .val (.ref y), .val (.ref y)] [.ref y, .ref t])) rfl (rest := [.ref t]) rfl (hb hbytes d41)
      have hh16 := q16.trans hh14
      have c17 : Steps p.tables e below (s₁.setTop (entryFrame m #[.ref x, .ref y] 3)) (T16.setTop (mkF m 44 #[.val (.ref x), .val (.ref y), .val (.ref y)] [.ref t', .ref t])) := c15.trans (st16 _ (Steps.refl _))
      obtain ⟨v18, T18, X18, E18, g18⟩ := X16.callS hexec (LEq.law l t V t' V') hown (wks W (staticW "java/lang/String" 541 LEq.yN)) (wk W LEq.tab) (W := 0) (Nat.le_of_ble_eq_true rfl) (Nat.le_of_ble_eq_true rfl) (Nat.le_refl _) (Nat.le_refl _) (g := (mkF m 44 #[.val (.ref x), .val (.ref y), .val (.ref y)] [.ref t', .ref t])) rfl (by rw [hml]; rfl) c17 (argsL := [.ref t, .ref t']) (rest := []) rfl rfl (by show 2 * 0 + 0 ≤ _; decide) (hb hbytes d44) (⟨rfl, hx.2.2.2.1.mv X16.warmed.alike hh16, hx.2.2.2.2.1.ty, hy.2.2.2.1.mv X16.warmed.alike hh16, hy.2.2.2.2.1.ty⟩)
      obtain ⟨v, rfl, q18, hv⟩ := E18
      have iff := Cod.eqv hx.2.2.2.2.1 hy.2.2.2.2.1 hx.2.2.2.2.2 hy.2.2.2.2.2
      rcases hv with ⟨rfl, he⟩ | ⟨rfl, he⟩
      · have c19 : Steps p.tables e below (s₁.setTop (entryFrame m #[.ref x, .ref y] 3)) (T18.setTop (mkF m 55 #[.val (.ref x), .val (.ref y), .val (.ref y)] [.int 1])) := Steps.trans g18 (by
          refine XS.ifNo X18.here hexec rfl (hb hbytes d47) rfl (i0_eq_f (by decide)) ?_
          refine iconstV X18.here hexec rfl 1 (hb hbytes d50) (by decide) ?_
          refine XS.goto X18.here hexec rfl (pc0 := 51) rfl (hb hbytes d51) (by decide) rfl ?_
          exact Steps.refl _)
        exact ⟨T18, some (.int 1), _, _, _, X18, rfl, rfl, rfl, (fun h => by cases h), ⟨1, rfl, q18.trans hh16, Or.inl ⟨rfl, iff.mp he⟩⟩, fun fs hl => c19.trans (X18.ireturnOut hexec hret rfl (Or.inr (Or.inl rfl)) (hb hbytes d55) hl)⟩
      · have c19 : Steps p.tables e below (s₁.setTop (entryFrame m #[.ref x, .ref y] 3)) (T18.setTop (mkF m 55 #[.val (.ref x), .val (.ref y), .val (.ref y)] [.int 0])) := Steps.trans g18 (by
          refine XS.ifYes X18.here hexec rfl (pc0 := 47) rfl (hb hbytes d47) rfl (i0_eq_t rfl) (by decide) rfl ?_
          refine iconstV X18.here hexec rfl 0 (hb hbytes d54) (by decide) ?_
          exact Steps.refl _)
        exact ⟨T18, some (.int 0), _, _, _, X18, rfl, rfl, rfl, (fun h => by cases h), ⟨0, rfl, q18.trans hh16, Or.inr ⟨rfl, fun q => he (iff.mpr q)⟩⟩, fun fs hl => c19.trans (X18.ireturnOut hexec hret rfl (Or.inr (Or.inl rfl)) (hb hbytes d55) hl)⟩
    · have c13 : Steps p.tables e below (s₁.setTop (entryFrame m #[.ref x, .ref y] 3)) (T11.setTop (mkF m 55 #[.val (.ref x), .val (.ref y), .val (.ref y)] [.int 0])) := c12.trans (by
        refine XS.icmpYes X11.here hexec rfl (pc0 := 33) rfl (hb hbytes d33) rfl (ii_ne_t hcd) (by decide) rfl ?_
        refine iconstV X11.here hexec rfl 0 (hb hbytes d54) (by decide) ?_
        exact Steps.refl _)
      exact ⟨T11, some (.int 0), _, _, _, X11, rfl, rfl, rfl, (fun h => by cases h), ⟨0, rfl, hh11, Or.inr ⟨rfl, Cod.dif hx.2.2.2.2.1 hy.2.2.2.2.1 hcd⟩⟩, fun fs hl => c13.trans (X11.ireturnOut hexec hret rfl (Or.inr (Or.inl rfl)) (hb hbytes d55) hl)⟩
theorem pays {l : Launch} {R : Room} {p : Program} {e : Env} {below : List Frame} {s : State} {sargs : Array Value} {len W : Nat} (x t : Addr) (V : Cell) (cd : Int32) (n : Nat) (f : Nat → Int32) (y t' : Addr) (V' : Cell) (cd' : Int32) (k : Nat) (g : Nat → Int32) (z : Int32) (htab : tab.before sargs s = true) (hfr : 2 ≤ R.frames) (hlo : W + 28 ≤ R.locals) :
    Back l R p e below s sargs yN len W (fun A₁ a₁ => A₁.cells + 0 ≤ R.cells ∧ A₁.slots + 0 ≤ R.slots ∧ P x t V cd n f y t' V' cd' k g z a₁ A₁.U) (fun A₁ _ v₁ B₁ => Says01 (SameT n f k g) v₁ A₁.U B₁.U ∧ B₁.locs = A₁.locs ++ [] ∧ B₁.cells = A₁.cells + 0 ∧ B₁.slots = A₁.slots + 0) :=
  (law l x t V cd n f y t' V' cd' k g z).pays htab hfr (by omega)
end SEq
end StrChars
namespace StrChars.Road
open Jvm Sem ClassFile Op Lib Jvm.Stand Jvm.Free Jvm.Free.XT
open Jvm.Lib.Cold (StaticIs)
/-- the words of String.equals(Object) -/
abbrev wordsEq : List Jvm.Cond := [.code SEq.yN SEq.yB 3 (some .boolean), .initialized ST, .classLink ST 10 ST, .fieldLink ST 38 ST "COMPACT_STRINGS" "Z", .fieldLink ST 15 ST "coder" "B", .fieldLink ST 9 ST "value" "[B", .methodLink ST 541 LEq.yN, .static LEq.yN, .code LEq.yN LEq.yB 3 (some .boolean), .initialized "java/lang/StringLatin1"]
theorem tabEq_of {a : Array Value} {s : State} (h : ∀ w ∈ wordsEq, w.before a s = true) : SEq.tab.before a s = true := by
  have hl : LEq.tab.before a s = true := unparts (wk h (.code LEq.yN LEq.yB 3 (some .boolean))) (wks h (.initialized LEq.yN.cls :: LEq.site))
  have q := consq hl h
  exact unparts (wk q (.code SEq.yN SEq.yB 3 (some .boolean))) (wks q (.initialized SEq.yN.cls :: SEq.site))
theorem movedEq {Z s : State} {a0 args : Array Value} (hZ : Z.Warmed39 s.vm) (hw : ∀ d ∈ wordsEq, d.before a0 Z = true) : ∀ d ∈ wordsEq, d.before args s = true := fun d hd => by
  have t : ∀ d ∈ wordsEq, (d.onTables && d.keepsFace) = true := by decide +kernel
  exact RoadKit.mv hZ (hw d hd) (t d hd)
/-- the road's facts of a String, as the laws ask it -/
theorem txt_of {Z U : State} {a0 : Array Value} {kI : Nat} (wi : (Jvm.Cond.instantiable ST kI).before a0 Z = true) (al : Z.vm.Alike U.vm) {x t : Addr} {kb : ClassId} {cs : List Int32} {cd N2 : Int32} {vs : List Value} (E : RoadKit.Exa Z U.heap x ST) (V : RoadKit.Fld Z U.heap x ST "value" "[B" (.ref t)) (C : RoadKit.Fld Z U.heap x ST "coder" "B" (.int cd)) (K : RoadKit.Arv Z U.heap t kb .byte N2 vs (.int 0)) (hc : CodA cs cd N2 vs) (hb : ∀ c ∈ cs, ¬ c < 0 ∧ ¬ (65535 : Int32) < c) (l2 : cs.length ≤ 4000) :
    ∃ A, Txt x t A cd cs.length (fun j => cs.getD j 0) U := by
  obtain ⟨A, K1, K2, K3, K4, K5, K6⟩ := K
  have hcod := hc.cod (by omega) K3 K5
  obtain ⟨D, fV, fC, hB, F1, F2, g1, g2, -, -⟩ := strObj wi al E V C
  exact ⟨A, ⟨_, hB.2.2.1, D, hB.1, rfl, by cases q : D.vm <;> first | rfl | exact absurd q (hB.2.1.2 _)⟩, Has.of hB F1 g1, Has.of hB F2 g2, ⟨K1.1, State.isArrayOf_alike al K1.2.1, K1.2.2, by rcases hcod with ⟨-, q, -⟩ | ⟨-, q, -⟩ <;> omega⟩, hcod, fun j hj => by
    have e : cs.getD j 0 = cs[j] := by simp [List.getD_eq_getElem?_getD, hj]
    show ¬ cs.getD j 0 < 0 ∧ ¬ 65535 < cs.getD j 0
    rw [e]; exact hb _ (List.getElem_mem _)⟩
theorem same_list (cs ds : List Int32) : SameT cs.length (fun j => cs.getD j 0) ds.length (fun j => ds.getD j 0) ↔ cs = ds := by
  constructor
  · rintro ⟨e, q⟩
    refine List.ext_getElem e fun j h1 h2 => ?_
    have := q j h1
    simpa [List.getD_eq_getElem?_getD, h1, h2] using this
  · rintro rfl
    exact ⟨rfl, fun _ _ => rfl⟩
/-- **equals(Object) OF TWO SUCH STRINGS**: 1 just where the chars are the same -/
theorem eqW {p : Program} {l : Launch} {e : Env} {R : Room} {s : State} {args : Array Value} {below : List Frame} {len W : Nat} {Z : State} {a0 : Array Value} {h : Heap} (hZ : Z.Warmed39 s.vm) (hw : ∀ d ∈ wordsEq, d.before a0 Z = true) {kI : Nat} (wi : (Jvm.Cond.instantiable ST kI).before a0 Z = true)
    {x t : Addr} {kb : ClassId} {cs : List Int32} {cd N2 : Int32} {vs : List Value} (E : RoadKit.Exa Z h x ST) (V : RoadKit.Fld Z h x ST "value" "[B" (.ref t)) (C : RoadKit.Fld Z h x ST "coder" "B" (.int cd)) (K : RoadKit.Arv Z h t kb .byte N2 vs (.int 0)) (hc : CodA cs cd N2 vs) (hb : ∀ c ∈ cs, ¬ c < 0 ∧ ¬ (65535 : Int32) < c) (l2 : cs.length ≤ 4000)
    {y t' : Addr} {kb' : ClassId} {ds : List Int32} {cd' N2' : Int32} {vs' : List Value} (E' : RoadKit.Exa Z h y ST) (V' : RoadKit.Fld Z h y ST "value" "[B" (.ref t')) (C' : RoadKit.Fld Z h y ST "coder" "B" (.int cd')) (K' : RoadKit.Arv Z h t' kb' .byte N2' vs' (.int 0)) (hc' : CodA ds cd' N2' vs') (hb' : ∀ c ∈ ds, ¬ c < 0 ∧ ¬ (65535 : Int32) < c) (l2' : ds.length ≤ 4000)
    {z : Int32} (S : RoadKit.Sta Z h ST "COMPACT_STRINGS" "Z" (.int z)) (hz : ¬ z = 0) (hfr : 2 ≤ R.frames) (hlo : W + 28 ≤ R.locals) :
    Back l R p e below s args (⟨"java/lang/String", "equals", "(Ljava/lang/Object;)Z"⟩ : MethodName) len W (fun P a => a = #[.ref x, .ref y] ∧ P.U.heap = h ∧ P.cells + 0 ≤ R.cells ∧ P.slots + 0 ≤ R.slots)
      (fun P _ v B => ∃ L, (((v = some (.int 1) ∧ cs = ds) ∨ (v = some (.int 0) ∧ ¬ cs = ds)) ∧ L = [] ∧ B.U.heap = h) ∧ B.locs = P.locs ++ L ∧ B.cells = P.cells + 0 ∧ B.slots = P.slots + 0) := by
  intro m meth c P g ig mk a X hg hsize hdg hW hn hp'
  obtain ⟨rfl, rfl, r1, r2⟩ := hp'
  have al : Z.vm.Alike P.U.vm := hZ.alike.trans X.warmed.alike
  obtain ⟨A, hx⟩ := txt_of wi al E V C K hc hb l2
  obtain ⟨A', hy⟩ := txt_of wi al E' V' C' K' hc' hb' l2'
  obtain ⟨v, B, X', ⟨⟨w, hv, hh, hq⟩, hl, hk, hs⟩, st⟩ := SEq.pays x t A cd cs.length (fun j => cs.getD j 0) y t' A' cd' ds.length (fun j => ds.getD j 0) z (tabEq_of (movedEq hZ hw)) hfr hlo m meth c P g ig mk _ X hg hsize hdg hW hn ⟨r1, r2, rfl, hx, hy, sta_is al S, hz⟩
  refine ⟨v, B, X', ⟨[], ⟨?_, rfl, hh⟩, hl, hk, hs⟩, st⟩
  rcases hq with ⟨rfl, q⟩ | ⟨rfl, q⟩
  · exact Or.inl ⟨hv, (same_list cs ds).mp q⟩
  · exact Or.inr ⟨hv, fun e => q ((same_list cs ds).mpr e)⟩
end StrChars.Road
namespace StrChars.Road
open Jvm Sem ClassFile Op Lib Jvm.Stand Jvm.Free Jvm.Free.XT
open Jvm.Lib.Cold (StaticIs)
/-- what backV says of its String, as the contracts of this text ask it: cs's low bytes, coder 0 -/
theorem codOf {cs : List Int32} {n : Nat} (hn : cs.length = n) (hb : ∀ c ∈ cs, ¬ 255 < c) : CodA cs 0 (Int32.ofNat n) ((cs.map lo8).map Value.int) := Or.inl ⟨rfl, by rw [hn], by simp [List.map_map, Function.comp_def], hb⟩
end StrChars.Road
end Jvm.Pilot.@@N@@
namespace Jvm.Pilot.@@N@@
open Jvm Jvm.ClassFile Sem Op Lib Jvm.Free Jvm.Free.XT Jvm.Stand Jvm.LawKit Jvm.RoadKit Bundle Jvm.Pilot.@@N@@.Jvm.D
theorem own_d {c : Code} {code : ByteArray} (h : c.code = code) {pc : Nat} {r : Except DecodeError (Instr × Nat)} (h2 : decode code pc = r) : decode c.code pc = r := h ▸ h2
theorem own_pn0 : plainName "java/lang/String" = true := by first | (simp [plainName, overriddenIn]; done) | decide +kernel
theorem own_pn1 : plainName "jdk/internal/util/ArraysSupport" = true := by first | (simp [plainName, overriddenIn]; done) | decide +kernel
theorem own_pd0 : parseMethodDescriptor "()I" = some ⟨[], some .int⟩ := by decide +kernel
theorem own_pd1 : parseMethodDescriptor "()B" = some ⟨[], some .byte⟩ := by decide +kernel
theorem own_pd2 : parseMethodDescriptor "([BI[BII)I" = some ⟨[(.array .byte), .int, (.array .byte), .int, .int], some .int⟩ := by decide +kernel
theorem own_pd3 : parseMethodDescriptor "(Ljava/lang/String;I)Z" = some ⟨[(.object "java/lang/String"), .int], some .boolean⟩ := by decide +kernel
theorem own_pn2 : plainName "jdk/internal/util/Preconditions" = true := by first | (simp [plainName, overriddenIn]; done) | decide +kernel
theorem own_pd4 : parseMethodDescriptor "(IIILjava/util/function/BiFunction;)I" = some ⟨[.int, .int, .int, (.object "java/util/function/BiFunction")], some .int⟩ := by decide +kernel
theorem own_pn3 : plainName "java/util/Arrays" = true := by first | (simp [plainName, overriddenIn]; done) | decide +kernel
theorem own_pd5 : parseMethodDescriptor "(II)V" = some ⟨[.int, .int], none⟩ := by decide +kernel
theorem own_pd6 : parseMethodDescriptor "(II)I" = some ⟨[.int, .int], some .int⟩ := by decide +kernel
theorem own_pd7 : parseMethodDescriptor "([BII)[B" = some ⟨[(.array .byte), .int, .int], some (.array .byte)⟩ := by decide +kernel
theorem own_pd8 : parseMethodDescriptor "([BB)V" = some ⟨[(.array .byte), .byte], none⟩ := by decide +kernel
theorem own_pn4 : plainName "java/lang/StringLatin1" = true := by first | (simp [plainName, overriddenIn]; done) | decide +kernel
theorem own_pd9 : parseMethodDescriptor "(III)V" = some ⟨[.int, .int, .int], none⟩ := by decide +kernel
theorem own_pd10 : parseMethodDescriptor "()Z" = some ⟨[], some .boolean⟩ := by decide +kernel
theorem own_pd11 : parseMethodDescriptor "([BII)Ljava/lang/String;" = some ⟨[(.array .byte), .int, .int], some (.object "java/lang/String")⟩ := by decide +kernel
theorem own_pd12 : parseMethodDescriptor "(II)Ljava/lang/String;" = some ⟨[.int, .int], some (.object "java/lang/String")⟩ := by decide +kernel
theorem own_pd13 : parseMethodDescriptor "(Ljava/lang/String;)Z" = some ⟨[(.object "java/lang/String")], some .boolean⟩ := by decide +kernel
theorem own_pn5 : plainName "com/example/feedwright/feedwright/http/EntityTags" = true := by first | (simp [plainName, overriddenIn]; done) | decide +kernel
theorem own_pd14 : parseMethodDescriptor "(I)Ljava/lang/String;" = some ⟨[.int], some (.object "java/lang/String")⟩ := by decide +kernel
theorem own_pd15 : parseMethodDescriptor "(Ljava/lang/String;)Ljava/lang/String;" = some ⟨[(.object "java/lang/String")], some (.object "java/lang/String")⟩ := by decide +kernel
theorem own_pd16 : parseMethodDescriptor "(Ljava/lang/Object;)Z" = some ⟨[(.object "java/lang/Object")], some .boolean⟩ := by decide +kernel
theorem own_pn6 : plainName "com/example/feedwright/feedwright/http/EntityTagsMatchWeaklyPinLaw" = true := by first | (simp [plainName, overriddenIn]; done) | decide +kernel
theorem own_pd17 : parseMethodDescriptor "([C)V" = some ⟨[(.array .char)], none⟩ := by decide +kernel
theorem own_pd18 : parseMethodDescriptor "(I)C" = some ⟨[.int], some .char⟩ := by decide +kernel
theorem own_pd19 : parseMethodDescriptor "(ZZCC)Ljava/lang/String;" = some ⟨[.boolean, .boolean, .char, .char], some (.object "java/lang/String")⟩ := by decide +kernel
theorem own_pd20 : parseMethodDescriptor "(Ljava/lang/String;Ljava/lang/String;)Z" = some ⟨[(.object "java/lang/String"), (.object "java/lang/String")], some .boolean⟩ := by decide +kernel
abbrev EL : List (String × Nat) := [("com/example/feedwright/feedwright/http/EntityTags", 25)]
theorem own_EW {Z : State} {a0 : Array Value} (hw : ∀ d ∈ tables_1, d.before a0 Z = true) : EW Z a0 EL := (EW.cons (hw _ (List.mem_of_getElem? (i := 47) rfl)) (by decide +kernel) EW.nil)
theorem own_arv_eq {Z : State} {h : Heap} {a : Addr} {k : ClassId} {ty : FieldType} {z : Int32} {vs vs' : List Value} {dv : Value} (F : Arv Z h a k ty z vs dv) (e : vs = vs') : Arv Z h a k ty z vs' dv := e ▸ F
/-- the bytes of Latin-1 chars -/
abbrev own_by (cs : List Int32) : List Value := (cs.map fun c => c.toInt8.toInt32).map Value.int
/-- x is a Latin-1 String of the chars cs -/
def own_Lat (Z : State) (h : Heap) (x : Addr) (cs : List Int32) : Prop := Exa Z h x "java/lang/String" ∧ Fld Z h x "java/lang/String" "coder" "B" (.int (0 : Int32)) ∧ (∀ c ∈ cs, ¬ c < 0 ∧ ¬ (255 : Int32) < c) ∧ cs.length ≤ 4000 ∧ ∃ (t : Addr) (kb : ClassId), Fld Z h x "java/lang/String" "value" "[B" (.ref t) ∧ Arv Z h t kb .byte (Int32.ofNat cs.length) (own_by cs) (.int (0 : Int32))
theorem own_Lat.keep0 {Z : State} {h h' : Heap} {x : Addr} {cs : List Int32} (H : own_Lat Z h x cs) (K : Keep h h' []) : own_Lat Z h' x cs := by
  obtain ⟨E, C, p, l, t, kb, V, A⟩ := H
  exact ⟨E.keep K, C.keep K nin0, p, l, t, kb, V.keep K nin0, A.keep K nin0⟩
theorem own_up (cs : List Int32) (h : ∀ c ∈ cs, ¬ c < 0 ∧ ¬ (255 : Int32) < c) : ∀ c ∈ cs, ¬ c < 0 ∧ ¬ (65535 : Int32) < c := fun c hc => ⟨(h c hc).1, fun q => (h c hc).2 (by rw [Int32.lt_iff_toInt_lt] at q ⊢; have e1 : (65535 : Int32).toInt = 65535 := rfl; have e2 : (255 : Int32).toInt = 255 := rfl; omega)⟩
theorem own_lo8 {a b : Int32} (ha : ¬ a < 0 ∧ ¬ (255 : Int32) < a) (hb : ¬ b < 0 ∧ ¬ (255 : Int32) < b) (h : a.toInt8.toInt32 = b.toInt8.toInt32) : a = b := StrChars.lo8_inj ha.1 ha.2 hb.1 hb.2 h
theorem own_drop (cs : List Int32) (k : Nat) : own_by (cs.drop k) = (List.range (cs.length - k)).map fun i => (own_by cs).getD (k + i) (.int (0 : Int32)) := by
  apply List.ext_getElem
  · simp
  · intro i h1 h2
    simp at h1
    simp [List.getD_eq_getElem?_getD, List.getElem?_map, List.getElem?_eq_getElem (show k + i < cs.length by omega)]
theorem own_and255 (x : Int32) : ¬ ((x &&& (255 : Int32)).toUInt32.toUInt16.toUInt32.toInt32) < 0 ∧ ¬ (255 : Int32) < ((x &&& (255 : Int32)).toUInt32.toUInt16.toUInt32.toInt32) := by
  have t : ∀ k : Fin 256, ¬ ((Int32.ofNat k.val).toUInt32.toUInt16.toUInt32.toInt32) < 0 ∧ ¬ (255 : Int32) < ((Int32.ofNat k.val).toUInt32.toUInt16.toUInt32.toInt32) := by decide +kernel
  have h : (x &&& 255).toBitVec.toNat < 256 := by
    simp only [Int32.toBitVec_and, BitVec.toNat_and]
    exact Nat.lt_succ_of_le Nat.and_le_right
  have e : (x &&& 255) = Int32.ofNat (x &&& 255).toBitVec.toNat := by
    apply Int32.toBitVec_inj.mp
    show _ = BitVec.ofNat 32 _
    rw [BitVec.ofNat_toNat]; simp
  rw [e]
  exact t ⟨_, h⟩
theorem own_nar {x : Int32} (h : ¬ x < 0 ∧ ¬ (255 : Int32) < x) : nar .char x = x := by
  have q : narrow .char (.int x) = .int x := StrChars.narrow_ch h.1 (fun q => h.2 (by rw [Int32.lt_iff_toInt_lt] at q ⊢; have e1 : (65535 : Int32).toInt = 65535 := rfl; have e2 : (255 : Int32).toInt = 255 := rfl; omega))
  have q2 : narrow .char (.int x) = .int (nar .char x) := rfl
  rw [q2] at q
  exact Value.int.inj q
theorem d0_0 : decode jdk_42_method_152_code 0 = .ok (.getstatic 38, 3) := by decide +kernel
theorem d0_3 : decode jdk_42_method_152_code 3 = .ok (.ifCond .eq 10, 3) := by decide +kernel
theorem d0_6 : decode jdk_42_method_152_code 6 = .ok (.aload_n 0, 1) := by decide +kernel
theorem d0_7 : decode jdk_42_method_152_code 7 = .ok (.getfield 15, 3) := by decide +kernel
theorem d0_10 : decode jdk_42_method_152_code 10 = .ok (.goto 4, 3) := by decide +kernel
theorem d0_14 : decode jdk_42_method_152_code 14 = .ok (.ireturn, 1) := by decide +kernel
def Q_own_coder (Z : State) (x : Addr) (z : Int32) (h0 : Heap) (n0 : Nat) (v : Option Value) (h : Heap) (L : List Loc) : Prop := v = some (.int 0) ∧ Fr n0 L ∧ h = h0
set_option maxRecDepth 65536 in
set_option maxHeartbeats 40000000 in
theorem own_coder (l : Launch) (Z : State) (a0 : Array Value) (hw : ∀ d ∈ tables_1, d.before a0 Z = true) (x : Addr) (z : Int32) (h0 : Heap) (n0 : Nat) (Z0 : n0 ≤ h0.size) (X00 : Old Z n0 h0) (O2 : Sta Z Z.heap "java/lang/String" "COMPACT_STRINGS" "Z" (.int z)) (P5 : ¬ z = 0) (C : Fld Z h0 x "java/lang/String" "coder" "B" (.int (0 : Int32))) :
    MetFree l (⟨"java/lang/String", "coder", "()B"⟩ : MethodName) (head1 [Jvm.Cond.code (⟨"java/lang/String", "coder", "()B"⟩ : MethodName) jdk_42_method_152_code 1 (some .byte)] ({ frames := 0, cells := 0, slots := 0, locals := 0 } : Room)) (fun a_ U_ => a_ = #[(.ref x)] ∧ Z.Warmed39 U_.vm ∧ U_.heap = h0) (fun _ _ _ _ _ => True) (fun _ U_ o_ V_ => ∃ v_ L_, o_ = .returned v_ ∧ Q_own_coder Z x z h0 n0 v_ V_.heap L_ ∧ FrameEnd U_ o_ V_ L_ ({ frames := 0, cells := 0, slots := 0, locals := 0 } : Room).cells ({ frames := 0, cells := 0, slots := 0, locals := 0 } : Room).slots) := by
  refine MetFree.of_bodySF (plainFor_of_name own_pn0) hisR ?_
  intro p e s m args below meth c s₁ Bd hml0 hP hK
  obtain ⟨rfl, hZ, hh⟩ := hP
  have hx := Bd.exec
  have hby := Bd.bytes
  have hml : c.maxLocals = 1 := hml0
  have hown : s.vm.findClass "java/lang/String" = some m.cls := findClass_of_methodNamed Bd.named
  have hnm := (name_of_methodNamed Bd.named Bd.method).1
  have X0 : Stand p l e ({ frames := 0, cells := 0, slots := 0, locals := 0 } : Room) s m #[(.ref x)] below meth c s₁ [] 0 0 := Stand.of_body Bd
  have e0 : s₁.heap = h0 := by rw [← hh, Bd.state]; rfl
  have N0 := Fr.nil n0
  have KK0 := Keep.refl h0 ([] : List Addr)
  have cc0 : Steps p.tables e below (s₁.setTop (entryFrame m #[(.ref x)] 1)) (s₁.setTop (mkF m 0 #[.val (.ref x)] [])) := XT.entry rfl
  obtain ⟨S0', hS0'⟩ : ∃ S, S = (s₁.setTop (entryFrame m #[(.ref x)] 1)) := ⟨_, rfl⟩
  rw [← hS0'] at cc0
  obtain ⟨T21, X21, e21, st21⟩ := getS2 X0 hx hZ hown (host := "") (Or.inl (hw _ (List.mem_of_getElem? (i := 21) rfl))) Via.refl e0 (O2.ext X00.2) (g := (mkF m 0 #[.val (.ref x)] [])) rfl (own_d hby d0_0)
  have cc22 : Steps p.tables e below S0' (T21.setTop (mkF m 7 #[.val (.ref x)] [(.ref x)])) := Steps.trans (cc0.trans (st21 _ (Steps.refl _))) (by
    refine XS.ifNo X21.here hx rfl (own_d hby d0_3) rfl (i0_eq_f P5) ?_
    refine XS.aloadN X21.here hx rfl (own_d hby d0_6) rfl rfl ?_
    exact Steps.refl _)
  obtain ⟨T23, X23, e23, st23⟩ := getF X21 hx hZ hown (host := "") (Or.inl (hw _ (List.mem_of_getElem? (i := 33) rfl))) Via.refl e21 C (g := (mkF m 7 #[.val (.ref x)] [(.ref x)])) rfl rfl (own_d hby d0_7)
  have cc24 : Steps p.tables e below S0' (T23.setTop (mkF m 14 #[.val (.ref x)] [(.int (0 : Int32))])) := Steps.trans (cc22.trans (st23 _ (Steps.refl _))) (by
    refine XS.goto X23.here hx rfl (pc0 := 10) rfl (own_d hby d0_10) (by decide) rfl ?_
    exact Steps.refl _)
  have cE := cc24
  rw [hS0'] at cE
  obtain ⟨fs, hr_, hrun, hended, hW, hsame⟩ := X23.leave (v := some (.int (0 : Int32))) (fun h => by rw [Bd.returns] at h; cases h)
  refine ⟨_, _, cE.trans (X23.ireturnOut hx Bd.returns (rfl) (by simp) (own_d hby d0_14) hr_), hrun, hended, _, _, rfl, ?_, ⟨_, rfl⟩, hW, hsame.mono (by first | decide | omega) (by first | decide | omega)⟩
  show Q_own_coder Z x z h0 n0 _ T23.heap _
  rw [e23]
  exact ⟨rfl, N0, rfl⟩
theorem d1_0 : decode jdk_42_method_154_code 0 = .ok (.getstatic 38, 3) := by decide +kernel
theorem d1_3 : decode jdk_42_method_154_code 3 = .ok (.ifCond .eq 14, 3) := by decide +kernel
theorem d1_6 : decode jdk_42_method_154_code 6 = .ok (.aload_n 0, 1) := by decide +kernel
theorem d1_7 : decode jdk_42_method_154_code 7 = .ok (.getfield 15, 3) := by decide +kernel
theorem d1_10 : decode jdk_42_method_154_code 10 = .ok (.ifCond .ne 7, 3) := by decide +kernel
theorem d1_13 : decode jdk_42_method_154_code 13 = .ok (.iconst 1, 1) := by decide +kernel
theorem d1_14 : decode jdk_42_method_154_code 14 = .ok (.goto 4, 3) := by decide +kernel
theorem d1_18 : decode jdk_42_method_154_code 18 = .ok (.ireturn, 1) := by decide +kernel
def Q_own_isL (Z : State) (x : Addr) (z : Int32) (h0 : Heap) (n0 : Nat) (v : Option Value) (h : Heap) (L : List Loc) : Prop := v = some (.int 1) ∧ Fr n0 L ∧ h = h0
set_option maxRecDepth 65536 in
set_option maxHeartbeats 40000000 in
theorem own_isL (l : Launch) (Z : State) (a0 : Array Value) (hw : ∀ d ∈ tables_1, d.before a0 Z = true) (x : Addr) (z : Int32) (h0 : Heap) (n0 : Nat) (Z0 : n0 ≤ h0.size) (X00 : Old Z n0 h0) (O2 : Sta Z Z.heap "java/lang/String" "COMPACT_STRINGS" "Z" (.int z)) (P5 : ¬ z = 0) (C : Fld Z h0 x "java/lang/String" "coder" "B" (.int (0 : Int32))) :
    MetFree l (⟨"java/lang/String", "isLatin1", "()Z"⟩ : MethodName) (head1 [Jvm.Cond.code (⟨"java/lang/String", "isLatin1", "()Z"⟩ : MethodName) jdk_42_method_154_code 1 (some .boolean)] ({ frames := 0, cells := 0, slots := 0, locals := 0 } : Room)) (fun a_ U_ => a_ = #[(.ref x)] ∧ Z.Warmed39 U_.vm ∧ U_.heap = h0) (fun _ _ _ _ _ => True) (fun _ U_ o_ V_ => ∃ v_ L_, o_ = .returned v_ ∧ Q_own_isL Z x z h0 n0 v_ V_.heap L_ ∧ FrameEnd U_ o_ V_ L_ ({ frames := 0, cells := 0, slots := 0, locals := 0 } : Room).cells ({ frames := 0, cells := 0, slots := 0, locals := 0 } : Room).slots) := by
  refine MetFree.of_bodySF (plainFor_of_name own_pn0) hisR ?_
  intro p e s m args below meth c s₁ Bd hml0 hP hK
  obtain ⟨rfl, hZ, hh⟩ := hP
  have hx := Bd.exec
  have hby := Bd.bytes
  have hml : c.maxLocals = 1 := hml0
  have hown : s.vm.findClass "java/lang/String" = some m.cls := findClass_of_methodNamed Bd.named
  have hnm := (name_of_methodNamed Bd.named Bd.method).1
  have X0 : Stand p l e ({ frames := 0, cells := 0, slots := 0, locals := 0 } : Room) s m #[(.ref x)] below meth c s₁ [] 0 0 := Stand.of_body Bd
  have e0 : s₁.heap = h0 := by rw [← hh, Bd.state]; rfl
  have N0 := Fr.nil n0
  have KK0 := Keep.refl h0 ([] : List Addr)
  have cc0 : Steps p.tables e below (s₁.setTop (entryFrame m #[(.ref x)] 1)) (s₁.setTop (mkF m 0 #[.val (.ref x)] [])) := XT.entry rfl
  obtain ⟨S0', hS0'⟩ : ∃ S, S = (s₁.setTop (entryFrame m #[(.ref x)] 1)) := ⟨_, rfl⟩
  rw [← hS0'] at cc0
  obtain ⟨T21, X21, e21, st21⟩ := getS2 X0 hx hZ hown (host := "") (Or.inl (hw _ (List.mem_of_getElem? (i := 21) rfl))) Via.refl e0 (O2.ext X00.2) (g := (mkF m 0 #[.val (.ref x)] [])) rfl (own_d hby d1_0)
  have cc22 : Steps p.tables e below S0' (T21.setTop (mkF m 7 #[.val (.ref x)] [(.ref x)])) := Steps.trans (cc0.trans (st21 _ (Steps.refl _))) (by
    refine XS.ifNo X21.here hx rfl (own_d hby d1_3) rfl (i0_eq_f P5) ?_
    refine XS.aloadN X21.here hx rfl (own_d hby d1_6) rfl rfl ?_
    exact Steps.refl _)
  obtain ⟨T23, X23, e23, st23⟩ := getF X21 hx hZ hown (host := "") (Or.inl (hw _ (List.mem_of_getElem? (i := 33) rfl))) Via.refl e21 C (g := (mkF m 7 #[.val (.ref x)] [(.ref x)])) rfl rfl (own_d hby d1_7)
  have cc24 : Steps p.tables e below S0' (T23.setTop (mkF m 18 #[.val (.ref x)] [(.int 1)])) := Steps.trans (cc22.trans (st23 _ (Steps.refl _))) (by
    refine XS.ifNo X23.here hx rfl (own_d hby d1_10) rfl (i0_ne_f rfl) ?_
    refine iconstV X23.here hx rfl 1 (own_d hby d1_13) (by decide) ?_
    refine XS.goto X23.here hx rfl (pc0 := 14) rfl (own_d hby d1_14) (by decide) rfl ?_
    exact Steps.refl _)
  have cE := cc24
  rw [hS0'] at cE
  obtain ⟨fs, hr_, hrun, hended, hW, hsame⟩ := X23.leave (v := some (.int 1)) (fun h => by rw [Bd.returns] at h; cases h)
  refine ⟨_, _, cE.trans (X23.ireturnOut hx Bd.returns (rfl) (by simp) (own_d hby d1_18) hr_), hrun, hended, _, _, rfl, ?_, ⟨_, rfl⟩, hW, hsame.mono (by first | decide | omega) (by first | decide | omega)⟩
  show Q_own_isL Z x z h0 n0 _ T23.heap _
  rw [e23]
  exact ⟨rfl, N0, rfl⟩
theorem d2_0 : decode jdk_48_method_14_code 0 = .ok (.iconst 0, 1) := by decide +kernel
theorem d2_1 : decode jdk_48_method_14_code 1 = .ok (.istore 5, 2) := by decide +kernel
theorem d2_3 : decode jdk_48_method_14_code 3 = .ok (.iload 4, 2) := by decide +kernel
theorem d2_5 : decode jdk_48_method_14_code 5 = .ok (.bipush 7, 2) := by decide +kernel
theorem d2_7 : decode jdk_48_method_14_code 7 = .ok (.if_icmp .le 63, 3) := by decide +kernel
theorem d2_70 : decode jdk_48_method_14_code 70 = .ok (.iload 5, 2) := by decide +kernel
theorem d2_72 : decode jdk_48_method_14_code 72 = .ok (.iload 4, 2) := by decide +kernel
theorem d2_74 : decode jdk_48_method_14_code 74 = .ok (.if_icmp .ge 27, 3) := by decide +kernel
theorem d2_77 : decode jdk_48_method_14_code 77 = .ok (.aload_n 0, 1) := by decide +kernel
theorem d2_78 : decode jdk_48_method_14_code 78 = .ok (.iload_n 1, 1) := by decide +kernel
theorem d2_79 : decode jdk_48_method_14_code 79 = .ok (.iload 5, 2) := by decide +kernel
theorem d2_81 : decode jdk_48_method_14_code 81 = .ok (.iadd, 1) := by decide +kernel
theorem d2_82 : decode jdk_48_method_14_code 82 = .ok (.baload, 1) := by decide +kernel
theorem d2_83 : decode jdk_48_method_14_code 83 = .ok (.aload_n 2, 1) := by decide +kernel
theorem d2_84 : decode jdk_48_method_14_code 84 = .ok (.iload_n 3, 1) := by decide +kernel
theorem d2_85 : decode jdk_48_method_14_code 85 = .ok (.iload 5, 2) := by decide +kernel
theorem d2_87 : decode jdk_48_method_14_code 87 = .ok (.iadd, 1) := by decide +kernel
theorem d2_88 : decode jdk_48_method_14_code 88 = .ok (.baload, 1) := by decide +kernel
theorem d2_89 : decode jdk_48_method_14_code 89 = .ok (.if_icmp .eq 6, 3) := by decide +kernel
theorem d2_92 : decode jdk_48_method_14_code 92 = .ok (.iload 5, 2) := by decide +kernel
theorem d2_94 : decode jdk_48_method_14_code 94 = .ok (.ireturn, 1) := by decide +kernel
theorem d2_95 : decode jdk_48_method_14_code 95 = .ok (.iinc 5 1, 3) := by decide +kernel
theorem d2_98 : decode jdk_48_method_14_code 98 = .ok (.goto (-28), 3) := by decide +kernel
theorem d2_101 : decode jdk_48_method_14_code 101 = .ok (.iconst (-1), 1) := by decide +kernel
theorem d2_102 : decode jdk_48_method_14_code 102 = .ok (.ireturn, 1) := by decide +kernel
def Q_own_mm (Z : State) (a b : Addr) (ka kb : ClassId) (n : Nat) (u0 u1 w0 w1 : Int32) (us : List Value) (h0 : Heap) (n0 : Nat) (v : Option Value) (h : Heap) (L : List Loc) : Prop := ∃ r : Int32, v = some (.int r) ∧ Fr n0 L ∧ h = h0 ∧ (r < 0 ∧ u0 = w0 ∧ u1 = w1 ∨ ¬ r < 0 ∧ ¬ (u0 = w0 ∧ u1 = w1))
set_option maxRecDepth 65536 in
set_option maxHeartbeats 40000000 in
theorem own_mm (l : Launch) (Z : State) (a0 : Array Value) (hw : ∀ d ∈ tables_1, d.before a0 Z = true) (a b : Addr) (ka kb : ClassId) (n : Nat) (u0 u1 w0 w1 : Int32) (us : List Value) (h0 : Heap) (n0 : Nat) (Z0 : n0 ≤ h0.size) (hn : 2 ≤ n) (hn2 : n ≤ 4000) (A : Arv Z h0 a ka .byte (Int32.ofNat n) (.int u0 :: .int u1 :: us) (.int (0 : Int32))) (Bb : Arv Z h0 b kb .byte (2 : Int32) [.int w0, .int w1] (.int (0 : Int32))) :
    MetFree l (⟨"jdk/internal/util/ArraysSupport", "mismatch", "([BI[BII)I"⟩ : MethodName) (head1 [Jvm.Cond.code (⟨"jdk/internal/util/ArraysSupport", "mismatch", "([BI[BII)I"⟩ : MethodName) jdk_48_method_14_code 8 (some .int)] ({ frames := 0, cells := 0, slots := 0, locals := 0 } : Room)) (fun a_ U_ => a_ = #[(.ref a), (.int 0), (.ref b), (.int 0), (.int 2)] ∧ Z.Warmed39 U_.vm ∧ U_.heap = h0) (fun _ _ _ _ _ => True) (fun _ U_ o_ V_ => ∃ v_ L_, o_ = .returned v_ ∧ Q_own_mm Z a b ka kb n u0 u1 w0 w1 us h0 n0 v_ V_.heap L_ ∧ FrameEnd U_ o_ V_ L_ ({ frames := 0, cells := 0, slots := 0, locals := 0 } : Room).cells ({ frames := 0, cells := 0, slots := 0, locals := 0 } : Room).slots) := by
  refine MetFree.of_bodySF (plainFor_of_name own_pn1) hisR ?_
  intro p e s m args below meth c s₁ Bd hml0 hP hK
  obtain ⟨rfl, hZ, hh⟩ := hP
  have hx := Bd.exec
  have hby := Bd.bytes
  have hml : c.maxLocals = 8 := hml0
  have hown : s.vm.findClass "jdk/internal/util/ArraysSupport" = some m.cls := findClass_of_methodNamed Bd.named
  have hnm := (name_of_methodNamed Bd.named Bd.method).1
  have X0 : Stand p l e ({ frames := 0, cells := 0, slots := 0, locals := 0 } : Room) s m #[(.ref a), (.int 0), (.ref b), (.int 0), (.int 2)] below meth c s₁ [] 0 0 := Stand.of_body Bd
  have e0 : s₁.heap = h0 := by rw [← hh, Bd.state]; rfl
  have N0 := Fr.nil n0
  have KK0 := Keep.refl h0 ([] : List Addr)
  have cc0 : Steps p.tables e below (s₁.setTop (entryFrame m #[(.ref a), (.int 0), (.ref b), (.int 0), (.int 2)] 8)) (s₁.setTop (mkF m 0 #[.val (.ref a), .val (.int 0), .val (.ref b), .val (.int 0), .val (.int 2), .unset, .unset, .unset] [])) := XT.entry rfl
  obtain ⟨S0', hS0'⟩ : ∃ S, S = (s₁.setTop (entryFrame m #[(.ref a), (.int 0), (.ref b), (.int 0), (.int 2)] 8)) := ⟨_, rfl⟩
  rw [← hS0'] at cc0
  have cc21 : Steps p.tables e below S0' (s₁.setTop (mkF m 82 #[.val (.ref a), .val (.int 0), .val (.ref b), .val (.int 0), .val (.int 2), .val (.int 0), .unset, .unset] [(.int ((0 : Int32) + (0 : Int32))), (.ref a)])) := Steps.trans cc0 (by
    refine iconstV X0.here hx rfl 0 (own_d hby d2_0) (by decide) ?_
    refine XS.istore X0.here hx rfl (own_d hby d2_1) rfl rfl ?_
    refine XS.iload X0.here hx rfl (own_d hby d2_3) rfl ?_
    refine bipushV X0.here hx rfl 7 (own_d hby d2_5) (by decide) ?_
    refine XS.icmpYes X0.here hx rfl (pc0 := 7) rfl (own_d hby d2_7) rfl (ii_le_t (by decide)) (by decide) rfl ?_
    refine XS.iload X0.here hx rfl (own_d hby d2_70) rfl ?_
    refine XS.iload X0.here hx rfl (own_d hby d2_72) rfl ?_
    refine XS.icmpNo X0.here hx rfl (own_d hby d2_74) rfl (ii_ge_f (by decide)) ?_
    refine XS.aloadN X0.here hx rfl (own_d hby d2_77) rfl rfl ?_
    refine XS.iloadN X0.here hx rfl (own_d hby d2_78) rfl ?_
    refine XS.iload X0.here hx rfl (own_d hby d2_79) rfl ?_
    refine XS.iadd X0.here hx rfl (own_d hby d2_81) rfl ?_
    exact Steps.refl _)
  obtain ⟨clu22, Aru22, qu22, Su22, Ngu22, Hsu22, Gsu22⟩ := id A
  have inu22 : ¬ ((0 : Int32) + (0 : Int32) < 0 ∨ clu22.slots.size ≤ ((0 : Int32) + (0 : Int32)).toNatClampNeg) := inb_of Su22 ⟨by decide, lt32 (a := 0) (by omega) (by omega)⟩
  have atu22 : clu22.slots[((0 : Int32) + (0 : Int32)).toNatClampNeg]? = some (.int u0) := Hsu22.at inu22 rfl
  have cc23 : Steps p.tables e below S0' (s₁.setTop (mkF m 88 #[.val (.ref a), .val (.int 0), .val (.ref b), .val (.int 0), .val (.int 2), .val (.int 0), .unset, .unset] [(.int ((0 : Int32) + (0 : Int32))), (.ref b), (.int u0)])) := Steps.trans cc21 (by
    refine X0.baloadBytes hx (j := (0 : Int32) + (0 : Int32)) (v := (.int u0)) (by rw [e0]; exact Aru22.1) (State.isArrayOf_alike (hZ).alike Aru22.2.1) Aru22.2.2 inu22 atu22 (g := (mkF m 82 #[.val (.ref a), .val (.int 0), .val (.ref b), .val (.int 0), .val (.int 2), .val (.int 0), .unset, .unset] [(.int ((0 : Int32) + (0 : Int32))), (.ref a)])) rfl rfl (own_d hby d2_82) _ ?_
    refine XS.aloadN X0.here hx rfl (own_d hby d2_83) rfl rfl ?_
    refine XS.iloadN X0.here hx rfl (own_d hby d2_84) rfl ?_
    refine XS.iload X0.here hx rfl (own_d hby d2_85) rfl ?_
    refine XS.iadd X0.here hx rfl (own_d hby d2_87) rfl ?_
    exact Steps.refl _)
  obtain ⟨clu24, Aru24, qu24, Su24, Ngu24, Hsu24, Gsu24⟩ := id Bb
  have inu24 : ¬ ((0 : Int32) + (0 : Int32) < 0 ∨ clu24.slots.size ≤ ((0 : Int32) + (0 : Int32)).toNatClampNeg) := inb_of Su24 ⟨by decide, by decide⟩
  have atu24 : clu24.slots[((0 : Int32) + (0 : Int32)).toNatClampNeg]? = some (.int w0) := Hsu24.at inu24 rfl
  have cc25 : Steps p.tables e below S0' (s₁.setTop (mkF m 89 #[.val (.ref a), .val (.int 0), .val (.ref b), .val (.int 0), .val (.int 2), .val (.int 0), .unset, .unset] [(.int w0), (.int u0)])) := Steps.trans cc23 (by
    refine X0.baloadBytes hx (j := (0 : Int32) + (0 : Int32)) (v := (.int w0)) (by rw [e0]; exact Aru24.1) (State.isArrayOf_alike (hZ).alike Aru24.2.1) Aru24.2.2 inu24 atu24 (g := (mkF m 88 #[.val (.ref a), .val (.int 0), .val (.ref b), .val (.int 0), .val (.int 2), .val (.int 0), .unset, .unset] [(.int ((0 : Int32) + (0 : Int32))), (.ref b), (.int u0)])) rfl rfl (own_d hby d2_88) _ ?_
    exact Steps.refl _)
  by_cases q0 : u0 = w0
  · skip
    have cc26 : Steps p.tables e below S0' (s₁.setTop (mkF m 82 #[.val (.ref a), .val (.int 0), .val (.ref b), .val (.int 0), .val (.int 2), .val (.int (0 + 1)), .unset, .unset] [(.int ((0 : Int32) + (0 + 1))), (.ref a)])) := Steps.trans cc25 (by
      refine XS.icmpYes X0.here hx rfl (pc0 := 89) rfl (own_d hby d2_89) rfl (ii_eq_t q0) (by decide) rfl ?_
      refine iincV X0.here hx rfl 1 (own_d hby d2_95) (by decide) rfl rfl ?_
      refine XS.goto X0.here hx rfl (pc0 := 98) rfl (own_d hby d2_98) (by decide) rfl ?_
      refine XS.iload X0.here hx rfl (own_d hby d2_70) rfl ?_
      refine XS.iload X0.here hx rfl (own_d hby d2_72) rfl ?_
      refine XS.icmpNo X0.here hx rfl (own_d hby d2_74) rfl (ii_ge_f (by decide)) ?_
      refine XS.aloadN X0.here hx rfl (own_d hby d2_77) rfl rfl ?_
      refine XS.iloadN X0.here hx rfl (own_d hby d2_78) rfl ?_
      refine XS.iload X0.here hx rfl (own_d hby d2_79) rfl ?_
      refine XS.iadd X0.here hx rfl (own_d hby d2_81) rfl ?_
      exact Steps.refl _)
    obtain ⟨clu27, Aru27, qu27, Su27, Ngu27, Hsu27, Gsu27⟩ := id A
    have inu27 : ¬ ((0 : Int32) + (0 + 1) < 0 ∨ clu27.slots.size ≤ ((0 : Int32) + (0 + 1)).toNatClampNeg) := inb_of Su27 ⟨by decide, lt32 (a := 1) (by omega) (by omega)⟩
    have atu27 : clu27.slots[((0 : Int32) + (0 + 1)).toNatClampNeg]? = some (.int u1) := Hsu27.at inu27 rfl
    have cc28 : Steps p.tables e below S0' (s₁.setTop (mkF m 88 #[.val (.ref a), .val (.int 0), .val (.ref b), .val (.int 0), .val (.int 2), .val (.int (0 + 1)), .unset, .unset] [(.int ((0 : Int32) + (0 + 1))), (.ref b), (.int u1)])) := Steps.trans cc26 (by
      refine X0.baloadBytes hx (j := (0 : Int32) + (0 + 1)) (v := (.int u1)) (by rw [e0]; exact Aru27.1) (State.isArrayOf_alike (hZ).alike Aru27.2.1) Aru27.2.2 inu27 atu27 (g := (mkF m 82 #[.val (.ref a), .val (.int 0), .val (.ref b), .val (.int 0), .val (.int 2), .val (.int (0 + 1)), .unset, .unset] [(.int ((0 : Int32) + (0 + 1))), (.ref a)])) rfl rfl (own_d hby d2_82) _ ?_
      refine XS.aloadN X0.here hx rfl (own_d hby d2_83) rfl rfl ?_
      refine XS.iloadN X0.here hx rfl (own_d hby d2_84) rfl ?_
      refine XS.iload X0.here hx rfl (own_d hby d2_85) rfl ?_
      refine XS.iadd X0.here hx rfl (own_d hby d2_87) rfl ?_
      exact Steps.refl _)
    obtain ⟨clu29, Aru29, qu29, Su29, Ngu29, Hsu29, Gsu29⟩ := id Bb
    have inu29 : ¬ ((0 : Int32) + (0 + 1) < 0 ∨ clu29.slots.size ≤ ((0 : Int32) + (0 + 1)).toNatClampNeg) := inb_of Su29 ⟨by decide, by decide⟩
    have atu29 : clu29.slots[((0 : Int32) + (0 + 1)).toNatClampNeg]? = some (.int w1) := Hsu29.at inu29 rfl
    have cc30 : Steps p.tables e below S0' (s₁.setTop (mkF m 89 #[.val (.ref a), .val (.int 0), .val (.ref b), .val (.int 0), .val (.int 2), .val (.int (0 + 1)), .unset, .unset] [(.int w1), (.int u1)])) := Steps.trans cc28 (by
      refine X0.baloadBytes hx (j := (0 : Int32) + (0 + 1)) (v := (.int w1)) (by rw [e0]; exact Aru29.1) (State.isArrayOf_alike (hZ).alike Aru29.2.1) Aru29.2.2 inu29 atu29 (g := (mkF m 88 #[.val (.ref a), .val (.int 0), .val (.ref b), .val (.int 0), .val (.int 2), .val (.int (0 + 1)), .unset, .unset] [(.int ((0 : Int32) + (0 + 1))), (.ref b), (.int u1)])) rfl rfl (own_d hby d2_88) _ ?_
      exact Steps.refl _)
    by_cases q1 : u1 = w1
    · skip
      have cc31 : Steps p.tables e below S0' (s₁.setTop (mkF m 102 #[.val (.ref a), .val (.int 0), .val (.ref b), .val (.int 0), .val (.int 2), .val (.int ((0 + 1) + 1)), .unset, .unset] [(.int (-1))])) := Steps.trans cc30 (by
        refine XS.icmpYes X0.here hx rfl (pc0 := 89) rfl (own_d hby d2_89) rfl (ii_eq_t q1) (by decide) rfl ?_
        refine iincV X0.here hx rfl 1 (own_d hby d2_95) (by decide) rfl rfl ?_
        refine XS.goto X0.here hx rfl (pc0 := 98) rfl (own_d hby d2_98) (by decide) rfl ?_
        refine XS.iload X0.here hx rfl (own_d hby d2_70) rfl ?_
        refine XS.iload X0.here hx rfl (own_d hby d2_72) rfl ?_
        refine XS.icmpYes X0.here hx rfl (pc0 := 74) rfl (own_d hby d2_74) rfl (ii_ge_t (by decide)) (by decide) rfl ?_
        refine iconstV X0.here hx rfl (-1) (own_d hby d2_101) (by decide) ?_
        exact Steps.refl _)
      have cE := cc31
      rw [hS0'] at cE
      obtain ⟨fs, hr_, hrun, hended, hW, hsame⟩ := X0.leave (v := some (.int (-1))) (fun h => by rw [Bd.returns] at h; cases h)
      refine ⟨_, _, cE.trans (X0.ireturnOut hx Bd.returns (rfl) (by simp) (own_d hby d2_102) hr_), hrun, hended, _, _, rfl, ?_, ⟨_, rfl⟩, hW, hsame.mono (by first | decide | omega) (by first | decide | omega)⟩
      show Q_own_mm Z a b ka kb n u0 u1 w0 w1 us h0 n0 _ s₁.heap _
      rw [e0]
      exact ⟨_, rfl, N0, rfl, Or.inl ⟨by decide, q0, q1⟩⟩
    · skip
      have cc31 : Steps p.tables e below S0' (s₁.setTop (mkF m 94 #[.val (.ref a), .val (.int 0), .val (.ref b), .val (.int 0), .val (.int 2), .val (.int (0 + 1)), .unset, .unset] [(.int (0 + 1))])) := Steps.trans cc30 (by
        refine XS.icmpNo X0.here hx rfl (own_d hby d2_89) rfl (ii_eq_f q1) ?_
        refine XS.iload X0.here hx rfl (own_d hby d2_92) rfl ?_
        exact Steps.refl _)
      have cE := cc31
      rw [hS0'] at cE
      obtain ⟨fs, hr_, hrun, hended, hW, hsame⟩ := X0.leave (v := some (.int (0 + 1))) (fun h => by rw [Bd.returns] at h; cases h)
      refine ⟨_, _, cE.trans (X0.ireturnOut hx Bd.returns (rfl) (by simp) (own_d hby d2_94) hr_), hrun, hended, _, _, rfl, ?_, ⟨_, rfl⟩, hW, hsame.mono (by first | decide | omega) (by first | decide | omega)⟩
      show Q_own_mm Z a b ka kb n u0 u1 w0 w1 us h0 n0 _ s₁.heap _
      rw [e0]
      exact ⟨_, rfl, N0, rfl, Or.inr ⟨by decide, fun q => q1 q.2⟩⟩
  · skip
    have cc26 : Steps p.tables e below S0' (s₁.setTop (mkF m 94 #[.val (.ref a), .val (.int 0), .val (.ref b), .val (.int 0), .val (.int 2), .val (.int 0), .unset, .unset] [(.int 0)])) := Steps.trans cc25 (by
      refine XS.icmpNo X0.here hx rfl (own_d hby d2_89) rfl (ii_eq_f q0) ?_
      refine XS.iload X0.here hx rfl (own_d hby d2_92) rfl ?_
      exact Steps.refl _)
    have cE := cc26
    rw [hS0'] at cE
    obtain ⟨fs, hr_, hrun, hended, hW, hsame⟩ := X0.leave (v := some (.int 0)) (fun h => by rw [Bd.returns] at h; cases h)
    refine ⟨_, _, cE.trans (X0.ireturnOut hx Bd.returns (rfl) (by simp) (own_d hby d2_94) hr_), hrun, hended, _, _, rfl, ?_, ⟨_, rfl⟩, hW, hsame.mono (by first | decide | omega) (by first | decide | omega)⟩
    show Q_own_mm Z a b ka kb n u0 u1 w0 w1 us h0 n0 _ s₁.heap _
    rw [e0]
    exact ⟨_, rfl, N0, rfl, Or.inr ⟨by decide, fun q => q0 q.1⟩⟩
theorem d3_0 : decode jdk_42_method_75_code 0 = .ok (.iload_n 2, 1) := by decide +kernel
theorem d3_1 : decode jdk_42_method_75_code 1 = .ok (.ifCond .lt 16, 3) := by decide +kernel
theorem d3_4 : decode jdk_42_method_75_code 4 = .ok (.iload_n 2, 1) := by decide +kernel
theorem d3_5 : decode jdk_42_method_75_code 5 = .ok (.aload_n 0, 1) := by decide +kernel
theorem d3_6 : decode jdk_42_method_75_code 6 = .ok (.invokevirtual 505, 3) := by decide +kernel
theorem d3_9 : decode jdk_42_method_75_code 9 = .ok (.aload_n 1, 1) := by decide +kernel
theorem d3_10 : decode jdk_42_method_75_code 10 = .ok (.invokevirtual 505, 3) := by decide +kernel
theorem d3_13 : decode jdk_42_method_75_code 13 = .ok (.isub, 1) := by decide +kernel
theorem d3_14 : decode jdk_42_method_75_code 14 = .ok (.if_icmp .le 5, 3) := by decide +kernel
theorem d3_19 : decode jdk_42_method_75_code 19 = .ok (.aload_n 0, 1) := by decide +kernel
theorem d3_20 : decode jdk_42_method_75_code 20 = .ok (.getfield 9, 3) := by decide +kernel
theorem d3_23 : decode jdk_42_method_75_code 23 = .ok (.astore_n 3, 1) := by decide +kernel
theorem d3_24 : decode jdk_42_method_75_code 24 = .ok (.aload_n 1, 1) := by decide +kernel
theorem d3_25 : decode jdk_42_method_75_code 25 = .ok (.getfield 9, 3) := by decide +kernel
theorem d3_28 : decode jdk_42_method_75_code 28 = .ok (.astore 4, 2) := by decide +kernel
theorem d3_30 : decode jdk_42_method_75_code 30 = .ok (.iconst 0, 1) := by decide +kernel
theorem d3_31 : decode jdk_42_method_75_code 31 = .ok (.istore 5, 2) := by decide +kernel
theorem d3_33 : decode jdk_42_method_75_code 33 = .ok (.aload 4, 2) := by decide +kernel
theorem d3_35 : decode jdk_42_method_75_code 35 = .ok (.arraylength, 1) := by decide +kernel
theorem d3_36 : decode jdk_42_method_75_code 36 = .ok (.istore 6, 2) := by decide +kernel
theorem d3_38 : decode jdk_42_method_75_code 38 = .ok (.aload_n 0, 1) := by decide +kernel
theorem d3_39 : decode jdk_42_method_75_code 39 = .ok (.invokevirtual 335, 3) := by decide +kernel
theorem d3_42 : decode jdk_42_method_75_code 42 = .ok (.istore 7, 2) := by decide +kernel
theorem d3_44 : decode jdk_42_method_75_code 44 = .ok (.iload 7, 2) := by decide +kernel
theorem d3_46 : decode jdk_42_method_75_code 46 = .ok (.aload_n 1, 1) := by decide +kernel
theorem d3_47 : decode jdk_42_method_75_code 47 = .ok (.invokevirtual 335, 3) := by decide +kernel
theorem d3_50 : decode jdk_42_method_75_code 50 = .ok (.if_icmp .ne 32, 3) := by decide +kernel
theorem d3_53 : decode jdk_42_method_75_code 53 = .ok (.iload 7, 2) := by decide +kernel
theorem d3_55 : decode jdk_42_method_75_code 55 = .ok (.iconst 1, 1) := by decide +kernel
theorem d3_56 : decode jdk_42_method_75_code 56 = .ok (.if_icmp .ne 7, 3) := by decide +kernel
theorem d3_63 : decode jdk_42_method_75_code 63 = .ok (.aload_n 3, 1) := by decide +kernel
theorem d3_64 : decode jdk_42_method_75_code 64 = .ok (.iload_n 2, 1) := by decide +kernel
theorem d3_65 : decode jdk_42_method_75_code 65 = .ok (.aload 4, 2) := by decide +kernel
theorem d3_67 : decode jdk_42_method_75_code 67 = .ok (.iconst 0, 1) := by decide +kernel
theorem d3_68 : decode jdk_42_method_75_code 68 = .ok (.iload 6, 2) := by decide +kernel
theorem d3_70 : decode jdk_42_method_75_code 70 = .ok (.invokestatic 607, 3) := by decide +kernel
theorem d3_73 : decode jdk_42_method_75_code 73 = .ok (.ifCond .ge 7, 3) := by decide +kernel
theorem d3_76 : decode jdk_42_method_75_code 76 = .ok (.iconst 1, 1) := by decide +kernel
theorem d3_77 : decode jdk_42_method_75_code 77 = .ok (.goto 4, 3) := by decide +kernel
theorem d3_80 : decode jdk_42_method_75_code 80 = .ok (.iconst 0, 1) := by decide +kernel
theorem d3_81 : decode jdk_42_method_75_code 81 = .ok (.ireturn, 1) := by decide +kernel
def Q_own_sw2 (Z : State) (x y : Addr) (c0 c1 : Int32) (cs : List Int32) (z : Int32) (h0 : Heap) (n0 : Nat) (v : Option Value) (h : Heap) (L : List Loc) : Prop := ∃ r : Int32, v = some (.int r) ∧ Fr n0 L ∧ h = h0 ∧ (r = 1 ∧ c0 = 87 ∧ c1 = 47 ∨ r = 0 ∧ ¬ (c0 = 87 ∧ c1 = 47))
set_option maxRecDepth 65536 in
set_option maxHeartbeats 40000000 in
theorem own_sw2 (l : Launch) (Z : State) (a0 : Array Value) (hw : ∀ d ∈ tables_1, d.before a0 Z = true) (x y : Addr) (c0 c1 : Int32) (cs : List Int32) (z : Int32) (h0 : Heap) (n0 : Nat) (Z0 : n0 ≤ h0.size) (X00 : Old Z n0 h0) (O2 : Sta Z Z.heap "java/lang/String" "COMPACT_STRINGS" "Z" (.int z)) (P5 : ¬ z = 0) (Hx : own_Lat Z h0 x (c0 :: c1 :: cs)) (Hy : own_Lat Z h0 y [87, 47]) :
    MetFree l (⟨"java/lang/String", "startsWith", "(Ljava/lang/String;I)Z"⟩ : MethodName) (head1 [Jvm.Cond.code (⟨"java/lang/String", "startsWith", "(Ljava/lang/String;I)Z"⟩ : MethodName) jdk_42_method_75_code 8 (some .boolean)] ({ frames := 2, cells := 0, slots := 0, locals := 27 } : Room)) (fun a_ U_ => a_ = #[(.ref x), (.ref y), (.int 0)] ∧ Z.Warmed39 U_.vm ∧ U_.heap = h0) (fun _ _ _ _ _ => True) (fun _ U_ o_ V_ => ∃ v_ L_, o_ = .returned v_ ∧ Q_own_sw2 Z x y c0 c1 cs z h0 n0 v_ V_.heap L_ ∧ FrameEnd U_ o_ V_ L_ ({ frames := 2, cells := 0, slots := 0, locals := 27 } : Room).cells ({ frames := 2, cells := 0, slots := 0, locals := 27 } : Room).slots) := by
  refine MetFree.of_bodySF (plainFor_of_name own_pn0) hisR ?_
  intro p e s m args below meth c s₁ Bd hml0 hP hK
  obtain ⟨rfl, hZ, hh⟩ := hP
  have hx := Bd.exec
  have hby := Bd.bytes
  have hml : c.maxLocals = 8 := hml0
  have hown : s.vm.findClass "java/lang/String" = some m.cls := findClass_of_methodNamed Bd.named
  have hnm := (name_of_methodNamed Bd.named Bd.method).1
  have X0 : Stand p l e ({ frames := 2, cells := 0, slots := 0, locals := 27 } : Room) s m #[(.ref x), (.ref y), (.int 0)] below meth c s₁ [] 0 0 := Stand.of_body Bd
  have e0 : s₁.heap = h0 := by rw [← hh, Bd.state]; rfl
  have N0 := Fr.nil n0
  have KK0 := Keep.refl h0 ([] : List Addr)
  have cc0 : Steps p.tables e below (s₁.setTop (entryFrame m #[(.ref x), (.ref y), (.int 0)] 8)) (s₁.setTop (mkF m 0 #[.val (.ref x), .val (.ref y), .val (.int 0), .unset, .unset, .unset, .unset, .unset] [])) := XT.entry rfl
  obtain ⟨S0', hS0'⟩ : ∃ S, S = (s₁.setTop (entryFrame m #[(.ref x), (.ref y), (.int 0)] 8)) := ⟨_, rfl⟩
  rw [← hS0'] at cc0
  have w_8 := hw _ (List.mem_of_getElem? (i := 8) rfl)
  have w_9 := hw _ (List.mem_of_getElem? (i := 9) rfl)
  have w_35 := hw _ (List.mem_of_getElem? (i := 35) rfl)
  have w_60 := hw _ (List.mem_of_getElem? (i := 60) rfl)
  have w_61 := hw _ (List.mem_of_getElem? (i := 61) rfl)
  have w_62 := hw _ (List.mem_of_getElem? (i := 62) rfl)
  have w_63 := hw _ (List.mem_of_getElem? (i := 63) rfl)
  have w_65 := hw _ (List.mem_of_getElem? (i := 65) rfl)
  have w_66 := hw _ (List.mem_of_getElem? (i := 66) rfl)
  have w_67 := hw _ (List.mem_of_getElem? (i := 67) rfl)
  have w_68 := hw _ (List.mem_of_getElem? (i := 68) rfl)
  have w_69 := hw _ (List.mem_of_getElem? (i := 69) rfl)
  have w_72 := hw _ (List.mem_of_getElem? (i := 72) rfl)
  have w_73 := hw _ (List.mem_of_getElem? (i := 73) rfl)
  have hw_wordsLen : ∀ d ∈ StrChars.Road.wordsLen, d.before a0 Z = true := fun d hd => hw d ((by decide +kernel : ∀ d ∈ StrChars.Road.wordsLen, d ∈ tables_1) d hd)
  obtain ⟨Ex, Cx, px, lx, tx, kx, Vx, Ax⟩ := Hx
  obtain ⟨Ey, Cy, py, ly, ty, ky, Vy, Ay⟩ := Hy
  have cc21 : Steps p.tables e below S0' (s₁.setTop (mkF m 6 #[.val (.ref x), .val (.ref y), .val (.int 0), .unset, .unset, .unset, .unset, .unset] [(.ref x), (.int 0)])) := Steps.trans cc0 (by
    refine XS.iloadN X0.here hx rfl (own_d hby d3_0) rfl ?_
    refine XS.ifNo X0.here hx rfl (own_d hby d3_1) rfl (i0_lt_f (by decide)) ?_
    refine XS.iloadN X0.here hx rfl (own_d hby d3_4) rfl ?_
    refine XS.aloadN X0.here hx rfl (own_d hby d3_5) rfl rfl ?_
    exact Steps.refl _)
  obtain ⟨cq22, kq22, qa22, qb22, qc22⟩ := isOf hZ e0 Ex
  obtain ⟨_, _, ⟨T22, L22, k22, n22⟩, -, X22, ⟨Lc22, hQ22, l22, y22, z22⟩, st22⟩ := X0.virtualBack hx (y := (⟨"java/lang/String", "length", "()I"⟩ : MethodName)) (z := (⟨"java/lang/String", "length", "()I"⟩ : MethodName)) hown (mvT hZ w_60) (mvT hZ w_61) (notFace_of_selects (args := #[]) (mvT hZ w_63)) (mvT hZ w_63) (mvT hZ w_62) (by decide) (StrChars.Road.lenW (W := 1) hZ hw_wordsLen (kI := 4) w_8 Ex Vx Cx Ax (StrChars.Road.codOf (cs := (c0 :: c1 :: cs)) rfl (fun c hc => (px c hc).2)) (own_up _ px) (O2.ext X00.2) P5 lx (by decide) (by decide)) qa22 qc22 (g := (mkF m 6 #[.val (.ref x), .val (.ref y), .val (.int 0), .unset, .unset, .unset, .unset, .unset] [(.ref x), (.int 0)])) rfl (by rw [hml]; rfl) (Steps.refl _) (argsL := []) (rest := [(.int 0)]) (lenOf own_pd0 rfl) rfl (by show 2 * 0 + _ ≤ _; exact Nat.le_of_eq rfl) (own_d hby d3_6) (fun _ _ => ⟨rfl, e0, Nat.le_of_ble_eq_true rfl, Nat.le_of_ble_eq_true rfl⟩)
  dsimp only [Pt.U, Pt.locs, Pt.cells, Pt.slots] at X22 l22 y22 z22 st22 hQ22
  subst l22 y22 z22
  obtain ⟨rfl, rfl, eq22⟩ := hQ22
  have N22 := Fr.app N0 (Fr.nil n0)
  have e22 : T22.heap = h0 := eq22
  have cc23 : Steps p.tables e below S0' (T22.setTop (mkF m 10 #[.val (.ref x), .val (.ref y), .val (.int 0), .unset, .unset, .unset, .unset, .unset] [(.ref y), (.int (Int32.ofNat (c0 :: c1 :: cs).length)), (.int 0)])) := Steps.trans (Steps.trans cc21 st22) (by
    refine XS.aloadN X22.here hx rfl (own_d hby d3_9) rfl rfl ?_
    exact Steps.refl _)
  obtain ⟨cq24, kq24, qa24, qb24, qc24⟩ := isOf hZ e22 Ey
  obtain ⟨_, _, ⟨T24, L24, k24, n24⟩, -, X24, ⟨Lc24, hQ24, l24, y24, z24⟩, st24⟩ := X22.virtualBack hx (y := (⟨"java/lang/String", "length", "()I"⟩ : MethodName)) (z := (⟨"java/lang/String", "length", "()I"⟩ : MethodName)) hown (mvT hZ w_60) (mvT hZ w_61) (notFace_of_selects (args := #[]) (mvT hZ w_63)) (mvT hZ w_63) (mvT hZ w_62) (by decide) (StrChars.Road.lenW (W := 2) hZ hw_wordsLen (kI := 4) w_8 Ey Vy Cy Ay (StrChars.Road.codOf (cs := [87, 47]) rfl (fun c hc => (py c hc).2)) (own_up _ py) (O2.ext X00.2) P5 ly (by decide) (by decide)) qa24 qc24 (g := (mkF m 10 #[.val (.ref x), .val (.ref y), .val (.int 0), .unset, .unset, .unset, .unset, .unset] [(.ref y), (.int (Int32.ofNat (c0 :: c1 :: cs).length)), (.int 0)])) rfl (by rw [hml]; rfl) (Steps.refl _) (argsL := []) (rest := [(.int (Int32.ofNat (c0 :: c1 :: cs).length)), (.int 0)]) (lenOf own_pd0 rfl) rfl (by show 2 * 0 + _ ≤ _; exact Nat.le_of_eq rfl) (own_d hby d3_10) (fun _ _ => ⟨rfl, e22, Nat.le_of_ble_eq_true rfl, Nat.le_of_ble_eq_true rfl⟩)
  dsimp only [Pt.U, Pt.locs, Pt.cells, Pt.slots] at X24 l24 y24 z24 st24 hQ24
  subst l24 y24 z24
  obtain ⟨rfl, rfl, eq24⟩ := hQ24
  have N24 := Fr.app N22 (Fr.nil n0)
  have e24 : T24.heap = h0 := eq24
  have cc25 : Steps p.tables e below S0' (T24.setTop (mkF m 20 #[.val (.ref x), .val (.ref y), .val (.int 0), .unset, .unset, .unset, .unset, .unset] [(.ref x)])) := Steps.trans (Steps.trans cc23 st24) (by
    refine XS.isub X24.here hx rfl (own_d hby d3_13) rfl ?_
    refine XS.icmpYes X24.here hx rfl (pc0 := 14) rfl (own_d hby d3_14) rfl (ii_le_t (by rw [show (Int32.ofNat ([87, 47] : List Int32).length) = Int32.ofNat 2 from rfl, sub32n (by simp)]; exact Int32.ofNat_not_neg (by have := lx; omega))) (by decide) rfl ?_
    refine XS.aloadN X24.here hx rfl (own_d hby d3_19) rfl rfl ?_
    exact Steps.refl _)
  obtain ⟨T26, X26, e26, st26⟩ := getF X24 hx hZ hown (host := "") (Or.inl w_35) Via.refl e24 Vx (g := (mkF m 20 #[.val (.ref x), .val (.ref y), .val (.int 0), .unset, .unset, .unset, .unset, .unset] [(.ref x)])) rfl rfl (own_d hby d3_20)
  have cc27 : Steps p.tables e below S0' (T26.setTop (mkF m 25 #[.val (.ref x), .val (.ref y), .val (.int 0), .val (.ref tx), .unset, .unset, .unset, .unset] [(.ref y)])) := Steps.trans (cc25.trans (st26 _ (Steps.refl _))) (by
    refine XS.astoreN X26.here hx rfl (own_d hby d3_23) rfl rfl rfl ?_
    refine XS.aloadN X26.here hx rfl (own_d hby d3_24) rfl rfl ?_
    exact Steps.refl _)
  obtain ⟨T28, X28, e28, st28⟩ := getF X26 hx hZ hown (host := "") (Or.inl w_35) Via.refl e26 Vy (g := (mkF m 25 #[.val (.ref x), .val (.ref y), .val (.int 0), .val (.ref tx), .unset, .unset, .unset, .unset] [(.ref y)])) rfl rfl (own_d hby d3_25)
  have cc29 : Steps p.tables e below S0' (T28.setTop (mkF m 35 #[.val (.ref x), .val (.ref y), .val (.int 0), .val (.ref tx), .val (.ref ty), .val (.int 0), .unset, .unset] [(.ref ty)])) := Steps.trans (cc27.trans (st28 _ (Steps.refl _))) (by
    refine XS.astore X28.here hx rfl (own_d hby d3_28) rfl rfl rfl ?_
    refine iconstV X28.here hx rfl 0 (own_d hby d3_30) (by decide) ?_
    refine XS.istore X28.here hx rfl (own_d hby d3_31) rfl rfl ?_
    refine XS.aload X28.here hx rfl (own_d hby d3_33) rfl rfl ?_
    exact Steps.refl _)
  obtain ⟨clu30, Aru30, -, Su30, Ngu30, -, -⟩ := id Ay
  have cl_u30 := X28.arraylength hx (by rw [e28]; exact Aru30.1) (State.isArrayOf_alike (hZ).alike Aru30.2.1) (g := (mkF m 35 #[.val (.ref x), .val (.ref y), .val (.int 0), .val (.ref tx), .val (.ref ty), .val (.int 0), .unset, .unset] [(.ref ty)])) rfl rfl (own_d hby d3_35) _ (Steps.refl _)
  rw [len_of Su30 Ngu30] at cl_u30
  have cc31 : Steps p.tables e below S0' (T28.setTop (mkF m 39 #[.val (.ref x), .val (.ref y), .val (.int 0), .val (.ref tx), .val (.ref ty), .val (.int 0), .val (.int (Int32.ofNat ([87, 47]).length)), .unset] [(.ref x)])) := Steps.trans (Steps.trans cc29 cl_u30) (by
    refine XS.istore X28.here hx rfl (own_d hby d3_36) rfl rfl ?_
    refine XS.aloadN X28.here hx rfl (own_d hby d3_38) rfl rfl ?_
    exact Steps.refl _)
  obtain ⟨cq32, kq32, qa32, qb32, qc32⟩ := isOf hZ e28 Ex
  obtain ⟨_, _, ⟨T32, L32, k32, n32⟩, -, X32, ⟨Lc32, hQ32, l32, y32, z32⟩, st32⟩ := X28.virtualBack hx (y := (⟨"java/lang/String", "coder", "()B"⟩ : MethodName)) (z := (⟨"java/lang/String", "coder", "()B"⟩ : MethodName)) hown (mvT hZ w_65) (mvT hZ w_66) (notFace_of_selects (args := #[]) (mvT hZ w_68)) (mvT hZ w_68) (mvT hZ w_67) (by decide) (backOf (W := 0) (own_coder l Z a0 hw x z h0 n0 Z0 X00 O2 P5 Cx) hZ w_69 w_9 (by decide) (by decide)) qa32 qc32 (g := (mkF m 39 #[.val (.ref x), .val (.ref y), .val (.int 0), .val (.ref tx), .val (.ref ty), .val (.int 0), .val (.int (Int32.ofNat ([87, 47]).length)), .unset] [(.ref x)])) rfl (by rw [hml]; rfl) (Steps.refl _) (argsL := []) (rest := []) (lenOf own_pd1 rfl) rfl (by show 2 * 0 + _ ≤ _; exact Nat.le_of_eq rfl) (own_d hby d3_39) (fun _ _ => ⟨rfl, e28, Nat.le_of_ble_eq_true rfl, Nat.le_of_ble_eq_true rfl⟩)
  dsimp only [Pt.U, Pt.locs, Pt.cells, Pt.slots] at X32 l32 y32 z32 st32 hQ32
  subst l32 y32 z32
  obtain ⟨rfl, Nq32, eq32⟩ := hQ32
  have N32 := Fr.app N24 Nq32
  have e32 : T32.heap = h0 := eq32
  have cc33 : Steps p.tables e below S0' (T32.setTop (mkF m 47 #[.val (.ref x), .val (.ref y), .val (.int 0), .val (.ref tx), .val (.ref ty), .val (.int 0), .val (.int (Int32.ofNat ([87, 47]).length)), .val (.int 0)] [(.ref y), (.int 0)])) := Steps.trans (Steps.trans cc31 st32) (by
    refine XS.istore X32.here hx rfl (own_d hby d3_42) rfl rfl ?_
    refine XS.iload X32.here hx rfl (own_d hby d3_44) rfl ?_
    refine XS.aloadN X32.here hx rfl (own_d hby d3_46) rfl rfl ?_
    exact Steps.refl _)
  obtain ⟨cq34, kq34, qa34, qb34, qc34⟩ := isOf hZ e32 Ey
  obtain ⟨_, _, ⟨T34, L34, k34, n34⟩, -, X34, ⟨Lc34, hQ34, l34, y34, z34⟩, st34⟩ := X32.virtualBack hx (y := (⟨"java/lang/String", "coder", "()B"⟩ : MethodName)) (z := (⟨"java/lang/String", "coder", "()B"⟩ : MethodName)) hown (mvT hZ w_65) (mvT hZ w_66) (notFace_of_selects (args := #[]) (mvT hZ w_68)) (mvT hZ w_68) (mvT hZ w_67) (by decide) (backOf (W := 1) (own_coder l Z a0 hw y z h0 n0 Z0 X00 O2 P5 Cy) hZ w_69 w_9 (by decide) (by decide)) qa34 qc34 (g := (mkF m 47 #[.val (.ref x), .val (.ref y), .val (.int 0), .val (.ref tx), .val (.ref ty), .val (.int 0), .val (.int (Int32.ofNat ([87, 47]).length)), .val (.int 0)] [(.ref y), (.int 0)])) rfl (by rw [hml]; rfl) (Steps.refl _) (argsL := []) (rest := [(.int 0)]) (lenOf own_pd1 rfl) rfl (by show 2 * 0 + _ ≤ _; exact Nat.le_of_eq rfl) (own_d hby d3_47) (fun _ _ => ⟨rfl, e32, Nat.le_of_ble_eq_true rfl, Nat.le_of_ble_eq_true rfl⟩)
  dsimp only [Pt.U, Pt.locs, Pt.cells, Pt.slots] at X34 l34 y34 z34 st34 hQ34
  subst l34 y34 z34
  obtain ⟨rfl, Nq34, eq34⟩ := hQ34
  have N34 := Fr.app N32 Nq34
  have e34 : T34.heap = h0 := eq34
  have cc35 : Steps p.tables e below S0' (T34.setTop (mkF m 70 #[.val (.ref x), .val (.ref y), .val (.int 0), .val (.ref tx), .val (.ref ty), .val (.int 0), .val (.int (Int32.ofNat ([87, 47]).length)), .val (.int 0)] [(.int (Int32.ofNat ([87, 47]).length)), (.int 0), (.ref ty), (.int 0), (.ref tx)])) := Steps.trans (Steps.trans cc33 st34) (by
    refine XS.icmpNo X34.here hx rfl (own_d hby d3_50) rfl (ii_ne_f rfl) ?_
    refine XS.iload X34.here hx rfl (own_d hby d3_53) rfl ?_
    refine iconstV X34.here hx rfl 1 (own_d hby d3_55) (by decide) ?_
    refine XS.icmpYes X34.here hx rfl (pc0 := 56) rfl (own_d hby d3_56) rfl (ii_ne_t (by decide)) (by decide) rfl ?_
    refine XS.aloadN X34.here hx rfl (own_d hby d3_63) rfl rfl ?_
    refine XS.iloadN X34.here hx rfl (own_d hby d3_64) rfl ?_
    refine XS.aload X34.here hx rfl (own_d hby d3_65) rfl rfl ?_
    refine iconstV X34.here hx rfl 0 (own_d hby d3_67) (by decide) ?_
    refine XS.iload X34.here hx rfl (own_d hby d3_68) rfl ?_
    exact Steps.refl _)
  have cz : Steps p.tables e below S0' (T34.setTop (mkF m 70 #[.val (.ref x), .val (.ref y), .val (.int 0), .val (.ref tx), .val (.ref ty), .val (.int 0), .val (.int 2), .val (.int 0)] [(.int 2), (.int 0), (.ref ty), (.int 0), (.ref tx)])) := cc35
  obtain ⟨_, _, ⟨T36, L36, k36, n36⟩, -, X36, ⟨Lc36, hQ36, l36, y36, z36⟩, st36⟩ := Jvm.LawKit.callS X34 hx (y := (⟨"jdk/internal/util/ArraysSupport", "mismatch", "([BI[BII)I"⟩ : MethodName)) hown (mvT hZ (hw _ (List.mem_of_getElem? (i := 70) rfl))) (mvT hZ (hw _ (List.mem_of_getElem? (i := 71) rfl))) (mvT hZ w_72) (mvT hZ w_73) (by decide) (backOf (W := 0) (own_mm l Z a0 hw tx ty kx ky (c0 :: c1 :: cs).length _ _ _ _ (own_by cs) h0 n0 Z0 (by simp) lx Ax Ay) hZ w_73 w_72 (by decide) (by decide)) (g := (mkF m 70 #[.val (.ref x), .val (.ref y), .val (.int 0), .val (.ref tx), .val (.ref ty), .val (.int 0), .val (.int 2), .val (.int 0)] [(.int 2), (.int 0), (.ref ty), (.int 0), (.ref tx)])) rfl (by rw [hml]; rfl) (argsL := [(.ref tx), (.int 0), (.ref ty), (.int 0), (.int 2)]) (rest := []) (lenOf own_pd2 rfl) rfl (by show 2 * 0 + _ ≤ _; exact Nat.le_of_eq rfl) (own_d hby d3_70) (fun _ _ => ⟨rfl, e34, Nat.le_of_ble_eq_true rfl, Nat.le_of_ble_eq_true rfl⟩)
  dsimp only [Pt.U, Pt.locs, Pt.cells, Pt.slots] at X36 l36 y36 z36 st36 hQ36
  subst l36 y36 z36
  obtain ⟨rr, rfl, Nq36, eq36, hr⟩ := hQ36
  have N36 := Fr.app N34 Nq36
  have e36 : T36.heap = h0 := eq36
  have cc37 : Steps p.tables e below S0' (T36.setTop (mkF m 73 #[.val (.ref x), .val (.ref y), .val (.int 0), .val (.ref tx), .val (.ref ty), .val (.int 0), .val (.int 2), .val (.int 0)] [(.int rr)])) := (cz.trans (st36 _ (Steps.refl _)))
  rcases hr with ⟨q1, q2, q3⟩ | ⟨q1, q2⟩
  · skip
    have p0 := px c0 (by simp)
    have p1 := px c1 (by simp)
    have cc38 : Steps p.tables e below S0' (T36.setTop (mkF m 81 #[.val (.ref x), .val (.ref y), .val (.int 0), .val (.ref tx), .val (.ref ty), .val (.int 0), .val (.int 2), .val (.int 0)] [(.int 1)])) := Steps.trans cc37 (by
      refine XS.ifNo X36.here hx rfl (own_d hby d3_73) rfl (i0_ge_f q1) ?_
      refine iconstV X36.here hx rfl 1 (own_d hby d3_76) (by decide) ?_
      refine XS.goto X36.here hx rfl (pc0 := 77) rfl (own_d hby d3_77) (by decide) rfl ?_
      exact Steps.refl _)
    have cE := cc38
    rw [hS0'] at cE
    obtain ⟨fs, hr_, hrun, hended, hW, hsame⟩ := X36.leave (v := some (.int 1)) (fun h => by rw [Bd.returns] at h; cases h)
    refine ⟨_, _, cE.trans (X36.ireturnOut hx Bd.returns (rfl) (by simp) (own_d hby d3_81) hr_), hrun, hended, _, _, rfl, ?_, ⟨_, rfl⟩, hW, hsame.mono (by first | decide | omega) (by first | decide | omega)⟩
    show Q_own_sw2 Z x y c0 c1 cs z h0 n0 _ T36.heap _
    rw [e36]
    exact ⟨1, rfl, N36, rfl, Or.inl ⟨rfl, own_lo8 p0 (by decide) q2, own_lo8 p1 (by decide) q3⟩⟩
  · skip
    have cc38 : Steps p.tables e below S0' (T36.setTop (mkF m 81 #[.val (.ref x), .val (.ref y), .val (.int 0), .val (.ref tx), .val (.ref ty), .val (.int 0), .val (.int 2), .val (.int 0)] [(.int 0)])) := Steps.trans cc37 (by
      refine XS.ifYes X36.here hx rfl (pc0 := 73) rfl (own_d hby d3_73) rfl (i0_ge_t q1) (by decide) rfl ?_
      refine iconstV X36.here hx rfl 0 (own_d hby d3_80) (by decide) ?_
      exact Steps.refl _)
    have cE := cc38
    rw [hS0'] at cE
    obtain ⟨fs, hr_, hrun, hended, hW, hsame⟩ := X36.leave (v := some (.int 0)) (fun h => by rw [Bd.returns] at h; cases h)
    refine ⟨_, _, cE.trans (X36.ireturnOut hx Bd.returns (rfl) (by simp) (own_d hby d3_81) hr_), hrun, hended, _, _, rfl, ?_, ⟨_, rfl⟩, hW, hsame.mono (by first | decide | omega) (by first | decide | omega)⟩
    show Q_own_sw2 Z x y c0 c1 cs z h0 n0 _ T36.heap _
    rw [e36]
    exact ⟨0, rfl, N36, rfl, Or.inr ⟨rfl, fun q => q2 ⟨by rw [q.1], by rw [q.2]⟩⟩⟩
theorem d4_0 : decode jdk_42_method_76_code 0 = .ok (.aload_n 0, 1) := by decide +kernel
theorem d4_1 : decode jdk_42_method_76_code 1 = .ok (.aload_n 1, 1) := by decide +kernel
theorem d4_2 : decode jdk_42_method_76_code 2 = .ok (.iconst 0, 1) := by decide +kernel
theorem d4_3 : decode jdk_42_method_76_code 3 = .ok (.invokevirtual 624, 3) := by decide +kernel
theorem d4_6 : decode jdk_42_method_76_code 6 = .ok (.ireturn, 1) := by decide +kernel
def Q_own_sw1 (Z : State) (x y : Addr) (c0 c1 : Int32) (cs : List Int32) (z : Int32) (h0 : Heap) (n0 : Nat) (v : Option Value) (h : Heap) (L : List Loc) : Prop := ∃ r : Int32, v = some (.int r) ∧ Fr n0 L ∧ h = h0 ∧ (r = 1 ∧ c0 = 87 ∧ c1 = 47 ∨ r = 0 ∧ ¬ (c0 = 87 ∧ c1 = 47))
set_option maxRecDepth 65536 in
set_option maxHeartbeats 40000000 in
theorem own_sw1 (l : Launch) (Z : State) (a0 : Array Value) (hw : ∀ d ∈ tables_1, d.before a0 Z = true) (x y : Addr) (c0 c1 : Int32) (cs : List Int32) (z : Int32) (h0 : Heap) (n0 : Nat) (Z0 : n0 ≤ h0.size) (X00 : Old Z n0 h0) (O2 : Sta Z Z.heap "java/lang/String" "COMPACT_STRINGS" "Z" (.int z)) (P5 : ¬ z = 0) (Hx : own_Lat Z h0 x (c0 :: c1 :: cs)) (Hy : own_Lat Z h0 y [87, 47]) :
    MetFree l (⟨"java/lang/String", "startsWith", "(Ljava/lang/String;)Z"⟩ : MethodName) (head1 [Jvm.Cond.code (⟨"java/lang/String", "startsWith", "(Ljava/lang/String;)Z"⟩ : MethodName) jdk_42_method_76_code 2 (some .boolean)] ({ frames := 3, cells := 0, slots := 0, locals := 46 } : Room)) (fun a_ U_ => a_ = #[(.ref x), (.ref y)] ∧ Z.Warmed39 U_.vm ∧ U_.heap = h0) (fun _ _ _ _ _ => True) (fun _ U_ o_ V_ => ∃ v_ L_, o_ = .returned v_ ∧ Q_own_sw1 Z x y c0 c1 cs z h0 n0 v_ V_.heap L_ ∧ FrameEnd U_ o_ V_ L_ ({ frames := 3, cells := 0, slots := 0, locals := 46 } : Room).cells ({ frames := 3, cells := 0, slots := 0, locals := 46 } : Room).slots) := by
  refine MetFree.of_bodySF (plainFor_of_name own_pn0) hisR ?_
  intro p e s m args below meth c s₁ Bd hml0 hP hK
  obtain ⟨rfl, hZ, hh⟩ := hP
  have hx := Bd.exec
  have hby := Bd.bytes
  have hml : c.maxLocals = 2 := hml0
  have hown : s.vm.findClass "java/lang/String" = some m.cls := findClass_of_methodNamed Bd.named
  have hnm := (name_of_methodNamed Bd.named Bd.method).1
  have X0 : Stand p l e ({ frames := 3, cells := 0, slots := 0, locals := 46 } : Room) s m #[(.ref x), (.ref y)] below meth c s₁ [] 0 0 := Stand.of_body Bd
  have e0 : s₁.heap = h0 := by rw [← hh, Bd.state]; rfl
  have N0 := Fr.nil n0
  have KK0 := Keep.refl h0 ([] : List Addr)
  have cc0 : Steps p.tables e below (s₁.setTop (entryFrame m #[(.ref x), (.ref y)] 2)) (s₁.setTop (mkF m 0 #[.val (.ref x), .val (.ref y)] [])) := XT.entry rfl
  obtain ⟨S0', hS0'⟩ : ∃ S, S = (s₁.setTop (entryFrame m #[(.ref x), (.ref y)] 2)) := ⟨_, rfl⟩
  rw [← hS0'] at cc0
  have w_58 := hw _ (List.mem_of_getElem? (i := 58) rfl)
  have Hx' := Hx
  have cc21 : Steps p.tables e below S0' (s₁.setTop (mkF m 3 #[.val (.ref x), .val (.ref y)] [(.int 0), (.ref y), (.ref x)])) := Steps.trans cc0 (by
    refine XS.aloadN X0.here hx rfl (own_d hby d4_0) rfl rfl ?_
    refine XS.aloadN X0.here hx rfl (own_d hby d4_1) rfl rfl ?_
    refine iconstV X0.here hx rfl 0 (own_d hby d4_2) (by decide) ?_
    exact Steps.refl _)
  obtain ⟨cq22, kq22, qa22, qb22, qc22⟩ := isOf hZ e0 Hx.1
  obtain ⟨_, _, ⟨T22, L22, k22, n22⟩, -, X22, ⟨Lc22, hQ22, l22, y22, z22⟩, st22⟩ := X0.virtualBack hx (y := (⟨"java/lang/String", "startsWith", "(Ljava/lang/String;I)Z"⟩ : MethodName)) (z := (⟨"java/lang/String", "startsWith", "(Ljava/lang/String;I)Z"⟩ : MethodName)) hown (mvT hZ (hw _ (List.mem_of_getElem? (i := 55) rfl))) (mvT hZ (hw _ (List.mem_of_getElem? (i := 56) rfl))) (notFace_of_selects (args := #[]) (mvT hZ w_58)) (mvT hZ w_58) (mvT hZ (hw _ (List.mem_of_getElem? (i := 57) rfl))) (by decide) (backOf (W := 0) (own_sw2 l Z a0 hw x y c0 c1 cs z h0 n0 Z0 X00 O2 P5 Hx Hy) hZ (hw _ (List.mem_of_getElem? (i := 59) rfl)) (hw _ (List.mem_of_getElem? (i := 9) rfl)) (by decide) (by decide)) qa22 qc22 (g := (mkF m 3 #[.val (.ref x), .val (.ref y)] [(.int 0), (.ref y), (.ref x)])) rfl (by rw [hml]; rfl) (Steps.refl _) (argsL := [(.ref y), (.int 0)]) (rest := []) (lenOf own_pd3 rfl) rfl (by show 2 * 0 + _ ≤ _; exact Nat.le_of_eq rfl) (own_d hby d4_3) (fun _ _ => ⟨rfl, e0, Nat.le_of_ble_eq_true rfl, Nat.le_of_ble_eq_true rfl⟩)
  dsimp only [Pt.U, Pt.locs, Pt.cells, Pt.slots] at X22 l22 y22 z22 st22 hQ22
  subst l22 y22 z22
  obtain ⟨rr, rfl, Nq22, eq22, hr⟩ := hQ22
  have N22 := Fr.app N0 Nq22
  have e22 : T22.heap = h0 := eq22
  have cc23 : Steps p.tables e below S0' (T22.setTop (mkF m 6 #[.val (.ref x), .val (.ref y)] [(.int rr)])) := (Steps.trans cc21 st22)
  have cE := cc23
  rw [hS0'] at cE
  obtain ⟨fs, hr_, hrun, hended, hW, hsame⟩ := X22.leave (v := some (.int rr)) (fun h => by rw [Bd.returns] at h; cases h)
  refine ⟨_, _, cE.trans (X22.ireturnOut hx Bd.returns (by rcases hr with ⟨rfl, -⟩ | ⟨rfl, -⟩ <;> rfl) (by simp) (own_d hby d4_6) hr_), hrun, hended, _, _, rfl, ?_, ⟨_, rfl⟩, hW, hsame.mono (by first | decide | omega) (by first | decide | omega)⟩
  show Q_own_sw1 Z x y c0 c1 cs z h0 n0 _ T22.heap _
  rw [e22]
  exact ⟨rr, rfl, N22, rfl, hr⟩
theorem d5_0 : decode jdk_41_method_12_code 0 = .ok (.iload_n 0, 1) := by decide +kernel
theorem d5_1 : decode jdk_41_method_12_code 1 = .ok (.ifCond .lt 13, 3) := by decide +kernel
theorem d5_4 : decode jdk_41_method_12_code 4 = .ok (.iload_n 0, 1) := by decide +kernel
theorem d5_5 : decode jdk_41_method_12_code 5 = .ok (.iload_n 1, 1) := by decide +kernel
theorem d5_6 : decode jdk_41_method_12_code 6 = .ok (.if_icmp .gt 8, 3) := by decide +kernel
theorem d5_9 : decode jdk_41_method_12_code 9 = .ok (.iload_n 1, 1) := by decide +kernel
theorem d5_10 : decode jdk_41_method_12_code 10 = .ok (.iload_n 2, 1) := by decide +kernel
theorem d5_11 : decode jdk_41_method_12_code 11 = .ok (.if_icmp .le 11, 3) := by decide +kernel
theorem d5_22 : decode jdk_41_method_12_code 22 = .ok (.iload_n 0, 1) := by decide +kernel
theorem d5_23 : decode jdk_41_method_12_code 23 = .ok (.ireturn, 1) := by decide +kernel
def Q_own_cft (Z : State) (a b n : Int32) (f : Value) (h0 : Heap) (n0 : Nat) (v : Option Value) (h : Heap) (L : List Loc) : Prop := v = some (.int a) ∧ Fr n0 L ∧ h = h0
set_option maxRecDepth 65536 in
set_option maxHeartbeats 40000000 in
theorem own_cft (l : Launch) (Z : State) (a0 : Array Value) (hw : ∀ d ∈ tables_1, d.before a0 Z = true) (a b n : Int32) (f : Value) (h0 : Heap) (n0 : Nat) (Z0 : n0 ≤ h0.size) (h1 : ¬ a < 0) (h2 : ¬ b < a) (h3 : ¬ n < b) (hf : f.isRef = true) :
    MetFree l (⟨"jdk/internal/util/Preconditions", "checkFromToIndex", "(IIILjava/util/function/BiFunction;)I"⟩ : MethodName) (head1 [Jvm.Cond.code (⟨"jdk/internal/util/Preconditions", "checkFromToIndex", "(IIILjava/util/function/BiFunction;)I"⟩ : MethodName) jdk_41_method_12_code 4 (some .int)] ({ frames := 0, cells := 0, slots := 0, locals := 0 } : Room)) (fun a_ U_ => a_ = #[(.int a), (.int b), (.int n), f] ∧ Z.Warmed39 U_.vm ∧ U_.heap = h0) (fun _ _ _ _ _ => True) (fun _ U_ o_ V_ => ∃ v_ L_, o_ = .returned v_ ∧ Q_own_cft Z a b n f h0 n0 v_ V_.heap L_ ∧ FrameEnd U_ o_ V_ L_ ({ frames := 0, cells := 0, slots := 0, locals := 0 } : Room).cells ({ frames := 0, cells := 0, slots := 0, locals := 0 } : Room).slots) := by
  refine MetFree.of_bodySF (plainFor_of_name own_pn2) hisR ?_
  intro p e s m args below meth c s₁ Bd hml0 hP hK
  obtain ⟨rfl, hZ, hh⟩ := hP
  have hx := Bd.exec
  have hby := Bd.bytes
  have hml : c.maxLocals = 4 := hml0
  have hown : s.vm.findClass "jdk/internal/util/Preconditions" = some m.cls := findClass_of_methodNamed Bd.named
  have hnm := (name_of_methodNamed Bd.named Bd.method).1
  have X0 : Stand p l e ({ frames := 0, cells := 0, slots := 0, locals := 0 } : Room) s m #[(.int a), (.int b), (.int n), f] below meth c s₁ [] 0 0 := Stand.of_body Bd
  have e0 : s₁.heap = h0 := by rw [← hh, Bd.state]; rfl
  have N0 := Fr.nil n0
  have KK0 := Keep.refl h0 ([] : List Addr)
  have cc0 : Steps p.tables e below (s₁.setTop (entryFrame m #[(.int a), (.int b), (.int n), f] 4)) (s₁.setTop (mkF m 0 #[.val (.int a), .val (.int b), .val (.int n), .val f] [])) := XT.entry (by cases f <;> first | rfl | (cases hf))
  obtain ⟨S0', hS0'⟩ : ∃ S, S = (s₁.setTop (entryFrame m #[(.int a), (.int b), (.int n), f] 4)) := ⟨_, rfl⟩
  rw [← hS0'] at cc0
  have cc21 : Steps p.tables e below S0' (s₁.setTop (mkF m 23 #[.val (.int a), .val (.int b), .val (.int n), .val f] [(.int a)])) := Steps.trans cc0 (by
    refine XS.iloadN X0.here hx rfl (own_d hby d5_0) rfl ?_
    refine XS.ifNo X0.here hx rfl (own_d hby d5_1) rfl (i0_lt_f h1) ?_
    refine XS.iloadN X0.here hx rfl (own_d hby d5_4) rfl ?_
    refine XS.iloadN X0.here hx rfl (own_d hby d5_5) rfl ?_
    refine XS.icmpNo X0.here hx rfl (own_d hby d5_6) rfl (ii_gt_f h2) ?_
    refine XS.iloadN X0.here hx rfl (own_d hby d5_9) rfl ?_
    refine XS.iloadN X0.here hx rfl (own_d hby d5_10) rfl ?_
    refine XS.icmpYes X0.here hx rfl (pc0 := 11) rfl (own_d hby d5_11) rfl (ii_le_t h3) (by decide) rfl ?_
    refine XS.iloadN X0.here hx rfl (own_d hby d5_22) rfl ?_
    exact Steps.refl _)
  have cE := cc21
  rw [hS0'] at cE
  obtain ⟨fs, hr_, hrun, hended, hW, hsame⟩ := X0.leave (v := some (.int a)) (fun h => by rw [Bd.returns] at h; cases h)
  refine ⟨_, _, cE.trans (X0.ireturnOut hx Bd.returns (rfl) (by simp) (own_d hby d5_23) hr_), hrun, hended, _, _, rfl, ?_, ⟨_, rfl⟩, hW, hsame.mono (by first | decide | omega) (by first | decide | omega)⟩
  show Q_own_cft Z a b n f h0 n0 _ s₁.heap _
  rw [e0]
  exact ⟨rfl, N0, rfl⟩
theorem d6_0 : decode jdk_42_method_158_code 0 = .ok (.iload_n 0, 1) := by decide +kernel
theorem d6_1 : decode jdk_42_method_158_code 1 = .ok (.iload_n 1, 1) := by decide +kernel
theorem d6_2 : decode jdk_42_method_158_code 2 = .ok (.iload_n 2, 1) := by decide +kernel
theorem d6_3 : decode jdk_42_method_158_code 3 = .ok (.getstatic 1053, 3) := by decide +kernel
theorem d6_6 : decode jdk_42_method_158_code 6 = .ok (.invokestatic 1062, 3) := by decide +kernel
theorem d6_9 : decode jdk_42_method_158_code 9 = .ok (.pop, 1) := by decide +kernel
theorem d6_10 : decode jdk_42_method_158_code 10 = .ok (.return_, 1) := by decide +kernel
def Q_own_cbe (Z : State) (a b n : Int32) (f : Value) (h0 : Heap) (n0 : Nat) (v : Option Value) (h : Heap) (L : List Loc) : Prop := v = none ∧ Fr n0 L ∧ h = h0
set_option maxRecDepth 65536 in
set_option maxHeartbeats 40000000 in
theorem own_cbe (l : Launch) (Z : State) (a0 : Array Value) (hw : ∀ d ∈ tables_1, d.before a0 Z = true) (a b n : Int32) (f : Value) (h0 : Heap) (n0 : Nat) (Z0 : n0 ≤ h0.size) (X00 : Old Z n0 h0) (h1 : ¬ a < 0) (h2 : ¬ b < a) (h3 : ¬ n < b) (O4 : Sta Z Z.heap "jdk/internal/util/Preconditions" "SIOOBE_FORMATTER" "Ljava/util/function/BiFunction;" f) (hf : f.isRef = true) :
    MetFree l (⟨"java/lang/String", "checkBoundsBeginEnd", "(III)V"⟩ : MethodName) (head1 [Jvm.Cond.code (⟨"java/lang/String", "checkBoundsBeginEnd", "(III)V"⟩ : MethodName) jdk_42_method_158_code 3 none] ({ frames := 1, cells := 0, slots := 0, locals := 15 } : Room)) (fun a_ U_ => a_ = #[(.int a), (.int b), (.int n)] ∧ Z.Warmed39 U_.vm ∧ U_.heap = h0) (fun _ _ _ _ _ => True) (fun _ U_ o_ V_ => ∃ v_ L_, o_ = .returned v_ ∧ Q_own_cbe Z a b n f h0 n0 v_ V_.heap L_ ∧ FrameEnd U_ o_ V_ L_ ({ frames := 1, cells := 0, slots := 0, locals := 15 } : Room).cells ({ frames := 1, cells := 0, slots := 0, locals := 15 } : Room).slots) := by
  refine MetFree.of_bodySF (plainFor_of_name own_pn0) hisR ?_
  intro p e s m args below meth c s₁ Bd hml0 hP hK
  obtain ⟨rfl, hZ, hh⟩ := hP
  have hx := Bd.exec
  have hby := Bd.bytes
  have hml : c.maxLocals = 3 := hml0
  have hown : s.vm.findClass "java/lang/String" = some m.cls := findClass_of_methodNamed Bd.named
  have hnm := (name_of_methodNamed Bd.named Bd.method).1
  have X0 : Stand p l e ({ frames := 1, cells := 0, slots := 0, locals := 15 } : Room) s m #[(.int a), (.int b), (.int n)] below meth c s₁ [] 0 0 := Stand.of_body Bd
  have e0 : s₁.heap = h0 := by rw [← hh, Bd.state]; rfl
  have N0 := Fr.nil n0
  have KK0 := Keep.refl h0 ([] : List Addr)
  have cc0 : Steps p.tables e below (s₁.setTop (entryFrame m #[(.int a), (.int b), (.int n)] 3)) (s₁.setTop (mkF m 0 #[.val (.int a), .val (.int b), .val (.int n)] [])) := XT.entry rfl
  obtain ⟨S0', hS0'⟩ : ∃ S, S = (s₁.setTop (entryFrame m #[(.int a), (.int b), (.int n)] 3)) := ⟨_, rfl⟩
  rw [← hS0'] at cc0
  have w_98 := hw _ (List.mem_of_getElem? (i := 98) rfl)
  have w_101 := hw _ (List.mem_of_getElem? (i := 101) rfl)
  have cc21 : Steps p.tables e below S0' (s₁.setTop (mkF m 3 #[.val (.int a), .val (.int b), .val (.int n)] [(.int n), (.int b), (.int a)])) := Steps.trans cc0 (by
    refine XS.iloadN X0.here hx rfl (own_d hby d6_0) rfl ?_
    refine XS.iloadN X0.here hx rfl (own_d hby d6_1) rfl ?_
    refine XS.iloadN X0.here hx rfl (own_d hby d6_2) rfl ?_
    exact Steps.refl _)
  obtain ⟨T22, X22, e22, st22⟩ := getS2 X0 hx hZ hown (host := "") (Or.inl (hw _ (List.mem_of_getElem? (i := 97) rfl))) Via.refl e0 (O4.ext X00.2) (g := (mkF m 3 #[.val (.int a), .val (.int b), .val (.int n)] [(.int n), (.int b), (.int a)])) rfl (own_d hby d6_3)
  have cc23 : Steps p.tables e below S0' (T22.setTop (mkF m 6 #[.val (.int a), .val (.int b), .val (.int n)] [f, (.int n), (.int b), (.int a)])) := (cc21.trans (st22 _ (Steps.refl _)))
  obtain ⟨_, _, ⟨T24, L24, k24, n24⟩, -, X24, ⟨Lc24, hQ24, l24, y24, z24⟩, st24⟩ := Jvm.LawKit.callS X22 hx (y := (⟨"jdk/internal/util/Preconditions", "checkFromToIndex", "(IIILjava/util/function/BiFunction;)I"⟩ : MethodName)) hown (mvT hZ (hw _ (List.mem_of_getElem? (i := 99) rfl))) (mvT hZ (hw _ (List.mem_of_getElem? (i := 100) rfl))) (mvT hZ w_98) (mvT hZ w_101) (by decide) (backOf (W := 0) (own_cft l Z a0 hw a b n f h0 n0 Z0 h1 h2 h3 hf) hZ w_101 w_98 (by decide) (by decide)) (g := (mkF m 6 #[.val (.int a), .val (.int b), .val (.int n)] [f, (.int n), (.int b), (.int a)])) rfl (by rw [hml]; rfl) (argsL := [(.int a), (.int b), (.int n), f]) (rest := []) (lenOf own_pd4 rfl) rfl (by show 2 * 0 + _ ≤ _; exact Nat.le_of_eq rfl) (own_d hby d6_6) (fun _ _ => ⟨rfl, e22, Nat.le_of_ble_eq_true rfl, Nat.le_of_ble_eq_true rfl⟩)
  dsimp only [Pt.U, Pt.locs, Pt.cells, Pt.slots] at X24 l24 y24 z24 st24 hQ24
  subst l24 y24 z24
  obtain ⟨rfl, Nq24, eq24⟩ := hQ24
  have N24 := Fr.app N0 Nq24
  have e24 : T24.heap = h0 := eq24
  have cc25 : Steps p.tables e below S0' (T24.setTop (mkF m 10 #[.val (.int a), .val (.int b), .val (.int n)] [])) := Steps.trans (cc23.trans (st24 _ (Steps.refl _))) (by
    refine XT.pop X24.here hx rfl (own_d hby d6_9) rfl rfl ?_
    exact Steps.refl _)
  have cE := cc25
  rw [hS0'] at cE
  obtain ⟨fs, hr_, hrun, hended, hW, hsame⟩ := X24.leave (v := none) (fun _ => rfl)
  refine ⟨_, _, cE.trans (X24.returnOut hx Bd.returns (own_d hby d6_10) hr_), hrun, hended, _, _, rfl, ?_, ⟨_, rfl⟩, hW, hsame.mono (by first | decide | omega) (by first | decide | omega)⟩
  show Q_own_cbe Z a b n f h0 n0 _ T24.heap _
  rw [e24]
  exact ⟨rfl, N24, rfl⟩
theorem d7_0 : decode jdk_65_method_131_code 0 = .ok (.iload_n 1, 1) := by decide +kernel
theorem d7_1 : decode jdk_65_method_131_code 1 = .ok (.iload_n 0, 1) := by decide +kernel
theorem d7_2 : decode jdk_65_method_131_code 2 = .ok (.if_icmp .ge 35, 3) := by decide +kernel
theorem d7_37 : decode jdk_65_method_131_code 37 = .ok (.return_, 1) := by decide +kernel
def Q_own_chk (Z : State) (a b : Int32) (h0 : Heap) (n0 : Nat) (v : Option Value) (h : Heap) (L : List Loc) : Prop := v = none ∧ Fr n0 L ∧ h = h0
set_option maxRecDepth 65536 in
set_option maxHeartbeats 40000000 in
theorem own_chk (l : Launch) (Z : State) (a0 : Array Value) (hw : ∀ d ∈ tables_1, d.before a0 Z = true) (a b : Int32) (h0 : Heap) (n0 : Nat) (Z0 : n0 ≤ h0.size) (h1 : ¬ b < a) :
    MetFree l (⟨"java/util/Arrays", "checkLength", "(II)V"⟩ : MethodName) (head1 [Jvm.Cond.code (⟨"java/util/Arrays", "checkLength", "(II)V"⟩ : MethodName) jdk_65_method_131_code 2 none] ({ frames := 0, cells := 0, slots := 0, locals := 0 } : Room)) (fun a_ U_ => a_ = #[(.int a), (.int b)] ∧ Z.Warmed39 U_.vm ∧ U_.heap = h0) (fun _ _ _ _ _ => True) (fun _ U_ o_ V_ => ∃ v_ L_, o_ = .returned v_ ∧ Q_own_chk Z a b h0 n0 v_ V_.heap L_ ∧ FrameEnd U_ o_ V_ L_ ({ frames := 0, cells := 0, slots := 0, locals := 0 } : Room).cells ({ frames := 0, cells := 0, slots := 0, locals := 0 } : Room).slots) := by
  refine MetFree.of_bodySF (plainFor_of_name own_pn3) hisR ?_
  intro p e s m args below meth c s₁ Bd hml0 hP hK
  obtain ⟨rfl, hZ, hh⟩ := hP
  have hx := Bd.exec
  have hby := Bd.bytes
  have hml : c.maxLocals = 2 := hml0
  have hown : s.vm.findClass "java/util/Arrays" = some m.cls := findClass_of_methodNamed Bd.named
  have hnm := (name_of_methodNamed Bd.named Bd.method).1
  have X0 : Stand p l e ({ frames := 0, cells := 0, slots := 0, locals := 0 } : Room) s m #[(.int a), (.int b)] below meth c s₁ [] 0 0 := Stand.of_body Bd
  have e0 : s₁.heap = h0 := by rw [← hh, Bd.state]; rfl
  have N0 := Fr.nil n0
  have KK0 := Keep.refl h0 ([] : List Addr)
  have cc0 : Steps p.tables e below (s₁.setTop (entryFrame m #[(.int a), (.int b)] 2)) (s₁.setTop (mkF m 0 #[.val (.int a), .val (.int b)] [])) := XT.entry rfl
  obtain ⟨S0', hS0'⟩ : ∃ S, S = (s₁.setTop (entryFrame m #[(.int a), (.int b)] 2)) := ⟨_, rfl⟩
  rw [← hS0'] at cc0
  have cc21 : Steps p.tables e below S0' (s₁.setTop (mkF m 37 #[.val (.int a), .val (.int b)] [])) := Steps.trans cc0 (by
    refine XS.iloadN X0.here hx rfl (own_d hby d7_0) rfl ?_
    refine XS.iloadN X0.here hx rfl (own_d hby d7_1) rfl ?_
    refine XS.icmpYes X0.here hx rfl (pc0 := 2) rfl (own_d hby d7_2) rfl (ii_ge_t h1) (by decide) rfl ?_
    exact Steps.refl _)
  have cE := cc21
  rw [hS0'] at cE
  obtain ⟨fs, hr_, hrun, hended, hW, hsame⟩ := X0.leave (v := none) (fun _ => rfl)
  refine ⟨_, _, cE.trans (X0.returnOut hx Bd.returns (own_d hby d7_37) hr_), hrun, hended, _, _, rfl, ?_, ⟨_, rfl⟩, hW, hsame.mono (by first | decide | omega) (by first | decide | omega)⟩
  show Q_own_chk Z a b h0 n0 _ s₁.heap _
  rw [e0]
  exact ⟨rfl, N0, rfl⟩
theorem d8_0 : decode jdk_29_method_69_code 0 = .ok (.iload_n 0, 1) := by decide +kernel
theorem d8_1 : decode jdk_29_method_69_code 1 = .ok (.iload_n 1, 1) := by decide +kernel
theorem d8_2 : decode jdk_29_method_69_code 2 = .ok (.if_icmp .gt 7, 3) := by decide +kernel
theorem d8_5 : decode jdk_29_method_69_code 5 = .ok (.iload_n 0, 1) := by decide +kernel
theorem d8_6 : decode jdk_29_method_69_code 6 = .ok (.goto 4, 3) := by decide +kernel
theorem d8_10 : decode jdk_29_method_69_code 10 = .ok (.ireturn, 1) := by decide +kernel
def Q_own_min (Z : State) (a b : Int32) (h0 : Heap) (n0 : Nat) (v : Option Value) (h : Heap) (L : List Loc) : Prop := v = some (.int a) ∧ Fr n0 L ∧ h = h0
set_option maxRecDepth 65536 in
set_option maxHeartbeats 40000000 in
theorem own_min (l : Launch) (Z : State) (a0 : Array Value) (hw : ∀ d ∈ tables_1, d.before a0 Z = true) (a b : Int32) (h0 : Heap) (n0 : Nat) (Z0 : n0 ≤ h0.size) (h1 : ¬ b < a) :
    MetFree l (⟨"java/lang/Math", "min", "(II)I"⟩ : MethodName) (head1 [Jvm.Cond.code (⟨"java/lang/Math", "min", "(II)I"⟩ : MethodName) jdk_29_method_69_code 2 (some .int)] ({ frames := 0, cells := 0, slots := 0, locals := 0 } : Room)) (fun a_ U_ => a_ = #[(.int a), (.int b)] ∧ Z.Warmed39 U_.vm ∧ U_.heap = h0) (fun _ _ _ _ _ => True) (fun _ U_ o_ V_ => ∃ v_ L_, o_ = .returned v_ ∧ Q_own_min Z a b h0 n0 v_ V_.heap L_ ∧ FrameEnd U_ o_ V_ L_ ({ frames := 0, cells := 0, slots := 0, locals := 0 } : Room).cells ({ frames := 0, cells := 0, slots := 0, locals := 0 } : Room).slots) := by
  refine MetFree.of_bodySF (by decide +kernel) hisR ?_
  intro p e s m args below meth c s₁ Bd hml0 hP hK
  obtain ⟨rfl, hZ, hh⟩ := hP
  have hx := Bd.exec
  have hby := Bd.bytes
  have hml : c.maxLocals = 2 := hml0
  have hown : s.vm.findClass "java/lang/Math" = some m.cls := findClass_of_methodNamed Bd.named
  have hnm := (name_of_methodNamed Bd.named Bd.method).1
  have X0 : Stand p l e ({ frames := 0, cells := 0, slots := 0, locals := 0 } : Room) s m #[(.int a), (.int b)] below meth c s₁ [] 0 0 := Stand.of_body Bd
  have e0 : s₁.heap = h0 := by rw [← hh, Bd.state]; rfl
  have N0 := Fr.nil n0
  have KK0 := Keep.refl h0 ([] : List Addr)
  have cc0 : Steps p.tables e below (s₁.setTop (entryFrame m #[(.int a), (.int b)] 2)) (s₁.setTop (mkF m 0 #[.val (.int a), .val (.int b)] [])) := XT.entry rfl
  obtain ⟨S0', hS0'⟩ : ∃ S, S = (s₁.setTop (entryFrame m #[(.int a), (.int b)] 2)) := ⟨_, rfl⟩
  rw [← hS0'] at cc0
  have cc21 : Steps p.tables e below S0' (s₁.setTop (mkF m 10 #[.val (.int a), .val (.int b)] [(.int a)])) := Steps.trans cc0 (by
    refine XS.iloadN X0.here hx rfl (own_d hby d8_0) rfl ?_
    refine XS.iloadN X0.here hx rfl (own_d hby d8_1) rfl ?_
    refine XS.icmpNo X0.here hx rfl (own_d hby d8_2) rfl (ii_gt_f h1) ?_
    refine XS.iloadN X0.here hx rfl (own_d hby d8_5) rfl ?_
    refine XS.goto X0.here hx rfl (pc0 := 6) rfl (own_d hby d8_6) (by decide) rfl ?_
    exact Steps.refl _)
  have cE := cc21
  rw [hS0'] at cE
  obtain ⟨fs, hr_, hrun, hended, hW, hsame⟩ := X0.leave (v := some (.int a)) (fun h => by rw [Bd.returns] at h; cases h)
  refine ⟨_, _, cE.trans (X0.ireturnOut hx Bd.returns (rfl) (by simp) (own_d hby d8_10) hr_), hrun, hended, _, _, rfl, ?_, ⟨_, rfl⟩, hW, hsame.mono (by first | decide | omega) (by first | decide | omega)⟩
  show Q_own_min Z a b h0 n0 _ s₁.heap _
  rw [e0]
  exact ⟨rfl, N0, rfl⟩
theorem d9_0 : decode jdk_65_method_133_code 0 = .ok (.iload_n 1, 1) := by decide +kernel
theorem d9_1 : decode jdk_65_method_133_code 1 = .ok (.iload_n 2, 1) := by decide +kernel
theorem d9_2 : decode jdk_65_method_133_code 2 = .ok (.invokestatic 343, 3) := by decide +kernel
theorem d9_5 : decode jdk_65_method_133_code 5 = .ok (.iload_n 2, 1) := by decide +kernel
theorem d9_6 : decode jdk_65_method_133_code 6 = .ok (.iload_n 1, 1) := by decide +kernel
theorem d9_7 : decode jdk_65_method_133_code 7 = .ok (.isub, 1) := by decide +kernel
theorem d9_8 : decode jdk_65_method_133_code 8 = .ok (.istore_n 3, 1) := by decide +kernel
theorem d9_9 : decode jdk_65_method_133_code 9 = .ok (.iload_n 3, 1) := by decide +kernel
theorem d9_10 : decode jdk_65_method_133_code 10 = .ok (.newarray .byte, 2) := by decide +kernel
theorem d9_12 : decode jdk_65_method_133_code 12 = .ok (.astore 4, 2) := by decide +kernel
theorem d9_14 : decode jdk_65_method_133_code 14 = .ok (.aload_n 0, 1) := by decide +kernel
theorem d9_15 : decode jdk_65_method_133_code 15 = .ok (.iload_n 1, 1) := by decide +kernel
theorem d9_16 : decode jdk_65_method_133_code 16 = .ok (.aload 4, 2) := by decide +kernel
theorem d9_18 : decode jdk_65_method_133_code 18 = .ok (.iconst 0, 1) := by decide +kernel
theorem d9_19 : decode jdk_65_method_133_code 19 = .ok (.aload_n 0, 1) := by decide +kernel
theorem d9_20 : decode jdk_65_method_133_code 20 = .ok (.arraylength, 1) := by decide +kernel
theorem d9_21 : decode jdk_65_method_133_code 21 = .ok (.iload_n 1, 1) := by decide +kernel
theorem d9_22 : decode jdk_65_method_133_code 22 = .ok (.isub, 1) := by decide +kernel
theorem d9_23 : decode jdk_65_method_133_code 23 = .ok (.iload_n 3, 1) := by decide +kernel
theorem d9_24 : decode jdk_65_method_133_code 24 = .ok (.invokestatic 304, 3) := by decide +kernel
theorem d9_27 : decode jdk_65_method_133_code 27 = .ok (.invokestatic 150, 3) := by decide +kernel
theorem d9_30 : decode jdk_65_method_133_code 30 = .ok (.aload 4, 2) := by decide +kernel
theorem d9_32 : decode jdk_65_method_133_code 32 = .ok (.areturn, 1) := by decide +kernel
def Q_own_crb (Z : State) (a : Addr) (k : ClassId) (cs : List Int32) (h0 : Heap) (n0 : Nat) (v : Option Value) (h : Heap) (L : List Loc) : Prop := ∃ (t : Addr) (kt : ClassId), v = some (.ref t) ∧ Fr n0 L ∧ Keep h0 h [] ∧ h0.size ≤ t ∧ Arv Z h t kt .byte (Int32.ofNat (cs.length - 2)) (own_by (cs.drop 2)) (.int (0 : Int32))
set_option maxRecDepth 65536 in
set_option maxHeartbeats 40000000 in
theorem own_crb (l : Launch) (Z : State) (a0 : Array Value) (hw : ∀ d ∈ tables_1, d.before a0 Z = true) (a : Addr) (k : ClassId) (cs : List Int32) (h0 : Heap) (n0 : Nat) (Z0 : n0 ≤ h0.size) (A : Arv Z h0 a k .byte (Int32.ofNat cs.length) (own_by cs) (.int (0 : Int32))) (h2 : 2 < cs.length) (hn : cs.length ≤ 6) :
    MetFree l (⟨"java/util/Arrays", "copyOfRangeByte", "([BII)[B"⟩ : MethodName) (head1 [Jvm.Cond.code (⟨"java/util/Arrays", "copyOfRangeByte", "([BII)[B"⟩ : MethodName) jdk_65_method_133_code 5 (some (.array .byte))] ({ frames := 1, cells := 1, slots := 4, locals := 40 } : Room)) (fun a_ U_ => a_ = #[(.ref a), (.int 2), (.int (Int32.ofNat cs.length))] ∧ Z.Warmed39 U_.vm ∧ U_.heap = h0) (fun _ _ _ _ _ => True) (fun _ U_ o_ V_ => ∃ v_ L_, o_ = .returned v_ ∧ Q_own_crb Z a k cs h0 n0 v_ V_.heap L_ ∧ FrameEnd U_ o_ V_ L_ ({ frames := 1, cells := 1, slots := 4, locals := 40 } : Room).cells ({ frames := 1, cells := 1, slots := 4, locals := 40 } : Room).slots) := by
  refine MetFree.of_bodySF (plainFor_of_name own_pn3) hisR ?_
  intro p e s m args below meth c s₁ Bd hml0 hP hK
  obtain ⟨rfl, hZ, hh⟩ := hP
  have hx := Bd.exec
  have hby := Bd.bytes
  have hml : c.maxLocals = 5 := hml0
  have hown : s.vm.findClass "java/util/Arrays" = some m.cls := findClass_of_methodNamed Bd.named
  have hnm := (name_of_methodNamed Bd.named Bd.method).1
  have X0 : Stand p l e ({ frames := 1, cells := 1, slots := 4, locals := 40 } : Room) s m #[(.ref a), (.int 2), (.int (Int32.ofNat cs.length))] below meth c s₁ [] 0 0 := Stand.of_body Bd
  have e0 : s₁.heap = h0 := by rw [← hh, Bd.state]; rfl
  have N0 := Fr.nil n0
  have KK0 := Keep.refl h0 ([] : List Addr)
  have cc0 : Steps p.tables e below (s₁.setTop (entryFrame m #[(.ref a), (.int 2), (.int (Int32.ofNat cs.length))] 5)) (s₁.setTop (mkF m 0 #[.val (.ref a), .val (.int 2), .val (.int (Int32.ofNat cs.length)), .unset, .unset] [])) := XT.entry rfl
  obtain ⟨S0', hS0'⟩ : ∃ S, S = (s₁.setTop (entryFrame m #[(.ref a), (.int 2), (.int (Int32.ofNat cs.length))] 5)) := ⟨_, rfl⟩
  rw [← hS0'] at cc0
  have w_113 := hw _ (List.mem_of_getElem? (i := 113) rfl)
  have w_120 := hw _ (List.mem_of_getElem? (i := 120) rfl)
  have w_123 := hw _ (List.mem_of_getElem? (i := 123) rfl)
  have w_124 := hw _ (List.mem_of_getElem? (i := 124) rfl)
  have cc21 : Steps p.tables e below S0' (s₁.setTop (mkF m 2 #[.val (.ref a), .val (.int 2), .val (.int (Int32.ofNat cs.length)), .unset, .unset] [(.int (Int32.ofNat cs.length)), (.int 2)])) := Steps.trans cc0 (by
    refine XS.iloadN X0.here hx rfl (own_d hby d9_0) rfl ?_
    refine XS.iloadN X0.here hx rfl (own_d hby d9_1) rfl ?_
    exact Steps.refl _)
  obtain ⟨_, _, ⟨T22, L22, k22, n22⟩, -, X22, ⟨Lc22, hQ22, l22, y22, z22⟩, st22⟩ := Jvm.LawKit.callS X0 hx (y := (⟨"java/util/Arrays", "checkLength", "(II)V"⟩ : MethodName)) hown (mvT hZ (hw _ (List.mem_of_getElem? (i := 118) rfl))) (mvT hZ (hw _ (List.mem_of_getElem? (i := 119) rfl))) (mvT hZ w_113) (mvT hZ w_120) (by decide) (backOf (W := 0) (own_chk l Z a0 hw 2 (Int32.ofNat cs.length) h0 n0 Z0 (nlt32 (b := 2) (by omega) (by omega))) hZ w_120 w_113 (by decide) (by decide)) (g := (mkF m 2 #[.val (.ref a), .val (.int 2), .val (.int (Int32.ofNat cs.length)), .unset, .unset] [(.int (Int32.ofNat cs.length)), (.int 2)])) rfl (by rw [hml]; rfl) (argsL := [(.int 2), (.int (Int32.ofNat cs.length))]) (rest := []) (lenOf own_pd5 rfl) rfl (by show 2 * 0 + _ ≤ _; exact Nat.le_of_eq rfl) (own_d hby d9_2) (fun _ _ => ⟨rfl, e0, Nat.le_of_ble_eq_true rfl, Nat.le_of_ble_eq_true rfl⟩)
  dsimp only [Pt.U, Pt.locs, Pt.cells, Pt.slots] at X22 l22 y22 z22 st22 hQ22
  subst l22 y22 z22
  obtain ⟨rfl, Nq22, eq22⟩ := hQ22
  have N22 := Fr.app N0 Nq22
  have e22 : T22.heap = h0 := eq22
  have cc23 : Steps p.tables e below S0' (T22.setTop (mkF m 8 #[.val (.ref a), .val (.int 2), .val (.int (Int32.ofNat cs.length)), .unset, .unset] [(.int ((Int32.ofNat cs.length) - (2 : Int32)))])) := Steps.trans (cc21.trans (st22 _ (Steps.refl _))) (by
    refine XS.iloadN X22.here hx rfl (own_d hby d9_5) rfl ?_
    refine XS.iloadN X22.here hx rfl (own_d hby d9_6) rfl ?_
    refine XS.isub X22.here hx rfl (own_d hby d9_7) rfl ?_
    exact Steps.refl _)
  have es : Int32.ofNat cs.length - 2 = Int32.ofNat (cs.length - 2) := sub32n (b := 2) (by omega)
  have ng : ¬ Int32.ofNat (cs.length - 2) < 0 := Int32.ofNat_not_neg (by omega)
  have en : (Int32.ofNat (cs.length - 2)).toNatClampNeg = cs.length - 2 := n32 (by omega)
  have cz : Steps p.tables e below S0' (T22.setTop (mkF m 8 #[.val (.ref a), .val (.int 2), .val (.int (Int32.ofNat cs.length)), .unset, .unset] [(.int (Int32.ofNat (cs.length - 2)))])) := by
    have := cc23
    rw [es] at this
    exact this
  have cc24 : Steps p.tables e below S0' (T22.setTop (mkF m 10 #[.val (.ref a), .val (.int 2), .val (.int (Int32.ofNat cs.length)), .val (.int (Int32.ofNat (cs.length - 2))), .unset] [(.int (Int32.ofNat (cs.length - 2)))])) := Steps.trans cz (by
    refine XS.istoreN X22.here hx rfl (own_d hby d9_8) rfl rfl ?_
    refine XS.iloadN X22.here hx rfl (own_d hby d9_9) rfl ?_
    exact Steps.refl _)
  obtain ⟨T25, h25, k25, X25, e25, E25, A25, st25⟩ := newP X22 hx hZ (aty := .byte) (hw _ (List.mem_of_getElem? (i := 26) rfl)) e22 (g := (mkF m 10 #[.val (.ref a), .val (.int 2), .val (.int (Int32.ofNat cs.length)), .val (.int (Int32.ofNat (cs.length - 2))), .unset] [(.int (Int32.ofNat (cs.length - 2)))])) rfl (own_d hby d9_10) rfl ng (cap := 4) (by rw [en]; omega) (by decide) (by decide) (by decide)
  obtain ⟨t, g_t⟩ : ∃ z, z = h0.size := ⟨_, rfl⟩
  rw [← g_t] at A25 st25
  have K25 := (Keep.refl h0 ([] : List Addr)).ext E25
  have b_t : h0.size ≤ t := (Nat.le_of_eq g_t.symm)
  have gn_t : n0 ≤ t := Nat.le_trans Z0 b_t
  have s0_t : h0.size ≤ t := Nat.le_trans KK0.1 b_t
  have ne_a_t : a ≠ t := Nat.ne_of_lt (Nat.lt_of_lt_of_le A.lt b_t)
  have KK1 : Keep h0 h25 ([] : List Addr) := KK0.trans K25 all0
  have Zs1 : n0 ≤ h25.size := Nat.le_trans Z0 K25.1
  have Vp : Arv Z h25 t k25 .byte (Int32.ofNat (cs.length - 2)) ([] ++ List.replicate (cs.length - 2) (.int (0 : Int32))) (.int (0 : Int32)) := (Arv.new A25 ng).pad (pad_rep [] _ _)
  have cc27 : Steps p.tables e below S0' (T25.setTop (mkF m 20 #[.val (.ref a), .val (.int 2), .val (.int (Int32.ofNat cs.length)), .val (.int (Int32.ofNat (cs.length - 2))), .val (.ref t)] [(.ref a), (.int 0), (.ref t), (.int 2), (.ref a)])) := Steps.trans (cc24.trans (st25 _ (Steps.refl _))) (by
    refine XS.astore X25.here hx rfl (own_d hby d9_12) rfl rfl rfl ?_
    refine XS.aloadN X25.here hx rfl (own_d hby d9_14) rfl rfl ?_
    refine XS.iloadN X25.here hx rfl (own_d hby d9_15) rfl ?_
    refine XS.aload X25.here hx rfl (own_d hby d9_16) rfl rfl ?_
    refine iconstV X25.here hx rfl 0 (own_d hby d9_18) (by decide) ?_
    refine XS.aloadN X25.here hx rfl (own_d hby d9_19) rfl rfl ?_
    exact Steps.refl _)
  have fa26 : Arv Z h25 a k .byte (Int32.ofNat cs.length) (own_by cs) (.int (0 : Int32)) := (A.keep K25 nin0)
  obtain ⟨clu28, Aru28, -, Su28, Ngu28, -, -⟩ := id fa26
  have cl_u28 := X25.arraylength hx (by rw [e25]; exact Aru28.1) (State.isArrayOf_alike (hZ).alike Aru28.2.1) (g := (mkF m 20 #[.val (.ref a), .val (.int 2), .val (.int (Int32.ofNat cs.length)), .val (.int (Int32.ofNat (cs.length - 2))), .val (.ref t)] [(.ref a), (.int 0), (.ref t), (.int 2), (.ref a)])) rfl rfl (own_d hby d9_20) _ (Steps.refl _)
  rw [len_of Su28 Ngu28] at cl_u28
  have cc29 : Steps p.tables e below S0' (T25.setTop (mkF m 24 #[.val (.ref a), .val (.int 2), .val (.int (Int32.ofNat cs.length)), .val (.int (Int32.ofNat (cs.length - 2))), .val (.ref t)] [(.int (Int32.ofNat (cs.length - 2))), (.int ((Int32.ofNat cs.length) - (2 : Int32))), (.int 0), (.ref t), (.int 2), (.ref a)])) := Steps.trans (Steps.trans cc27 cl_u28) (by
    refine XS.iloadN X25.here hx rfl (own_d hby d9_21) rfl ?_
    refine XS.isub X25.here hx rfl (own_d hby d9_22) rfl ?_
    refine XS.iloadN X25.here hx rfl (own_d hby d9_23) rfl ?_
    exact Steps.refl _)
  have cy : Steps p.tables e below S0' (T25.setTop (mkF m 24 #[.val (.ref a), .val (.int 2), .val (.int (Int32.ofNat cs.length)), .val (.int (Int32.ofNat (cs.length - 2))), .val (.ref t)] [(.int (Int32.ofNat (cs.length - 2))), (.int (Int32.ofNat (cs.length - 2))), (.int 0), (.ref t), (.int 2), (.ref a)])) := by
    have := cc29
    rw [es] at this
    exact this
  obtain ⟨_, _, ⟨T30, L30, k30, n30⟩, -, X30, ⟨Lc30, hQ30, l30, y30, z30⟩, st30⟩ := Jvm.LawKit.callS X25 hx (y := (⟨"java/lang/Math", "min", "(II)I"⟩ : MethodName)) hown (mvT hZ (hw _ (List.mem_of_getElem? (i := 121) rfl))) (mvT hZ (hw _ (List.mem_of_getElem? (i := 122) rfl))) (mvT hZ w_123) (mvT hZ w_124) (by decide) (backOf (W := 4) (own_min l Z a0 hw (Int32.ofNat (cs.length - 2)) (Int32.ofNat (cs.length - 2)) h25 n0 Zs1 (nlt32 (by omega) (Nat.le_refl _))) hZ w_124 w_123 (by decide) (by decide)) (g := (mkF m 24 #[.val (.ref a), .val (.int 2), .val (.int (Int32.ofNat cs.length)), .val (.int (Int32.ofNat (cs.length - 2))), .val (.ref t)] [(.int (Int32.ofNat (cs.length - 2))), (.int (Int32.ofNat (cs.length - 2))), (.int 0), (.ref t), (.int 2), (.ref a)])) rfl (by rw [hml]; rfl) (argsL := [(.int (Int32.ofNat (cs.length - 2))), (.int (Int32.ofNat (cs.length - 2)))]) (rest := [(.int 0), (.ref t), (.int 2), (.ref a)]) (lenOf own_pd6 rfl) rfl (by show 2 * 0 + _ ≤ _; exact Nat.le_of_eq rfl) (own_d hby d9_24) (fun _ _ => ⟨rfl, e25, Nat.le_of_ble_eq_true rfl, Nat.le_of_ble_eq_true rfl⟩)
  dsimp only [Pt.U, Pt.locs, Pt.cells, Pt.slots] at X30 l30 y30 z30 st30 hQ30
  subst l30 y30 z30
  obtain ⟨rfl, Nq30, eq30⟩ := hQ30
  have N30 := Fr.app N22 Nq30
  have e30 : T30.heap = h25 := eq30
  have cc31 : Steps p.tables e below S0' (T30.setTop (mkF m 27 #[.val (.ref a), .val (.int 2), .val (.int (Int32.ofNat cs.length)), .val (.int (Int32.ofNat (cs.length - 2))), .val (.ref t)] [(.int (Int32.ofNat (cs.length - 2))), (.int 0), (.ref t), (.int 2), (.ref a)])) := (cy.trans (st30 _ (Steps.refl _)))
  obtain ⟨T32, h32, L32, X32, e32, N32, K32, V32, st32⟩ := cpA X30 hx hZ hown (hw _ (List.mem_of_getElem? (i := 125) rfl)) (hw _ (List.mem_of_getElem? (i := 128) rfl)) (hw _ (List.mem_of_getElem? (i := 126) rfl)) (hw _ (List.mem_of_getElem? (i := 127) rfl)) e30 fa26 Vp (Or.inl ⟨rfl, rfl⟩) (by decide) (by decide) ng (us := (own_by (cs.drop 2))) (by rw [en, n32 (by omega)]; show 2 + _ ≤ _; omega) (by rw [en]; show 0 + _ ≤ _; omega) (by rw [en]; exact own_drop cs 2) (by rw [en]; show 0 + _ ≤ _; simp) N30 gn_t (g := (mkF m 27 #[.val (.ref a), .val (.int 2), .val (.int (Int32.ofNat cs.length)), .val (.int (Int32.ofNat (cs.length - 2))), .val (.ref t)] [(.int (Int32.ofNat (cs.length - 2))), (.int 0), (.ref t), (.int 2), (.ref a)])) rfl (by rw [hml]; rfl) rfl (own_d hby d9_27) (by decide) (W := 0) (by show 2 * 0 + _ ≤ _; exact Nat.le_of_eq rfl) (by decide)
  have KK2 : Keep h0 h32 ([] : List Addr) := KK1.trans K32 (allS (Or.inr s0_t) all0)
  have Zs2 : n0 ≤ h32.size := Nat.le_trans Zs1 K32.1
  have V32' : Arv Z h32 t k25 .byte (Int32.ofNat (cs.length - 2)) (own_by (cs.drop 2)) (.int (0 : Int32)) := own_arv_eq V32 (by rw [en]; show [] ++ _ ++ List.drop (0 + (cs.length - 2)) _ = _; simp)
  have cc33 : Steps p.tables e below S0' (T32.setTop (mkF m 32 #[.val (.ref a), .val (.int 2), .val (.int (Int32.ofNat cs.length)), .val (.int (Int32.ofNat (cs.length - 2))), .val (.ref t)] [(.ref t)])) := Steps.trans (cc31.trans (st32 _ (Steps.refl _))) (by
    refine XS.aload X32.here hx rfl (own_d hby d9_30) rfl rfl ?_
    exact Steps.refl _)
  have cE := cc33
  rw [hS0'] at cE
  obtain ⟨fs, hr_, hrun, hended, hW, hsame⟩ := X32.leave (v := some (.ref t)) (fun h => by rw [Bd.returns] at h; cases h)
  refine ⟨_, _, cE.trans (X32.areturnOut hx (rfl) Bd.returns rfl (own_d hby d9_32) hr_), hrun, hended, _, _, rfl, ?_, ⟨_, rfl⟩, hW, hsame.mono (by first | decide | omega) (by first | decide | omega)⟩
  show Q_own_crb Z a k cs h0 n0 _ T32.heap _
  rw [e32]
  exact ⟨t, _, rfl, N32, KK2, s0_t, V32'⟩
theorem d10_0 : decode jdk_65_method_132_code 0 = .ok (.iload_n 1, 1) := by decide +kernel
theorem d10_1 : decode jdk_65_method_132_code 1 = .ok (.ifCond .ne 9, 3) := by decide +kernel
theorem d10_10 : decode jdk_65_method_132_code 10 = .ok (.aload_n 0, 1) := by decide +kernel
theorem d10_11 : decode jdk_65_method_132_code 11 = .ok (.iload_n 1, 1) := by decide +kernel
theorem d10_12 : decode jdk_65_method_132_code 12 = .ok (.iload_n 2, 1) := by decide +kernel
theorem d10_13 : decode jdk_65_method_132_code 13 = .ok (.invokestatic 339, 3) := by decide +kernel
theorem d10_16 : decode jdk_65_method_132_code 16 = .ok (.areturn, 1) := by decide +kernel
def Q_own_cr (Z : State) (a : Addr) (k : ClassId) (cs : List Int32) (h0 : Heap) (n0 : Nat) (v : Option Value) (h : Heap) (L : List Loc) : Prop := ∃ (t : Addr) (kt : ClassId), v = some (.ref t) ∧ Fr n0 L ∧ Keep h0 h [] ∧ h0.size ≤ t ∧ Arv Z h t kt .byte (Int32.ofNat (cs.length - 2)) (own_by (cs.drop 2)) (.int (0 : Int32))
set_option maxRecDepth 65536 in
set_option maxHeartbeats 40000000 in
theorem own_cr (l : Launch) (Z : State) (a0 : Array Value) (hw : ∀ d ∈ tables_1, d.before a0 Z = true) (a : Addr) (k : ClassId) (cs : List Int32) (h0 : Heap) (n0 : Nat) (Z0 : n0 ≤ h0.size) (A : Arv Z h0 a k .byte (Int32.ofNat cs.length) (own_by cs) (.int (0 : Int32))) (h2 : 2 < cs.length) (hn : cs.length ≤ 6) :
    MetFree l (⟨"java/util/Arrays", "copyOfRange", "([BII)[B"⟩ : MethodName) (head1 [Jvm.Cond.code (⟨"java/util/Arrays", "copyOfRange", "([BII)[B"⟩ : MethodName) jdk_65_method_132_code 3 (some (.array .byte))] ({ frames := 2, cells := 1, slots := 4, locals := 56 } : Room)) (fun a_ U_ => a_ = #[(.ref a), (.int 2), (.int (Int32.ofNat cs.length))] ∧ Z.Warmed39 U_.vm ∧ U_.heap = h0) (fun _ _ _ _ _ => True) (fun _ U_ o_ V_ => ∃ v_ L_, o_ = .returned v_ ∧ Q_own_cr Z a k cs h0 n0 v_ V_.heap L_ ∧ FrameEnd U_ o_ V_ L_ ({ frames := 2, cells := 1, slots := 4, locals := 56 } : Room).cells ({ frames := 2, cells := 1, slots := 4, locals := 56 } : Room).slots) := by
  refine MetFree.of_bodySF (plainFor_of_name own_pn3) hisR ?_
  intro p e s m args below meth c s₁ Bd hml0 hP hK
  obtain ⟨rfl, hZ, hh⟩ := hP
  have hx := Bd.exec
  have hby := Bd.bytes
  have hml : c.maxLocals = 3 := hml0
  have hown : s.vm.findClass "java/util/Arrays" = some m.cls := findClass_of_methodNamed Bd.named
  have hnm := (name_of_methodNamed Bd.named Bd.method).1
  have X0 : Stand p l e ({ frames := 2, cells := 1, slots := 4, locals := 56 } : Room) s m #[(.ref a), (.int 2), (.int (Int32.ofNat cs.length))] below meth c s₁ [] 0 0 := Stand.of_body Bd
  have e0 : s₁.heap = h0 := by rw [← hh, Bd.state]; rfl
  have N0 := Fr.nil n0
  have KK0 := Keep.refl h0 ([] : List Addr)
  have cc0 : Steps p.tables e below (s₁.setTop (entryFrame m #[(.ref a), (.int 2), (.int (Int32.ofNat cs.length))] 3)) (s₁.setTop (mkF m 0 #[.val (.ref a), .val (.int 2), .val (.int (Int32.ofNat cs.length))] [])) := XT.entry rfl
  obtain ⟨S0', hS0'⟩ : ∃ S, S = (s₁.setTop (entryFrame m #[(.ref a), (.int 2), (.int (Int32.ofNat cs.length))] 3)) := ⟨_, rfl⟩
  rw [← hS0'] at cc0
  have w_113 := hw _ (List.mem_of_getElem? (i := 113) rfl)
  have w_117 := hw _ (List.mem_of_getElem? (i := 117) rfl)
  have cc21 : Steps p.tables e below S0' (s₁.setTop (mkF m 13 #[.val (.ref a), .val (.int 2), .val (.int (Int32.ofNat cs.length))] [(.int (Int32.ofNat cs.length)), (.int 2), (.ref a)])) := Steps.trans cc0 (by
    refine XS.iloadN X0.here hx rfl (own_d hby d10_0) rfl ?_
    refine XS.ifYes X0.here hx rfl (pc0 := 1) rfl (own_d hby d10_1) rfl (i0_ne_t (by decide)) (by decide) rfl ?_
    refine XS.aloadN X0.here hx rfl (own_d hby d10_10) rfl rfl ?_
    refine XS.iloadN X0.here hx rfl (own_d hby d10_11) rfl ?_
    refine XS.iloadN X0.here hx rfl (own_d hby d10_12) rfl ?_
    exact Steps.refl _)
  obtain ⟨_, _, ⟨T22, L22, k22, n22⟩, -, X22, ⟨Lc22, hQ22, l22, y22, z22⟩, st22⟩ := Jvm.LawKit.callS X0 hx (y := (⟨"java/util/Arrays", "copyOfRangeByte", "([BII)[B"⟩ : MethodName)) hown (mvT hZ (hw _ (List.mem_of_getElem? (i := 115) rfl))) (mvT hZ (hw _ (List.mem_of_getElem? (i := 116) rfl))) (mvT hZ w_113) (mvT hZ w_117) (by decide) (backOf (W := 0) (own_crb l Z a0 hw a k cs h0 n0 Z0 A h2 hn) hZ w_117 w_113 (by decide) (by decide)) (g := (mkF m 13 #[.val (.ref a), .val (.int 2), .val (.int (Int32.ofNat cs.length))] [(.int (Int32.ofNat cs.length)), (.int 2), (.ref a)])) rfl (by rw [hml]; rfl) (argsL := [(.ref a), (.int 2), (.int (Int32.ofNat cs.length))]) (rest := []) (lenOf own_pd7 rfl) rfl (by show 2 * 0 + _ ≤ _; exact Nat.le_of_eq rfl) (own_d hby d10_13) (fun _ _ => ⟨rfl, e0, Nat.le_of_ble_eq_true rfl, Nat.le_of_ble_eq_true rfl⟩)
  dsimp only [Pt.U, Pt.locs, Pt.cells, Pt.slots] at X22 l22 y22 z22 st22 hQ22
  subst l22 y22 z22
  obtain ⟨t, kt, rfl, Nq22, Kq22, sq22, Aq22⟩ := hQ22
  have N22 := Fr.app N0 Nq22
  have KK1 : Keep h0 T22.heap ([] : List Addr) := KK0.trans Kq22 all0
  have Zs1 : n0 ≤ T22.heap.size := Nat.le_trans Z0 Kq22.1
  have e22 : T22.heap = T22.heap := rfl
  have cc23 : Steps p.tables e below S0' (T22.setTop (mkF m 16 #[.val (.ref a), .val (.int 2), .val (.int (Int32.ofNat cs.length))] [(.ref t)])) := (cc21.trans (st22 _ (Steps.refl _)))
  have cE := cc23
  rw [hS0'] at cE
  obtain ⟨fs, hr_, hrun, hended, hW, hsame⟩ := X22.leave (v := some (.ref t)) (fun h => by rw [Bd.returns] at h; cases h)
  refine ⟨_, _, cE.trans (X22.areturnOut hx (rfl) Bd.returns rfl (own_d hby d10_16) hr_), hrun, hended, _, _, rfl, ?_, ⟨_, rfl⟩, hW, hsame.mono (by first | decide | omega) (by first | decide | omega)⟩
  show Q_own_cr Z a k cs h0 n0 _ T22.heap _
  rw [e22]
  exact ⟨t, kt, rfl, N22, KK1, sq22, Aq22⟩
theorem d11_0 : decode jdk_42_method_151_code 0 = .ok (.aload_n 0, 1) := by decide +kernel
theorem d11_1 : decode jdk_42_method_151_code 1 = .ok (.invokespecial 1, 3) := by decide +kernel
theorem d11_4 : decode jdk_42_method_151_code 4 = .ok (.aload_n 0, 1) := by decide +kernel
theorem d11_5 : decode jdk_42_method_151_code 5 = .ok (.aload_n 1, 1) := by decide +kernel
theorem d11_6 : decode jdk_42_method_151_code 6 = .ok (.putfield 9, 3) := by decide +kernel
theorem d11_9 : decode jdk_42_method_151_code 9 = .ok (.aload_n 0, 1) := by decide +kernel
theorem d11_10 : decode jdk_42_method_151_code 10 = .ok (.iload_n 2, 1) := by decide +kernel
theorem d11_11 : decode jdk_42_method_151_code 11 = .ok (.putfield 15, 3) := by decide +kernel
theorem d11_14 : decode jdk_42_method_151_code 14 = .ok (.return_, 1) := by decide +kernel
def Q_own_ibb (Z : State) (x t : Addr) (h0 : Heap) (n0 : Nat) (v : Option Value) (h : Heap) (L : List Loc) : Prop := v = none ∧ Fr n0 L ∧ Keep h0 h [x] ∧ Exa Z h x "java/lang/String" ∧ Fld Z h x "java/lang/String" "coder" "B" (.int (0 : Int32)) ∧ Fld Z h x "java/lang/String" "value" "[B" (.ref t)
set_option maxRecDepth 65536 in
set_option maxHeartbeats 40000000 in
theorem own_ibb (l : Launch) (Z : State) (a0 : Array Value) (hw : ∀ d ∈ tables_1, d.before a0 Z = true) (x t : Addr) (h0 : Heap) (n0 : Nat) (Z0 : n0 ≤ h0.size) (E : Exa Z h0 x "java/lang/String") (V : Fld Z h0 x "java/lang/String" "value" "[B" .null) (C : Fld Z h0 x "java/lang/String" "coder" "B" (.int (0 : Int32))) (gx : n0 ≤ x) :
    MetFree l (⟨"java/lang/String", "<init>", "([BB)V"⟩ : MethodName) (head1 [Jvm.Cond.code (⟨"java/lang/String", "<init>", "([BB)V"⟩ : MethodName) jdk_42_method_151_code 3 none] ({ frames := 1, cells := 0, slots := 0, locals := 12 } : Room)) (fun a_ U_ => a_ = #[(.ref x), (.ref t), (.int 0)] ∧ Z.Warmed39 U_.vm ∧ U_.heap = h0) (fun _ _ _ _ _ => True) (fun _ U_ o_ V_ => ∃ v_ L_, o_ = .returned v_ ∧ Q_own_ibb Z x t h0 n0 v_ V_.heap L_ ∧ FrameEnd U_ o_ V_ L_ ({ frames := 1, cells := 0, slots := 0, locals := 12 } : Room).cells ({ frames := 1, cells := 0, slots := 0, locals := 12 } : Room).slots) := by
  refine MetFree.of_bodySF (plainFor_of_name own_pn0) hisR ?_
  intro p e s m args below meth c s₁ Bd hml0 hP hK
  obtain ⟨rfl, hZ, hh⟩ := hP
  have hx := Bd.exec
  have hby := Bd.bytes
  have hml : c.maxLocals = 3 := hml0
  have hown : s.vm.findClass "java/lang/String" = some m.cls := findClass_of_methodNamed Bd.named
  have hnm := (name_of_methodNamed Bd.named Bd.method).1
  have X0 : Stand p l e ({ frames := 1, cells := 0, slots := 0, locals := 12 } : Room) s m #[(.ref x), (.ref t), (.int 0)] below meth c s₁ [] 0 0 := Stand.of_body Bd
  have e0 : s₁.heap = h0 := by rw [← hh, Bd.state]; rfl
  have N0 := Fr.nil n0
  have KK0 := Keep.refl h0 [x]
  have cc0 : Steps p.tables e below (s₁.setTop (entryFrame m #[(.ref x), (.ref t), (.int 0)] 3)) (s₁.setTop (mkF m 0 #[.val (.ref x), .val (.ref t), .val (.int 0)] [])) := XT.entry rfl
  obtain ⟨S0', hS0'⟩ : ∃ S, S = (s₁.setTop (entryFrame m #[(.ref x), (.ref t), (.int 0)] 3)) := ⟨_, rfl⟩
  rw [← hS0'] at cc0
  have w_8 := hw _ (List.mem_of_getElem? (i := 8) rfl)
  have w_34 := hw _ (List.mem_of_getElem? (i := 34) rfl)
  have w_36 := hw _ (List.mem_of_getElem? (i := 36) rfl)
  have cc21 : Steps p.tables e below S0' (s₁.setTop (mkF m 1 #[.val (.ref x), .val (.ref t), .val (.int 0)] [(.ref x)])) := Steps.trans cc0 (by
    refine XS.aloadN X0.here hx rfl (own_d hby d11_0) rfl rfl ?_
    exact Steps.refl _)
  obtain ⟨T22, X22, e22, st22⟩ := initO X0 hx hZ hown (hw _ (List.mem_of_getElem? (i := 18) rfl)) (hw _ (List.mem_of_getElem? (i := 19) rfl)) (hw _ (List.mem_of_getElem? (i := 20) rfl)) e0 (g := (mkF m 1 #[.val (.ref x), .val (.ref t), .val (.int 0)] [(.ref x)])) rfl (by rw [hml]; rfl) rfl (own_d hby d11_1) (by decide) (W := 0) (by show 2 * 0 + _ ≤ _; exact Nat.le_of_eq rfl) (by decide)
  have cc23 : Steps p.tables e below S0' (T22.setTop (mkF m 6 #[.val (.ref x), .val (.ref t), .val (.int 0)] [(.ref t), (.ref x)])) := Steps.trans (cc21.trans (st22 _ (Steps.refl _))) (by
    refine XS.aloadN X22.here hx rfl (own_d hby d11_4) rfl rfl ?_
    refine XS.aloadN X22.here hx rfl (own_d hby d11_5) rfl rfl ?_
    exact Steps.refl _)
  obtain ⟨T24, h24, X24, e24, W24, st24⟩ := putF X22 hx hZ hown (host := "") (Or.inl (hw _ (List.mem_of_getElem? (i := 35) rfl))) Via.refl e22 V E (Or.inr ⟨w_36, rfl, hnm⟩) w_8 (ty := (.array .byte)) (by decide) rfl rfl (g := (mkF m 6 #[.val (.ref x), .val (.ref t), .val (.int 0)] [(.ref t), (.ref x)])) rfl rfl (own_d hby d11_6)
  have K24 := Keep.of_wr W24
  have N24 := Fr.snoc X24 N0 gx
  have KK1 : Keep h0 h24 [x] := KK0.trans K24 (allS (Or.inl (List.mem_of_getElem? (i := 0) rfl)) all0)
  have Zs1 : n0 ≤ h24.size := Nat.le_trans Z0 K24.1
  have cc26 : Steps p.tables e below S0' (T24.setTop (mkF m 11 #[.val (.ref x), .val (.ref t), .val (.int 0)] [(.int 0), (.ref x)])) := Steps.trans (cc23.trans (st24 _ (Steps.refl _))) (by
    refine XS.aloadN X24.here hx rfl (own_d hby d11_9) rfl rfl ?_
    refine XS.iloadN X24.here hx rfl (own_d hby d11_10) rfl ?_
    exact Steps.refl _)
  have fa25 : Fld Z h24 x "java/lang/String" "coder" "B" (.int (0 : Int32)) := (C.other W24 (Or.inr (slot_ne (Or.inr w_34) (Or.inr w_36) (by decide) (t := .byte) (t' := (.array .byte)) (by decide) (by decide))))
  have fa27 : Exa Z h24 x "java/lang/String" := (E.keep K24)
  obtain ⟨T28, h28, X28, e28, W28, st28⟩ := putFN X24 hx hZ hown (hw _ (List.mem_of_getElem? (i := 33) rfl)) Via.refl e24 fa25 fa27 (Or.inr ⟨w_34, rfl, hnm⟩) w_8 (ty := .byte) (v' := (.int (0 : Int32))) (by decide) rfl rfl (g := (mkF m 11 #[.val (.ref x), .val (.ref t), .val (.int 0)] [(.int 0), (.ref x)])) rfl rfl (own_d hby d11_11)
  have K28 := Keep.of_wr W28
  have N28 := Fr.snoc X28 N24 gx
  have KK2 : Keep h0 h28 [x] := KK1.trans K28 (allS (Or.inl (List.mem_of_getElem? (i := 0) rfl)) all0)
  have Zs2 : n0 ≤ h28.size := Nat.le_trans Zs1 K28.1
  have cc30 : Steps p.tables e below S0' (T28.setTop (mkF m 14 #[.val (.ref x), .val (.ref t), .val (.int 0)] [])) := (cc26.trans (st28 _ (Steps.refl _)))
  have fa29 : Exa Z h28 x "java/lang/String" := (fa27.keep K28)
  have fa31 : Fld Z h28 x "java/lang/String" "value" "[B" (.ref t) := ((Fld.same W24 V).other W28 (Or.inr (slot_ne (Or.inr w_36) (Or.inr w_34) (by decide) (t := (.array .byte)) (t' := .byte) (by decide) (by decide))))
  have cE := cc30
  rw [hS0'] at cE
  obtain ⟨fs, hr_, hrun, hended, hW, hsame⟩ := X28.leave (v := none) (fun _ => rfl)
  refine ⟨_, _, cE.trans (X28.returnOut hx Bd.returns (own_d hby d11_14) hr_), hrun, hended, _, _, rfl, ?_, ⟨_, rfl⟩, hW, hsame.mono (by first | decide | omega) (by first | decide | omega)⟩
  show Q_own_ibb Z x t h0 n0 _ T28.heap _
  rw [e28]
  exact ⟨rfl, N28, KK2, fa29, (Fld.same W28 fa25), fa31⟩
theorem d12_0 : decode jdk_43_method_47_code 0 = .ok (.iload_n 2, 1) := by decide +kernel
theorem d12_1 : decode jdk_43_method_47_code 1 = .ok (.ifCond .ne 6, 3) := by decide +kernel
theorem d12_7 : decode jdk_43_method_47_code 7 = .ok (.new 1, 3) := by decide +kernel
theorem d12_10 : decode jdk_43_method_47_code 10 = .ok (.dup, 1) := by decide +kernel
theorem d12_11 : decode jdk_43_method_47_code 11 = .ok (.aload_n 0, 1) := by decide +kernel
theorem d12_12 : decode jdk_43_method_47_code 12 = .ok (.iload_n 1, 1) := by decide +kernel
theorem d12_13 : decode jdk_43_method_47_code 13 = .ok (.iload_n 1, 1) := by decide +kernel
theorem d12_14 : decode jdk_43_method_47_code 14 = .ok (.iload_n 2, 1) := by decide +kernel
theorem d12_15 : decode jdk_43_method_47_code 15 = .ok (.iadd, 1) := by decide +kernel
theorem d12_16 : decode jdk_43_method_47_code 16 = .ok (.invokestatic 232, 3) := by decide +kernel
theorem d12_19 : decode jdk_43_method_47_code 19 = .ok (.iconst 0, 1) := by decide +kernel
theorem d12_20 : decode jdk_43_method_47_code 20 = .ok (.invokespecial 112, 3) := by decide +kernel
theorem d12_23 : decode jdk_43_method_47_code 23 = .ok (.areturn, 1) := by decide +kernel
def Q_own_ns (Z : State) (a : Addr) (k : ClassId) (cs : List Int32) (h0 : Heap) (n0 : Nat) (v : Option Value) (h : Heap) (L : List Loc) : Prop := ∃ x' : Addr, v = some (.ref x') ∧ Fr n0 L ∧ Keep h0 h [] ∧ h0.size ≤ x' ∧ own_Lat Z h x' (cs.drop 2)
set_option maxRecDepth 65536 in
set_option maxHeartbeats 40000000 in
theorem own_ns (l : Launch) (Z : State) (a0 : Array Value) (hw : ∀ d ∈ tables_1, d.before a0 Z = true) (a : Addr) (k : ClassId) (cs : List Int32) (h0 : Heap) (n0 : Nat) (Z0 : n0 ≤ h0.size) (A : Arv Z h0 a k .byte (Int32.ofNat cs.length) (own_by cs) (.int (0 : Int32))) (h2 : 2 < cs.length) (hn : cs.length ≤ 6) (hp : ∀ c ∈ cs, ¬ c < 0 ∧ ¬ (255 : Int32) < c) :
    MetFree l (⟨"java/lang/StringLatin1", "newString", "([BII)Ljava/lang/String;"⟩ : MethodName) (head1 [Jvm.Cond.code (⟨"java/lang/StringLatin1", "newString", "([BII)Ljava/lang/String;"⟩ : MethodName) jdk_43_method_47_code 3 (some (.object "java/lang/String"))] ({ frames := 3, cells := 2, slots := 8, locals := 72 } : Room)) (fun a_ U_ => a_ = #[(.ref a), (.int 2), (.int (Int32.ofNat (cs.length - 2)))] ∧ Z.Warmed39 U_.vm ∧ U_.heap = h0) (fun _ _ _ _ _ => True) (fun _ U_ o_ V_ => ∃ v_ L_, o_ = .returned v_ ∧ Q_own_ns Z a k cs h0 n0 v_ V_.heap L_ ∧ FrameEnd U_ o_ V_ L_ ({ frames := 3, cells := 2, slots := 8, locals := 72 } : Room).cells ({ frames := 3, cells := 2, slots := 8, locals := 72 } : Room).slots) := by
  refine MetFree.of_bodySF (plainFor_of_name own_pn4) hisR ?_
  intro p e s m args below meth c s₁ Bd hml0 hP hK
  obtain ⟨rfl, hZ, hh⟩ := hP
  have hx := Bd.exec
  have hby := Bd.bytes
  have hml : c.maxLocals = 3 := hml0
  have hown : s.vm.findClass "java/lang/StringLatin1" = some m.cls := findClass_of_methodNamed Bd.named
  have hnm := (name_of_methodNamed Bd.named Bd.method).1
  have X0 : Stand p l e ({ frames := 3, cells := 2, slots := 8, locals := 72 } : Room) s m #[(.ref a), (.int 2), (.int (Int32.ofNat (cs.length - 2)))] below meth c s₁ [] 0 0 := Stand.of_body Bd
  have e0 : s₁.heap = h0 := by rw [← hh, Bd.state]; rfl
  have N0 := Fr.nil n0
  have KK0 := Keep.refl h0 ([] : List Addr)
  have cc0 : Steps p.tables e below (s₁.setTop (entryFrame m #[(.ref a), (.int 2), (.int (Int32.ofNat (cs.length - 2)))] 3)) (s₁.setTop (mkF m 0 #[.val (.ref a), .val (.int 2), .val (.int (Int32.ofNat (cs.length - 2)))] [])) := XT.entry rfl
  obtain ⟨S0', hS0'⟩ : ∃ S, S = (s₁.setTop (entryFrame m #[(.ref a), (.int 2), (.int (Int32.ofNat (cs.length - 2)))] 3)) := ⟨_, rfl⟩
  rw [← hS0'] at cc0
  have w_9 := hw _ (List.mem_of_getElem? (i := 9) rfl)
  have w_113 := hw _ (List.mem_of_getElem? (i := 113) rfl)
  have w_114 := hw _ (List.mem_of_getElem? (i := 114) rfl)
  have w_131 := hw _ (List.mem_of_getElem? (i := 131) rfl)
  have cc21 : Steps p.tables e below S0' (s₁.setTop (mkF m 7 #[.val (.ref a), .val (.int 2), .val (.int (Int32.ofNat (cs.length - 2)))] [])) := Steps.trans cc0 (by
    refine XS.iloadN X0.here hx rfl (own_d hby d12_0) rfl ?_
    refine XS.ifYes X0.here hx rfl (pc0 := 1) rfl (own_d hby d12_1) rfl (i0_ne_t (nz32 (by omega) (by omega))) (by decide) rfl ?_
    exact Steps.refl _)
  obtain ⟨T22, h22, X22, e22, E22, A22, D22, -, st22⟩ := newO X0 hx hZ hown (hw _ (List.mem_of_getElem? (i := 110) rfl)) (hw _ (List.mem_of_getElem? (i := 8) rfl)) w_9 e0 (g := (mkF m 7 #[.val (.ref a), .val (.int 2), .val (.int (Int32.ofNat (cs.length - 2)))] [])) rfl (own_d hby d12_7) (by decide) (by decide)
  obtain ⟨x', g_x'⟩ : ∃ z, z = h0.size := ⟨_, rfl⟩
  rw [← g_x'] at A22 D22 st22
  have K22 := (Keep.refl h0 ([] : List Addr)).ext E22
  have b_x' : h0.size ≤ x' := (Nat.le_of_eq g_x'.symm)
  have gn_x' : n0 ≤ x' := Nat.le_trans Z0 b_x'
  have s0_x' : h0.size ≤ x' := Nat.le_trans KK0.1 b_x'
  have ne_a_x' : a ≠ x' := Nat.ne_of_lt (Nat.lt_of_lt_of_le A.lt b_x')
  have KK1 : Keep h0 h22 ([] : List Addr) := KK0.trans K22 all0
  have Zs1 : n0 ≤ h22.size := Nat.le_trans Z0 K22.1
  have F_value_x' : Fld Z h22 x' "java/lang/String" "value" "[B" .null := D22 (Or.inr (hw _ (List.mem_of_getElem? (i := 36) rfl))) (ty := (.array .byte)) (by decide)
  have F_coder_x' : Fld Z h22 x' "java/lang/String" "coder" "B" (.int (0 : Int32)) := D22 (Or.inr (hw _ (List.mem_of_getElem? (i := 34) rfl))) (ty := .byte) (by decide)
  have cc23 : Steps p.tables e below S0' (T22.setTop (mkF m 16 #[.val (.ref a), .val (.int 2), .val (.int (Int32.ofNat (cs.length - 2)))] [(.int ((2 : Int32) + (Int32.ofNat (cs.length - 2)))), (.int 2), (.ref a), (.ref x'), (.ref x')])) := Steps.trans (cc21.trans (st22 _ (Steps.refl _))) (by
    refine XS.dup X22.here hx rfl (own_d hby d12_10) rfl rfl ?_
    refine XS.aloadN X22.here hx rfl (own_d hby d12_11) rfl rfl ?_
    refine XS.iloadN X22.here hx rfl (own_d hby d12_12) rfl ?_
    refine XS.iloadN X22.here hx rfl (own_d hby d12_13) rfl ?_
    refine XS.iloadN X22.here hx rfl (own_d hby d12_14) rfl ?_
    refine XS.iadd X22.here hx rfl (own_d hby d12_15) rfl ?_
    exact Steps.refl _)
  have cz : Steps p.tables e below S0' (T22.setTop (mkF m 16 #[.val (.ref a), .val (.int 2), .val (.int (Int32.ofNat (cs.length - 2)))] [(.int (Int32.ofNat cs.length)), (.int 2), (.ref a), (.ref x'), (.ref x')])) := by
    have := cc23
    rw [show (2 : Int32) + Int32.ofNat (cs.length - 2) = Int32.ofNat cs.length from (add32n 2 (cs.length - 2)).trans (by rw [show 2 + (cs.length - 2) = cs.length by omega])] at this
    exact this
  have fa24 : Arv Z h22 a k .byte (Int32.ofNat cs.length) (own_by cs) (.int (0 : Int32)) := (A.keep K22 nin0)
  obtain ⟨_, _, ⟨T25, L25, k25, n25⟩, -, X25, ⟨Lc25, hQ25, l25, y25, z25⟩, st25⟩ := Jvm.LawKit.callS X22 hx (y := (⟨"java/util/Arrays", "copyOfRange", "([BII)[B"⟩ : MethodName)) hown (mvT hZ (hw _ (List.mem_of_getElem? (i := 111) rfl))) (mvT hZ (hw _ (List.mem_of_getElem? (i := 112) rfl))) (mvT hZ w_113) (mvT hZ w_114) (by decide) (backOf (W := 2) (own_cr l Z a0 hw a k cs h22 n0 Zs1 fa24 h2 hn) hZ w_114 w_113 (by decide) (by decide)) (g := (mkF m 16 #[.val (.ref a), .val (.int 2), .val (.int (Int32.ofNat (cs.length - 2)))] [(.int (Int32.ofNat cs.length)), (.int 2), (.ref a), (.ref x'), (.ref x')])) rfl (by rw [hml]; rfl) (argsL := [(.ref a), (.int 2), (.int (Int32.ofNat cs.length))]) (rest := [(.ref x'), (.ref x')]) (lenOf own_pd7 rfl) rfl (by show 2 * 0 + _ ≤ _; exact Nat.le_of_eq rfl) (own_d hby d12_16) (fun _ _ => ⟨rfl, e22, Nat.le_of_ble_eq_true rfl, Nat.le_of_ble_eq_true rfl⟩)
  dsimp only [Pt.U, Pt.locs, Pt.cells, Pt.slots] at X25 l25 y25 z25 st25 hQ25
  subst l25 y25 z25
  obtain ⟨t, kt, rfl, Nq25, Kq25, sq25, Aq25⟩ := hQ25
  have N25 := Fr.app N0 Nq25
  have b_t : h22.size ≤ t := sq25
  have gn_t : n0 ≤ t := Nat.le_trans Zs1 b_t
  have s0_t : h0.size ≤ t := Nat.le_trans KK1.1 b_t
  have ne_a_t : a ≠ t := Nat.ne_of_lt (Nat.lt_of_lt_of_le fa24.lt b_t)
  have ne_x'_t : x' ≠ t := Nat.ne_of_lt (Nat.lt_of_lt_of_le A22.lt b_t)
  have KK2 : Keep h0 T25.heap ([] : List Addr) := KK1.trans Kq25 all0
  have Zs2 : n0 ≤ T25.heap.size := Nat.le_trans Zs1 Kq25.1
  have e25 : T25.heap = T25.heap := rfl
  have cc27 : Steps p.tables e below S0' (T25.setTop (mkF m 20 #[.val (.ref a), .val (.int 2), .val (.int (Int32.ofNat (cs.length - 2)))] [(.int 0), (.ref t), (.ref x'), (.ref x')])) := Steps.trans (cz.trans (st25 _ (Steps.refl _))) (by
    refine iconstV X25.here hx rfl 0 (own_d hby d12_19) (by decide) ?_
    exact Steps.refl _)
  have fa26 : Exa Z T25.heap x' "java/lang/String" := (A22.keep Kq25)
  have fa28 : Fld Z T25.heap x' "java/lang/String" "value" "[B" .null := (F_value_x'.keep Kq25 nin0)
  have fa29 : Fld Z T25.heap x' "java/lang/String" "coder" "B" (.int (0 : Int32)) := (F_coder_x'.keep Kq25 nin0)
  obtain ⟨_, _, ⟨T30, L30, k30, n30⟩, -, X30, ⟨Lc30, hQ30, l30, y30, z30⟩, st30⟩ := X25.specialBack hx (y := (⟨"java/lang/String", "<init>", "([BB)V"⟩ : MethodName)) rfl hown (mvT hZ (hw _ (List.mem_of_getElem? (i := 129) rfl))) (mvT hZ (hw _ (List.mem_of_getElem? (i := 130) rfl))) (mvT hZ w_131) (by decide) (backOf (W := 1) (own_ibb l Z a0 hw x' t T25.heap n0 Zs2 fa26 fa28 fa29 gn_x') hZ w_131 w_9 (by decide) (by decide)) (g := (mkF m 20 #[.val (.ref a), .val (.int 2), .val (.int (Int32.ofNat (cs.length - 2)))] [(.int 0), (.ref t), (.ref x'), (.ref x')])) rfl (by rw [hml]; rfl) (Steps.refl _) (a := x') (argsL := [(.ref t), (.int 0)]) (rest := [(.ref x')]) (lenOf own_pd8 rfl) rfl (by show 2 * 0 + _ ≤ _; exact Nat.le_of_eq rfl) (own_d hby d12_20) (fun _ _ => ⟨rfl, e25, Nat.le_of_ble_eq_true rfl, Nat.le_of_ble_eq_true rfl⟩)
  dsimp only [Pt.U, Pt.locs, Pt.cells, Pt.slots] at X30 l30 y30 z30 st30 hQ30
  subst l30 y30 z30
  obtain ⟨rfl, Nq30, Kq30, Eq30, Cq30, Vq30⟩ := hQ30
  have N30 := Fr.app N25 Nq30
  have KK3 : Keep h0 T30.heap ([] : List Addr) := KK2.trans Kq30 (allS (Or.inr s0_x') all0)
  have Zs3 : n0 ≤ T30.heap.size := Nat.le_trans Zs2 Kq30.1
  have e30 : T30.heap = T30.heap := rfl
  have cc32 : Steps p.tables e below S0' (T30.setTop (mkF m 23 #[.val (.ref a), .val (.int 2), .val (.int (Int32.ofNat (cs.length - 2)))] [(.ref x')])) := (Steps.trans cc27 st30)
  have fa31 : Arv Z T30.heap t kt .byte (Int32.ofNat (cs.length - 2)) (own_by (cs.drop 2)) (.int (0 : Int32)) := (Aq25.keep Kq30 (ninS (Ne.symm ne_x'_t) nin0))
  have cE := cc32
  rw [hS0'] at cE
  obtain ⟨fs, hr_, hrun, hended, hW, hsame⟩ := X30.leave (v := some (.ref x')) (fun h => by rw [Bd.returns] at h; cases h)
  refine ⟨_, _, cE.trans (X30.areturnOut hx (rfl) Bd.returns rfl (own_d hby d12_23) hr_), hrun, hended, _, _, rfl, ?_, ⟨_, rfl⟩, hW, hsame.mono (by first | decide | omega) (by first | decide | omega)⟩
  show Q_own_ns Z a k cs h0 n0 _ T30.heap _
  rw [e30]
  exact ⟨x', rfl, N30, KK3, s0_x', Eq30, Cq30, fun c hc => hp c (List.mem_of_mem_drop hc), by simp; omega, t, kt, Vq30, by rw [List.length_drop]; exact fa31⟩
theorem d13_0 : decode jdk_42_method_92_code 0 = .ok (.aload_n 0, 1) := by decide +kernel
theorem d13_1 : decode jdk_42_method_92_code 1 = .ok (.invokevirtual 505, 3) := by decide +kernel
theorem d13_4 : decode jdk_42_method_92_code 4 = .ok (.istore_n 3, 1) := by decide +kernel
theorem d13_5 : decode jdk_42_method_92_code 5 = .ok (.iload_n 1, 1) := by decide +kernel
theorem d13_6 : decode jdk_42_method_92_code 6 = .ok (.iload_n 2, 1) := by decide +kernel
theorem d13_7 : decode jdk_42_method_92_code 7 = .ok (.iload_n 3, 1) := by decide +kernel
theorem d13_8 : decode jdk_42_method_92_code 8 = .ok (.invokestatic 521, 3) := by decide +kernel
theorem d13_11 : decode jdk_42_method_92_code 11 = .ok (.iload_n 1, 1) := by decide +kernel
theorem d13_12 : decode jdk_42_method_92_code 12 = .ok (.ifCond .ne 10, 3) := by decide +kernel
theorem d13_22 : decode jdk_42_method_92_code 22 = .ok (.iload_n 2, 1) := by decide +kernel
theorem d13_23 : decode jdk_42_method_92_code 23 = .ok (.iload_n 1, 1) := by decide +kernel
theorem d13_24 : decode jdk_42_method_92_code 24 = .ok (.isub, 1) := by decide +kernel
theorem d13_25 : decode jdk_42_method_92_code 25 = .ok (.istore 4, 2) := by decide +kernel
theorem d13_27 : decode jdk_42_method_92_code 27 = .ok (.aload_n 0, 1) := by decide +kernel
theorem d13_28 : decode jdk_42_method_92_code 28 = .ok (.invokevirtual 492, 3) := by decide +kernel
theorem d13_31 : decode jdk_42_method_92_code 31 = .ok (.ifCond .eq 16, 3) := by decide +kernel
theorem d13_34 : decode jdk_42_method_92_code 34 = .ok (.aload_n 0, 1) := by decide +kernel
theorem d13_35 : decode jdk_42_method_92_code 35 = .ok (.getfield 9, 3) := by decide +kernel
theorem d13_38 : decode jdk_42_method_92_code 38 = .ok (.iload_n 1, 1) := by decide +kernel
theorem d13_39 : decode jdk_42_method_92_code 39 = .ok (.iload 4, 2) := by decide +kernel
theorem d13_41 : decode jdk_42_method_92_code 41 = .ok (.invokestatic 685, 3) := by decide +kernel
theorem d13_44 : decode jdk_42_method_92_code 44 = .ok (.goto 13, 3) := by decide +kernel
theorem d13_57 : decode jdk_42_method_92_code 57 = .ok (.areturn, 1) := by decide +kernel
def Q_own_sub2 (Z : State) (x : Addr) (cs : List Int32) (z : Int32) (f : Value) (h0 : Heap) (n0 : Nat) (v : Option Value) (h : Heap) (L : List Loc) : Prop := ∃ x' : Addr, v = some (.ref x') ∧ Fr n0 L ∧ Keep h0 h [] ∧ h0.size ≤ x' ∧ own_Lat Z h x' (cs.drop 2)
set_option maxRecDepth 65536 in
set_option maxHeartbeats 40000000 in
theorem own_sub2 (l : Launch) (Z : State) (a0 : Array Value) (hw : ∀ d ∈ tables_1, d.before a0 Z = true) (x : Addr) (cs : List Int32) (z : Int32) (f : Value) (h0 : Heap) (n0 : Nat) (Z0 : n0 ≤ h0.size) (X00 : Old Z n0 h0) (O2 : Sta Z Z.heap "java/lang/String" "COMPACT_STRINGS" "Z" (.int z)) (P5 : ¬ z = 0) (O4 : Sta Z Z.heap "jdk/internal/util/Preconditions" "SIOOBE_FORMATTER" "Ljava/util/function/BiFunction;" f) (hf : f.isRef = true) (Hx : own_Lat Z h0 x cs) (h2 : 2 < cs.length) (hn : cs.length ≤ 6) :
    MetFree l (⟨"java/lang/String", "substring", "(II)Ljava/lang/String;"⟩ : MethodName) (head1 [Jvm.Cond.code (⟨"java/lang/String", "substring", "(II)Ljava/lang/String;"⟩ : MethodName) jdk_42_method_92_code 5 (some (.object "java/lang/String"))] ({ frames := 4, cells := 2, slots := 8, locals := 86 } : Room)) (fun a_ U_ => a_ = #[(.ref x), (.int 2), (.int (Int32.ofNat cs.length))] ∧ Z.Warmed39 U_.vm ∧ U_.heap = h0) (fun _ _ _ _ _ => True) (fun _ U_ o_ V_ => ∃ v_ L_, o_ = .returned v_ ∧ Q_own_sub2 Z x cs z f h0 n0 v_ V_.heap L_ ∧ FrameEnd U_ o_ V_ L_ ({ frames := 4, cells := 2, slots := 8, locals := 86 } : Room).cells ({ frames := 4, cells := 2, slots := 8, locals := 86 } : Room).slots) := by
  refine MetFree.of_bodySF (plainFor_of_name own_pn0) hisR ?_
  intro p e s m args below meth c s₁ Bd hml0 hP hK
  obtain ⟨rfl, hZ, hh⟩ := hP
  have hx := Bd.exec
  have hby := Bd.bytes
  have hml : c.maxLocals = 5 := hml0
  have hown : s.vm.findClass "java/lang/String" = some m.cls := findClass_of_methodNamed Bd.named
  have hnm := (name_of_methodNamed Bd.named Bd.method).1
  have X0 : Stand p l e ({ frames := 4, cells := 2, slots := 8, locals := 86 } : Room) s m #[(.ref x), (.int 2), (.int (Int32.ofNat cs.length))] below meth c s₁ [] 0 0 := Stand.of_body Bd
  have e0 : s₁.heap = h0 := by rw [← hh, Bd.state]; rfl
  have N0 := Fr.nil n0
  have KK0 := Keep.refl h0 ([] : List Addr)
  have cc0 : Steps p.tables e below (s₁.setTop (entryFrame m #[(.ref x), (.int 2), (.int (Int32.ofNat cs.length))] 5)) (s₁.setTop (mkF m 0 #[.val (.ref x), .val (.int 2), .val (.int (Int32.ofNat cs.length)), .unset, .unset] [])) := XT.entry rfl
  obtain ⟨S0', hS0'⟩ : ∃ S, S = (s₁.setTop (entryFrame m #[(.ref x), (.int 2), (.int (Int32.ofNat cs.length))] 5)) := ⟨_, rfl⟩
  rw [← hS0'] at cc0
  have w_9 := hw _ (List.mem_of_getElem? (i := 9) rfl)
  have w_63 := hw _ (List.mem_of_getElem? (i := 63) rfl)
  have w_82 := hw _ (List.mem_of_getElem? (i := 82) rfl)
  have w_96 := hw _ (List.mem_of_getElem? (i := 96) rfl)
  have w_105 := hw _ (List.mem_of_getElem? (i := 105) rfl)
  have w_109 := hw _ (List.mem_of_getElem? (i := 109) rfl)
  have hw_wordsLen : ∀ d ∈ StrChars.Road.wordsLen, d.before a0 Z = true := fun d hd => hw d ((by decide +kernel : ∀ d ∈ StrChars.Road.wordsLen, d ∈ tables_1) d hd)
  obtain ⟨Ex, Cx, px, lx, tx, kx, Vx, Ax⟩ := Hx
  have cc21 : Steps p.tables e below S0' (s₁.setTop (mkF m 1 #[.val (.ref x), .val (.int 2), .val (.int (Int32.ofNat cs.length)), .unset, .unset] [(.ref x)])) := Steps.trans cc0 (by
    refine XS.aloadN X0.here hx rfl (own_d hby d13_0) rfl rfl ?_
    exact Steps.refl _)
  obtain ⟨cq22, kq22, qa22, qb22, qc22⟩ := isOf hZ e0 Ex
  obtain ⟨_, _, ⟨T22, L22, k22, n22⟩, -, X22, ⟨Lc22, hQ22, l22, y22, z22⟩, st22⟩ := X0.virtualBack hx (y := (⟨"java/lang/String", "length", "()I"⟩ : MethodName)) (z := (⟨"java/lang/String", "length", "()I"⟩ : MethodName)) hown (mvT hZ (hw _ (List.mem_of_getElem? (i := 60) rfl))) (mvT hZ (hw _ (List.mem_of_getElem? (i := 61) rfl))) (notFace_of_selects (args := #[]) (mvT hZ w_63)) (mvT hZ w_63) (mvT hZ (hw _ (List.mem_of_getElem? (i := 62) rfl))) (by decide) (StrChars.Road.lenW (W := 0) hZ hw_wordsLen (kI := 4) (hw _ (List.mem_of_getElem? (i := 8) rfl)) Ex Vx Cx Ax (StrChars.Road.codOf (cs := cs) rfl (fun c hc => (px c hc).2)) (own_up _ px) (O2.ext X00.2) P5 lx (by decide) (by decide)) qa22 qc22 (g := (mkF m 1 #[.val (.ref x), .val (.int 2), .val (.int (Int32.ofNat cs.length)), .unset, .unset] [(.ref x)])) rfl (by rw [hml]; rfl) (Steps.refl _) (argsL := []) (rest := []) (lenOf own_pd0 rfl) rfl (by show 2 * 0 + _ ≤ _; exact Nat.le_of_eq rfl) (own_d hby d13_1) (fun _ _ => ⟨rfl, e0, Nat.le_of_ble_eq_true rfl, Nat.le_of_ble_eq_true rfl⟩)
  dsimp only [Pt.U, Pt.locs, Pt.cells, Pt.slots] at X22 l22 y22 z22 st22 hQ22
  subst l22 y22 z22
  obtain ⟨rfl, rfl, eq22⟩ := hQ22
  have N22 := Fr.app N0 (Fr.nil n0)
  have e22 : T22.heap = h0 := eq22
  have cc23 : Steps p.tables e below S0' (T22.setTop (mkF m 8 #[.val (.ref x), .val (.int 2), .val (.int (Int32.ofNat cs.length)), .val (.int (Int32.ofNat cs.length)), .unset] [(.int (Int32.ofNat cs.length)), (.int (Int32.ofNat cs.length)), (.int 2)])) := Steps.trans (Steps.trans cc21 st22) (by
    refine XS.istoreN X22.here hx rfl (own_d hby d13_4) rfl rfl ?_
    refine XS.iloadN X22.here hx rfl (own_d hby d13_5) rfl ?_
    refine XS.iloadN X22.here hx rfl (own_d hby d13_6) rfl ?_
    refine XS.iloadN X22.here hx rfl (own_d hby d13_7) rfl ?_
    exact Steps.refl _)
  obtain ⟨_, _, ⟨T24, L24, k24, n24⟩, -, X24, ⟨Lc24, hQ24, l24, y24, z24⟩, st24⟩ := Jvm.LawKit.callS X22 hx (y := (⟨"java/lang/String", "checkBoundsBeginEnd", "(III)V"⟩ : MethodName)) hown (mvT hZ (hw _ (List.mem_of_getElem? (i := 94) rfl))) (mvT hZ (hw _ (List.mem_of_getElem? (i := 95) rfl))) (mvT hZ w_9) (mvT hZ w_96) (by decide) (backOf (W := 0) (own_cbe l Z a0 hw 2 (Int32.ofNat cs.length) (Int32.ofNat cs.length) f h0 n0 Z0 X00 (by decide) (nlt32 (b := 2) (by omega) (by omega)) (nlt32 (by omega) (Nat.le_refl _)) O4 hf) hZ w_96 w_9 (by decide) (by decide)) (g := (mkF m 8 #[.val (.ref x), .val (.int 2), .val (.int (Int32.ofNat cs.length)), .val (.int (Int32.ofNat cs.length)), .unset] [(.int (Int32.ofNat cs.length)), (.int (Int32.ofNat cs.length)), (.int 2)])) rfl (by rw [hml]; rfl) (argsL := [(.int 2), (.int (Int32.ofNat cs.length)), (.int (Int32.ofNat cs.length))]) (rest := []) (lenOf own_pd9 rfl) rfl (by show 2 * 0 + _ ≤ _; exact Nat.le_of_eq rfl) (own_d hby d13_8) (fun _ _ => ⟨rfl, e22, Nat.le_of_ble_eq_true rfl, Nat.le_of_ble_eq_true rfl⟩)
  dsimp only [Pt.U, Pt.locs, Pt.cells, Pt.slots] at X24 l24 y24 z24 st24 hQ24
  subst l24 y24 z24
  obtain ⟨rfl, Nq24, eq24⟩ := hQ24
  have N24 := Fr.app N22 Nq24
  have e24 : T24.heap = h0 := eq24
  have cc25 : Steps p.tables e below S0' (T24.setTop (mkF m 25 #[.val (.ref x), .val (.int 2), .val (.int (Int32.ofNat cs.length)), .val (.int (Int32.ofNat cs.length)), .unset] [(.int ((Int32.ofNat cs.length) - (2 : Int32)))])) := Steps.trans (cc23.trans (st24 _ (Steps.refl _))) (by
    refine XS.iloadN X24.here hx rfl (own_d hby d13_11) rfl ?_
    refine XS.ifYes X24.here hx rfl (pc0 := 12) rfl (own_d hby d13_12) rfl (i0_ne_t (by decide)) (by decide) rfl ?_
    refine XS.iloadN X24.here hx rfl (own_d hby d13_22) rfl ?_
    refine XS.iloadN X24.here hx rfl (own_d hby d13_23) rfl ?_
    refine XS.isub X24.here hx rfl (own_d hby d13_24) rfl ?_
    exact Steps.refl _)
  have cz : Steps p.tables e below S0' (T24.setTop (mkF m 25 #[.val (.ref x), .val (.int 2), .val (.int (Int32.ofNat cs.length)), .val (.int (Int32.ofNat cs.length)), .unset] [(.int (Int32.ofNat (cs.length - 2)))])) := by
    have := cc25
    rw [show Int32.ofNat cs.length - 2 = Int32.ofNat (cs.length - 2) from sub32n (b := 2) (by omega)] at this
    exact this
  have cc26 : Steps p.tables e below S0' (T24.setTop (mkF m 28 #[.val (.ref x), .val (.int 2), .val (.int (Int32.ofNat cs.length)), .val (.int (Int32.ofNat cs.length)), .val (.int (Int32.ofNat (cs.length - 2)))] [(.ref x)])) := Steps.trans cz (by
    refine XS.istore X24.here hx rfl (own_d hby d13_25) rfl rfl ?_
    refine XS.aloadN X24.here hx rfl (own_d hby d13_27) rfl rfl ?_
    exact Steps.refl _)
  obtain ⟨cq27, kq27, qa27, qb27, qc27⟩ := isOf hZ e24 Ex
  obtain ⟨_, _, ⟨T27, L27, k27, n27⟩, -, X27, ⟨Lc27, hQ27, l27, y27, z27⟩, st27⟩ := X24.virtualBack hx (y := (⟨"java/lang/String", "isLatin1", "()Z"⟩ : MethodName)) (z := (⟨"java/lang/String", "isLatin1", "()Z"⟩ : MethodName)) hown (mvT hZ (hw _ (List.mem_of_getElem? (i := 102) rfl))) (mvT hZ (hw _ (List.mem_of_getElem? (i := 103) rfl))) (notFace_of_selects (args := #[]) (mvT hZ w_105)) (mvT hZ w_105) (mvT hZ (hw _ (List.mem_of_getElem? (i := 104) rfl))) (by decide) (backOf (W := 0) (own_isL l Z a0 hw x z h0 n0 Z0 X00 O2 P5 Cx) hZ (hw _ (List.mem_of_getElem? (i := 106) rfl)) w_9 (by decide) (by decide)) qa27 qc27 (g := (mkF m 28 #[.val (.ref x), .val (.int 2), .val (.int (Int32.ofNat cs.length)), .val (.int (Int32.ofNat cs.length)), .val (.int (Int32.ofNat (cs.length - 2)))] [(.ref x)])) rfl (by rw [hml]; rfl) (Steps.refl _) (argsL := []) (rest := []) (lenOf own_pd10 rfl) rfl (by show 2 * 0 + _ ≤ _; exact Nat.le_of_eq rfl) (own_d hby d13_28) (fun _ _ => ⟨rfl, e24, Nat.le_of_ble_eq_true rfl, Nat.le_of_ble_eq_true rfl⟩)
  dsimp only [Pt.U, Pt.locs, Pt.cells, Pt.slots] at X27 l27 y27 z27 st27 hQ27
  subst l27 y27 z27
  obtain ⟨rfl, Nq27, eq27⟩ := hQ27
  have N27 := Fr.app N24 Nq27
  have e27 : T27.heap = h0 := eq27
  have cc28 : Steps p.tables e below S0' (T27.setTop (mkF m 35 #[.val (.ref x), .val (.int 2), .val (.int (Int32.ofNat cs.length)), .val (.int (Int32.ofNat cs.length)), .val (.int (Int32.ofNat (cs.length - 2)))] [(.ref x)])) := Steps.trans (Steps.trans cc26 st27) (by
    refine XS.ifNo X27.here hx rfl (own_d hby d13_31) rfl (i0_eq_f (by decide)) ?_
    refine XS.aloadN X27.here hx rfl (own_d hby d13_34) rfl rfl ?_
    exact Steps.refl _)
  obtain ⟨T29, X29, e29, st29⟩ := getF X27 hx hZ hown (host := "") (Or.inl (hw _ (List.mem_of_getElem? (i := 35) rfl))) Via.refl e27 Vx (g := (mkF m 35 #[.val (.ref x), .val (.int 2), .val (.int (Int32.ofNat cs.length)), .val (.int (Int32.ofNat cs.length)), .val (.int (Int32.ofNat (cs.length - 2)))] [(.ref x)])) rfl rfl (own_d hby d13_35)
  have cc30 : Steps p.tables e below S0' (T29.setTop (mkF m 41 #[.val (.ref x), .val (.int 2), .val (.int (Int32.ofNat cs.length)), .val (.int (Int32.ofNat cs.length)), .val (.int (Int32.ofNat (cs.length - 2)))] [(.int (Int32.ofNat (cs.length - 2))), (.int 2), (.ref tx)])) := Steps.trans (cc28.trans (st29 _ (Steps.refl _))) (by
    refine XS.iloadN X29.here hx rfl (own_d hby d13_38) rfl ?_
    refine XS.iload X29.here hx rfl (own_d hby d13_39) rfl ?_
    exact Steps.refl _)
  obtain ⟨_, _, ⟨T31, L31, k31, n31⟩, -, X31, ⟨Lc31, hQ31, l31, y31, z31⟩, st31⟩ := Jvm.LawKit.callS X29 hx (y := (⟨"java/lang/StringLatin1", "newString", "([BII)Ljava/lang/String;"⟩ : MethodName)) hown (mvT hZ (hw _ (List.mem_of_getElem? (i := 107) rfl))) (mvT hZ (hw _ (List.mem_of_getElem? (i := 108) rfl))) (mvT hZ w_82) (mvT hZ w_109) (by decide) (backOf (W := 0) (own_ns l Z a0 hw tx kx cs h0 n0 Z0 Ax h2 hn px) hZ w_109 w_82 (by decide) (by decide)) (g := (mkF m 41 #[.val (.ref x), .val (.int 2), .val (.int (Int32.ofNat cs.length)), .val (.int (Int32.ofNat cs.length)), .val (.int (Int32.ofNat (cs.length - 2)))] [(.int (Int32.ofNat (cs.length - 2))), (.int 2), (.ref tx)])) rfl (by rw [hml]; rfl) (argsL := [(.ref tx), (.int 2), (.int (Int32.ofNat (cs.length - 2)))]) (rest := []) (lenOf own_pd11 rfl) rfl (by show 2 * 0 + _ ≤ _; exact Nat.le_of_eq rfl) (own_d hby d13_41) (fun _ _ => ⟨rfl, e29, Nat.le_of_ble_eq_true rfl, Nat.le_of_ble_eq_true rfl⟩)
  dsimp only [Pt.U, Pt.locs, Pt.cells, Pt.slots] at X31 l31 y31 z31 st31 hQ31
  subst l31 y31 z31
  obtain ⟨x', rfl, Nq31, Kq31, sq31, Hq31⟩ := hQ31
  have N31 := Fr.app N27 Nq31
  have KK1 : Keep h0 T31.heap ([] : List Addr) := KK0.trans Kq31 all0
  have Zs1 : n0 ≤ T31.heap.size := Nat.le_trans Z0 Kq31.1
  have e31 : T31.heap = T31.heap := rfl
  have cc32 : Steps p.tables e below S0' (T31.setTop (mkF m 57 #[.val (.ref x), .val (.int 2), .val (.int (Int32.ofNat cs.length)), .val (.int (Int32.ofNat cs.length)), .val (.int (Int32.ofNat (cs.length - 2)))] [(.ref x')])) := Steps.trans (cc30.trans (st31 _ (Steps.refl _))) (by
    refine XS.goto X31.here hx rfl (pc0 := 44) rfl (own_d hby d13_44) (by decide) rfl ?_
    exact Steps.refl _)
  have cE := cc32
  rw [hS0'] at cE
  obtain ⟨fs, hr_, hrun, hended, hW, hsame⟩ := X31.leave (v := some (.ref x')) (fun h => by rw [Bd.returns] at h; cases h)
  refine ⟨_, _, cE.trans (X31.areturnOut hx (rfl) Bd.returns rfl (own_d hby d13_57) hr_), hrun, hended, _, _, rfl, ?_, ⟨_, rfl⟩, hW, hsame.mono (by first | decide | omega) (by first | decide | omega)⟩
  show Q_own_sub2 Z x cs z f h0 n0 _ T31.heap _
  rw [e31]
  exact ⟨x', rfl, N31, KK1, sq31, Hq31⟩
theorem d14_0 : decode jdk_42_method_91_code 0 = .ok (.aload_n 0, 1) := by decide +kernel
theorem d14_1 : decode jdk_42_method_91_code 1 = .ok (.iload_n 1, 1) := by decide +kernel
theorem d14_2 : decode jdk_42_method_91_code 2 = .ok (.aload_n 0, 1) := by decide +kernel
theorem d14_3 : decode jdk_42_method_91_code 3 = .ok (.invokevirtual 505, 3) := by decide +kernel
theorem d14_6 : decode jdk_42_method_91_code 6 = .ok (.invokevirtual 681, 3) := by decide +kernel
theorem d14_9 : decode jdk_42_method_91_code 9 = .ok (.areturn, 1) := by decide +kernel
def Q_own_sub1 (Z : State) (x : Addr) (cs : List Int32) (z : Int32) (f : Value) (h0 : Heap) (n0 : Nat) (v : Option Value) (h : Heap) (L : List Loc) : Prop := ∃ x' : Addr, v = some (.ref x') ∧ Fr n0 L ∧ Keep h0 h [] ∧ h0.size ≤ x' ∧ own_Lat Z h x' (cs.drop 2)
set_option maxRecDepth 65536 in
set_option maxHeartbeats 40000000 in
theorem own_sub1 (l : Launch) (Z : State) (a0 : Array Value) (hw : ∀ d ∈ tables_1, d.before a0 Z = true) (x : Addr) (cs : List Int32) (z : Int32) (f : Value) (h0 : Heap) (n0 : Nat) (Z0 : n0 ≤ h0.size) (X00 : Old Z n0 h0) (O2 : Sta Z Z.heap "java/lang/String" "COMPACT_STRINGS" "Z" (.int z)) (P5 : ¬ z = 0) (O4 : Sta Z Z.heap "jdk/internal/util/Preconditions" "SIOOBE_FORMATTER" "Ljava/util/function/BiFunction;" f) (hf : f.isRef = true) (Hx : own_Lat Z h0 x cs) (h2 : 2 < cs.length) (hn : cs.length ≤ 6) :
    MetFree l (⟨"java/lang/String", "substring", "(I)Ljava/lang/String;"⟩ : MethodName) (head1 [Jvm.Cond.code (⟨"java/lang/String", "substring", "(I)Ljava/lang/String;"⟩ : MethodName) jdk_42_method_91_code 2 (some (.object "java/lang/String"))] ({ frames := 5, cells := 2, slots := 8, locals := 102 } : Room)) (fun a_ U_ => a_ = #[(.ref x), (.int 2)] ∧ Z.Warmed39 U_.vm ∧ U_.heap = h0) (fun _ _ _ _ _ => True) (fun _ U_ o_ V_ => ∃ v_ L_, o_ = .returned v_ ∧ Q_own_sub1 Z x cs z f h0 n0 v_ V_.heap L_ ∧ FrameEnd U_ o_ V_ L_ ({ frames := 5, cells := 2, slots := 8, locals := 102 } : Room).cells ({ frames := 5, cells := 2, slots := 8, locals := 102 } : Room).slots) := by
  refine MetFree.of_bodySF (plainFor_of_name own_pn0) hisR ?_
  intro p e s m args below meth c s₁ Bd hml0 hP hK
  obtain ⟨rfl, hZ, hh⟩ := hP
  have hx := Bd.exec
  have hby := Bd.bytes
  have hml : c.maxLocals = 2 := hml0
  have hown : s.vm.findClass "java/lang/String" = some m.cls := findClass_of_methodNamed Bd.named
  have hnm := (name_of_methodNamed Bd.named Bd.method).1
  have X0 : Stand p l e ({ frames := 5, cells := 2, slots := 8, locals := 102 } : Room) s m #[(.ref x), (.int 2)] below meth c s₁ [] 0 0 := Stand.of_body Bd
  have e0 : s₁.heap = h0 := by rw [← hh, Bd.state]; rfl
  have N0 := Fr.nil n0
  have KK0 := Keep.refl h0 ([] : List Addr)
  have cc0 : Steps p.tables e below (s₁.setTop (entryFrame m #[(.ref x), (.int 2)] 2)) (s₁.setTop (mkF m 0 #[.val (.ref x), .val (.int 2)] [])) := XT.entry rfl
  obtain ⟨S0', hS0'⟩ : ∃ S, S = (s₁.setTop (entryFrame m #[(.ref x), (.int 2)] 2)) := ⟨_, rfl⟩
  rw [← hS0'] at cc0
  have w_63 := hw _ (List.mem_of_getElem? (i := 63) rfl)
  have w_92 := hw _ (List.mem_of_getElem? (i := 92) rfl)
  have hw_wordsLen : ∀ d ∈ StrChars.Road.wordsLen, d.before a0 Z = true := fun d hd => hw d ((by decide +kernel : ∀ d ∈ StrChars.Road.wordsLen, d ∈ tables_1) d hd)
  have Hx' := Hx
  obtain ⟨Ex, Cx, px, lx, tx, kx, Vx, Ax⟩ := Hx'
  have cc21 : Steps p.tables e below S0' (s₁.setTop (mkF m 3 #[.val (.ref x), .val (.int 2)] [(.ref x), (.int 2), (.ref x)])) := Steps.trans cc0 (by
    refine XS.aloadN X0.here hx rfl (own_d hby d14_0) rfl rfl ?_
    refine XS.iloadN X0.here hx rfl (own_d hby d14_1) rfl ?_
    refine XS.aloadN X0.here hx rfl (own_d hby d14_2) rfl rfl ?_
    exact Steps.refl _)
  obtain ⟨cq22, kq22, qa22, qb22, qc22⟩ := isOf hZ e0 Ex
  obtain ⟨_, _, ⟨T22, L22, k22, n22⟩, -, X22, ⟨Lc22, hQ22, l22, y22, z22⟩, st22⟩ := X0.virtualBack hx (y := (⟨"java/lang/String", "length", "()I"⟩ : MethodName)) (z := (⟨"java/lang/String", "length", "()I"⟩ : MethodName)) hown (mvT hZ (hw _ (List.mem_of_getElem? (i := 60) rfl))) (mvT hZ (hw _ (List.mem_of_getElem? (i := 61) rfl))) (notFace_of_selects (args := #[]) (mvT hZ w_63)) (mvT hZ w_63) (mvT hZ (hw _ (List.mem_of_getElem? (i := 62) rfl))) (by decide) (StrChars.Road.lenW (W := 2) hZ hw_wordsLen (kI := 4) (hw _ (List.mem_of_getElem? (i := 8) rfl)) Ex Vx Cx Ax (StrChars.Road.codOf (cs := cs) rfl (fun c hc => (px c hc).2)) (own_up _ px) (O2.ext X00.2) P5 lx (by decide) (by decide)) qa22 qc22 (g := (mkF m 3 #[.val (.ref x), .val (.int 2)] [(.ref x), (.int 2), (.ref x)])) rfl (by rw [hml]; rfl) (Steps.refl _) (argsL := []) (rest := [(.int 2), (.ref x)]) (lenOf own_pd0 rfl) rfl (by show 2 * 0 + _ ≤ _; exact Nat.le_of_eq rfl) (own_d hby d14_3) (fun _ _ => ⟨rfl, e0, Nat.le_of_ble_eq_true rfl, Nat.le_of_ble_eq_true rfl⟩)
  dsimp only [Pt.U, Pt.locs, Pt.cells, Pt.slots] at X22 l22 y22 z22 st22 hQ22
  subst l22 y22 z22
  obtain ⟨rfl, rfl, eq22⟩ := hQ22
  have N22 := Fr.app N0 (Fr.nil n0)
  have e22 : T22.heap = h0 := eq22
  have cc23 : Steps p.tables e below S0' (T22.setTop (mkF m 6 #[.val (.ref x), .val (.int 2)] [(.int (Int32.ofNat cs.length)), (.int 2), (.ref x)])) := (Steps.trans cc21 st22)
  obtain ⟨cq24, kq24, qa24, qb24, qc24⟩ := isOf hZ e22 Ex
  obtain ⟨_, _, ⟨T24, L24, k24, n24⟩, -, X24, ⟨Lc24, hQ24, l24, y24, z24⟩, st24⟩ := X22.virtualBack hx (y := (⟨"java/lang/String", "substring", "(II)Ljava/lang/String;"⟩ : MethodName)) (z := (⟨"java/lang/String", "substring", "(II)Ljava/lang/String;"⟩ : MethodName)) hown (mvT hZ (hw _ (List.mem_of_getElem? (i := 89) rfl))) (mvT hZ (hw _ (List.mem_of_getElem? (i := 90) rfl))) (notFace_of_selects (args := #[]) (mvT hZ w_92)) (mvT hZ w_92) (mvT hZ (hw _ (List.mem_of_getElem? (i := 91) rfl))) (by decide) (backOf (W := 0) (own_sub2 l Z a0 hw x cs z f h0 n0 Z0 X00 O2 P5 O4 hf Hx h2 hn) hZ (hw _ (List.mem_of_getElem? (i := 93) rfl)) (hw _ (List.mem_of_getElem? (i := 9) rfl)) (by decide) (by decide)) qa24 qc24 (g := (mkF m 6 #[.val (.ref x), .val (.int 2)] [(.int (Int32.ofNat cs.length)), (.int 2), (.ref x)])) rfl (by rw [hml]; rfl) (Steps.refl _) (argsL := [(.int 2), (.int (Int32.ofNat cs.length))]) (rest := []) (lenOf own_pd12 rfl) rfl (by show 2 * 0 + _ ≤ _; exact Nat.le_of_eq rfl) (own_d hby d14_6) (fun _ _ => ⟨rfl, e22, Nat.le_of_ble_eq_true rfl, Nat.le_of_ble_eq_true rfl⟩)
  dsimp only [Pt.U, Pt.locs, Pt.cells, Pt.slots] at X24 l24 y24 z24 st24 hQ24
  subst l24 y24 z24
  obtain ⟨x', rfl, Nq24, Kq24, sq24, Hq24⟩ := hQ24
  have N24 := Fr.app N22 Nq24
  have KK1 : Keep h0 T24.heap ([] : List Addr) := KK0.trans Kq24 all0
  have Zs1 : n0 ≤ T24.heap.size := Nat.le_trans Z0 Kq24.1
  have e24 : T24.heap = T24.heap := rfl
  have cc25 : Steps p.tables e below S0' (T24.setTop (mkF m 9 #[.val (.ref x), .val (.int 2)] [(.ref x')])) := (Steps.trans cc23 st24)
  have cE := cc25
  rw [hS0'] at cE
  obtain ⟨fs, hr_, hrun, hended, hW, hsame⟩ := X24.leave (v := some (.ref x')) (fun h => by rw [Bd.returns] at h; cases h)
  refine ⟨_, _, cE.trans (X24.areturnOut hx (rfl) Bd.returns rfl (own_d hby d14_9) hr_), hrun, hended, _, _, rfl, ?_, ⟨_, rfl⟩, hW, hsame.mono (by first | decide | omega) (by first | decide | omega)⟩
  show Q_own_sub1 Z x cs z f h0 n0 _ T24.heap _
  rw [e24]
  exact ⟨x', rfl, N24, KK1, sq24, Hq24⟩
theorem d15_0 : decode prog_34_method_3_code 0 = .ok (.aload_n 0, 1) := by decide +kernel
theorem d15_1 : decode prog_34_method_3_code 1 = .ok (.ldc 25, 2) := by decide +kernel
theorem d15_3 : decode prog_34_method_3_code 3 = .ok (.invokevirtual 27, 3) := by decide +kernel
theorem d15_6 : decode prog_34_method_3_code 6 = .ok (.ireturn, 1) := by decide +kernel
def Q_own_weak (Z : State) (x : Addr) (c0 c1 : Int32) (cs : List Int32) (z : Int32) (h0 : Heap) (n0 : Nat) (v : Option Value) (h : Heap) (L : List Loc) : Prop := ∃ r : Int32, v = some (.int r) ∧ Fr n0 L ∧ Keep h0 h [] ∧ (r = 1 ∧ c0 = 87 ∧ c1 = 47 ∨ r = 0 ∧ ¬ (c0 = 87 ∧ c1 = 47))
set_option maxRecDepth 65536 in
set_option maxHeartbeats 40000000 in
theorem own_weak (l : Launch) (Z : State) (a0 : Array Value) (hw : ∀ d ∈ tables_1, d.before a0 Z = true) (x : Addr) (c0 c1 : Int32) (cs : List Int32) (z : Int32) (h0 : Heap) (n0 : Nat) (Z0 : n0 ≤ h0.size) (X00 : Old Z n0 h0) (O2 : Sta Z Z.heap "java/lang/String" "COMPACT_STRINGS" "Z" (.int z)) (P5 : ¬ z = 0) (Hx : own_Lat Z h0 x (c0 :: c1 :: cs)) :
    MetFree l (⟨"com/example/feedwright/feedwright/http/EntityTags", "isWeak", "(Ljava/lang/String;)Z"⟩ : MethodName) (head1 [Jvm.Cond.code (⟨"com/example/feedwright/feedwright/http/EntityTags", "isWeak", "(Ljava/lang/String;)Z"⟩ : MethodName) prog_34_method_3_code 1 (some .boolean)] ({ frames := 4, cells := 2, slots := 12, locals := 60 } : Room)) (fun a_ U_ => a_ = #[(.ref x)] ∧ Z.Warmed39 U_.vm ∧ U_.heap = h0 ∧ CHv Z EL U_.vm h0) (fun _ _ _ _ _ => True) (fun _ U_ o_ V_ => ∃ v_ L_, o_ = .returned v_ ∧ Q_own_weak Z x c0 c1 cs z h0 n0 v_ V_.heap L_ ∧ CHr Z EL U_.vm U_.heap V_.vm V_.heap ∧ ReturnedEndW U_ o_ V_ L_ ({ frames := 4, cells := 2, slots := 12, locals := 60 } : Room).cells ({ frames := 4, cells := 2, slots := 12, locals := 60 } : Room).slots) := by
  refine MetFree.of_bodySF (plainFor_of_name own_pn5) hisR ?_
  intro p e s m args below meth c s₁ Bd hml0 hP hK
  obtain ⟨rfl, hZ, hh, hCH⟩ := hP
  have hx := Bd.exec
  have hby := Bd.bytes
  have hml : c.maxLocals = 1 := hml0
  have hown : s.vm.findClass "com/example/feedwright/feedwright/http/EntityTags" = some m.cls := findClass_of_methodNamed Bd.named
  have hnm := (name_of_methodNamed Bd.named Bd.method).1
  have X0 : Stand p l e ({ frames := 4, cells := 2, slots := 12, locals := 60 } : Room) (s.setVm s.vm) m #[(.ref x)] below meth c s₁ [] 0 0 := Stand.of_body Bd
  have e0 : s₁.heap = h0 := by rw [← hh, Bd.state]; rfl
  have N0 := Fr.nil n0
  have KK0 := Keep.refl h0 ([] : List Addr)
  have C0 := CHr.refl hCH
  have hS0 : s.Since s.vm 0 := (State.WarmedH.refl s).since 0
  have hk0 : 0 ≤ h0.size := Nat.zero_le _
  have hEL : EW Z a0 EL := own_EW hw
  have cc0 : Steps p.tables e below (s₁.setTop (entryFrame m #[(.ref x)] 1)) (s₁.setTop (mkF m 0 #[.val (.ref x)] [])) := XT.entry rfl
  obtain ⟨S0', hS0'⟩ : ∃ S, S = (s₁.setTop (entryFrame m #[(.ref x)] 1)) := ⟨_, rfl⟩
  rw [← hS0'] at cc0
  have w_53 := hw _ (List.mem_of_getElem? (i := 53) rfl)
  have cc21 : Steps p.tables e below S0' (s₁.setTop (mkF m 1 #[.val (.ref x)] [(.ref x)])) := Steps.trans cc0 (by
    refine XS.aloadN X0.here hx rfl (own_d hby d15_0) rfl rfl ?_
    exact Steps.refl _)
  obtain ⟨w, T22, h22, k22, tw, kb22, X22, e22, E22, hS22, hk22, hZ22, hown22, Ex22, Fc22, Fv22, Ar22, lta22, ltb22, CH22, -, sfn22, st22⟩ := ldcCH X0 hx hZ hown (hw _ (List.mem_of_getElem? (i := 47) rfl)) (fun a ha => hw a ((by decide +kernel : ∀ a ∈ Bundle.stringAtoms, a ∈ tables_1) a ha)) e0 hS0 hk0 hEL (by decide +kernel) C0.1 (vs := [(.int (87 : Int32)), (.int (47 : Int32))]) (z := 2) (by decide +kernel) (by decide) (by decide) (g := (mkF m 1 #[.val (.ref x)] [(.ref x)])) rfl (own_d hby d15_1) (n := 8) (by decide) (by decide) (by decide) (by decide)
  have K22 := (Keep.refl h0 ([] : List Addr)).ext E22
  have C22 := C0.trans CH22
  have KK1 : Keep h0 h22 ([] : List Addr) := KK0.trans K22 all0
  have Zs1 : n0 ≤ h22.size := Nat.le_trans Z0 K22.1
  have Hw : own_Lat Z h22 w [87, 47] := ⟨Ex22, Fc22, by decide, by decide, tw, _, Fv22, Ar22⟩
  have cc24 : Steps p.tables e below S0' (T22.setTop (mkF m 3 #[.val (.ref x)] [(.ref w), (.ref x)])) := (cc21.trans (st22 _ (Steps.refl _)))
  have fa23 : Old Z n0 h22 := (X00.keep K22 all0)
  have fa25 : Exa Z h22 x "java/lang/String" := (Hx.1.keep K22)
  obtain ⟨cq26, kq26, qa26, qb26, qc26⟩ := isOf hZ22 e22 fa25
  obtain ⟨_, _, ⟨T26, L26, k26, n26⟩, -, X26, ⟨Lc26, hQ26, l26, y26, z26⟩, st26⟩ := X22.virtualBack hx (y := (⟨"java/lang/String", "startsWith", "(Ljava/lang/String;)Z"⟩ : MethodName)) (z := (⟨"java/lang/String", "startsWith", "(Ljava/lang/String;)Z"⟩ : MethodName)) hown22 (mvT hZ22 (hw _ (List.mem_of_getElem? (i := 50) rfl))) (mvT hZ22 (hw _ (List.mem_of_getElem? (i := 51) rfl))) (notFace_of_selects (args := #[]) (mvT hZ22 w_53)) (mvT hZ22 w_53) (mvT hZ22 (hw _ (List.mem_of_getElem? (i := 52) rfl))) (by decide) (backOf (W := 0) (own_sw1 l Z a0 hw x w c0 c1 cs z h22 n0 Zs1 fa23 O2 P5 (Hx.keep0 KK1) Hw) hZ22 (hw _ (List.mem_of_getElem? (i := 54) rfl)) (hw _ (List.mem_of_getElem? (i := 9) rfl)) (by decide) (by decide)) qa26 qc26 (g := (mkF m 3 #[.val (.ref x)] [(.ref w), (.ref x)])) rfl (by rw [hml]; rfl) (Steps.refl _) (argsL := [(.ref w)]) (rest := []) (lenOf own_pd13 rfl) rfl (by show 2 * 0 + _ ≤ _; exact Nat.le_of_eq rfl) (own_d hby d15_3) (fun _ _ => ⟨rfl, e22, Nat.le_of_ble_eq_true rfl, Nat.le_of_ble_eq_true rfl⟩)
  dsimp only [Pt.U, Pt.locs, Pt.cells, Pt.slots] at X26 l26 y26 z26 st26 hQ26
  subst l26 y26 z26
  obtain ⟨rr, rfl, Nq26, eq26, hr⟩ := hQ26
  have N26 := Fr.app N0 Nq26
  have e26 : T26.heap = h22 := eq26
  have cc27 : Steps p.tables e below S0' (T26.setTop (mkF m 6 #[.val (.ref x)] [(.int rr)])) := (Steps.trans cc24 st26)
  have cE := cc27
  rw [hS0'] at cE
  obtain ⟨fs, hr_, hrun, hended, hE⟩ := X26.leaveW hS22 (by rw [e26]; exact hk22) (v := some (.int rr)) (fun h => by rw [Bd.returns] at h; cases h)
  have CE := C22.trans (CHv.at X26 hZ22 hEL C22.1)
  refine ⟨_, _, cE.trans (X26.ireturnOut hx Bd.returns (by rcases hr with ⟨rfl, -⟩ | ⟨rfl, -⟩ <;> rfl) (by simp) (own_d hby d15_6) hr_), hrun, hended, _, _, rfl, ?_, ?_, hE.1, hE.2.1, hE.2.2.1, hE.2.2.2.mono (by first | decide | omega) (by first | decide | omega)⟩
  · show Q_own_weak Z x c0 c1 cs z h0 n0 _ T26.heap _
    rw [e26]
    exact ⟨rr, rfl, N26, KK1, hr⟩
  · rw [hh]
    show CHr Z EL s.vm h0 T26.vm T26.heap
    rw [e26]
    exact CE
theorem d16_0 : decode prog_34_method_5_code 0 = .ok (.aload_n 0, 1) := by decide +kernel
theorem d16_1 : decode prog_34_method_5_code 1 = .ok (.invokestatic 41, 3) := by decide +kernel
theorem d16_4 : decode prog_34_method_5_code 4 = .ok (.ifCond .eq 11, 3) := by decide +kernel
theorem d16_7 : decode prog_34_method_5_code 7 = .ok (.aload_n 0, 1) := by decide +kernel
theorem d16_8 : decode prog_34_method_5_code 8 = .ok (.iconst 2, 1) := by decide +kernel
theorem d16_9 : decode prog_34_method_5_code 9 = .ok (.invokevirtual 44, 3) := by decide +kernel
theorem d16_12 : decode prog_34_method_5_code 12 = .ok (.goto 4, 3) := by decide +kernel
theorem d16_15 : decode prog_34_method_5_code 15 = .ok (.aload_n 0, 1) := by decide +kernel
theorem d16_16 : decode prog_34_method_5_code 16 = .ok (.areturn, 1) := by decide +kernel
def Q_own_opq (Z : State) (x : Addr) (cs ds : List Int32) (z : Int32) (f : Value) (h0 : Heap) (n0 : Nat) (v : Option Value) (h : Heap) (L : List Loc) : Prop := ∃ x' : Addr, v = some (.ref x') ∧ Fr n0 L ∧ Keep h0 h [] ∧ own_Lat Z h x' ds
set_option maxRecDepth 65536 in
set_option maxHeartbeats 40000000 in
theorem own_opq (l : Launch) (Z : State) (a0 : Array Value) (hw : ∀ d ∈ tables_1, d.before a0 Z = true) (x : Addr) (cs ds : List Int32) (z : Int32) (f : Value) (h0 : Heap) (n0 : Nat) (Z0 : n0 ≤ h0.size) (X00 : Old Z n0 h0) (O2 : Sta Z Z.heap "java/lang/String" "COMPACT_STRINGS" "Z" (.int z)) (P5 : ¬ z = 0) (O4 : Sta Z Z.heap "jdk/internal/util/Preconditions" "SIOOBE_FORMATTER" "Ljava/util/function/BiFunction;" f) (hf : f.isRef = true) (Hx : own_Lat Z h0 x cs) (hcs : cs = 87 :: 47 :: ds ∧ 1 ≤ ds.length ∧ ds.length ≤ 4 ∨ cs = ds ∧ ∃ (d : Int32) (es : List Int32), ds = 34 :: d :: es) :
    MetFree l (⟨"com/example/feedwright/feedwright/http/EntityTags", "opaque", "(Ljava/lang/String;)Ljava/lang/String;"⟩ : MethodName) (head1 [Jvm.Cond.code (⟨"com/example/feedwright/feedwright/http/EntityTags", "opaque", "(Ljava/lang/String;)Ljava/lang/String;"⟩ : MethodName) prog_34_method_5_code 1 (some (.object "java/lang/String"))] ({ frames := 6, cells := 4, slots := 20, locals := 116 } : Room)) (fun a_ U_ => a_ = #[(.ref x)] ∧ Z.Warmed39 U_.vm ∧ U_.heap = h0 ∧ CHv Z EL U_.vm h0) (fun _ _ _ _ _ => True) (fun _ U_ o_ V_ => ∃ v_ L_, o_ = .returned v_ ∧ Q_own_opq Z x cs ds z f h0 n0 v_ V_.heap L_ ∧ CHr Z EL U_.vm U_.heap V_.vm V_.heap ∧ ReturnedEndW U_ o_ V_ L_ ({ frames := 6, cells := 4, slots := 20, locals := 116 } : Room).cells ({ frames := 6, cells := 4, slots := 20, locals := 116 } : Room).slots) := by
  refine MetFree.of_bodySF (plainFor_of_name own_pn5) hisR ?_
  intro p e s m args below meth c s₁ Bd hml0 hP hK
  obtain ⟨rfl, hZ, hh, hCH⟩ := hP
  have hx := Bd.exec
  have hby := Bd.bytes
  have hml : c.maxLocals = 1 := hml0
  have hown : s.vm.findClass "com/example/feedwright/feedwright/http/EntityTags" = some m.cls := findClass_of_methodNamed Bd.named
  have hnm := (name_of_methodNamed Bd.named Bd.method).1
  have X0 : Stand p l e ({ frames := 6, cells := 4, slots := 20, locals := 116 } : Room) (s.setVm s.vm) m #[(.ref x)] below meth c s₁ [] 0 0 := Stand.of_body Bd
  have e0 : s₁.heap = h0 := by rw [← hh, Bd.state]; rfl
  have N0 := Fr.nil n0
  have KK0 := Keep.refl h0 ([] : List Addr)
  have C0 := CHr.refl hCH
  have hS0 : s.Since s.vm 0 := (State.WarmedH.refl s).since 0
  have hk0 : 0 ≤ h0.size := Nat.zero_le _
  have hEL : EW Z a0 EL := own_EW hw
  have cc0 : Steps p.tables e below (s₁.setTop (entryFrame m #[(.ref x)] 1)) (s₁.setTop (mkF m 0 #[.val (.ref x)] [])) := XT.entry rfl
  obtain ⟨S0', hS0'⟩ : ∃ S, S = (s₁.setTop (entryFrame m #[(.ref x)] 1)) := ⟨_, rfl⟩
  rw [← hS0'] at cc0
  have w_39 := hw _ (List.mem_of_getElem? (i := 39) rfl)
  have w_44 := hw _ (List.mem_of_getElem? (i := 44) rfl)
  have w_45 := hw _ (List.mem_of_getElem? (i := 45) rfl)
  have w_46 := hw _ (List.mem_of_getElem? (i := 46) rfl)
  have w_87 := hw _ (List.mem_of_getElem? (i := 87) rfl)
  rcases hcs with ⟨rfl, d1, d4⟩ | ⟨rfl, d, es, rfl⟩
  · skip
    have cc21 : Steps p.tables e below S0' (s₁.setTop (mkF m 1 #[.val (.ref x)] [(.ref x)])) := Steps.trans cc0 (by
      refine XS.aloadN X0.here hx rfl (own_d hby d16_0) rfl rfl ?_
      exact Steps.refl _)
    obtain ⟨_, _, ⟨T22, L22, k22, n22⟩, -, X22, hs22, gr22, ⟨Lc22, hQ22, l22, y22, z22, CH22⟩, st22⟩ := callSS X0 hx (y := (⟨"com/example/feedwright/feedwright/http/EntityTags", "isWeak", "(Ljava/lang/String;)Z"⟩ : MethodName)) hown (mvT hZ w_44) (mvT hZ w_45) (mvT hZ w_39) (mvT hZ w_46) (by decide) (backOfSH (W := 0) (own_weak l Z a0 hw x 87 47 ds z h0 n0 Z0 X00 O2 P5 Hx) hZ w_46 w_39 (by decide) (by decide) hEL C0.1) (g := (mkF m 1 #[.val (.ref x)] [(.ref x)])) rfl (by rw [hml]; rfl) (argsL := [(.ref x)]) (rest := []) (lenOf own_pd13 rfl) rfl (by show 2 * 0 + _ ≤ _; exact Nat.le_of_eq rfl) (own_d hby d16_1) (fun _ _ => ⟨rfl, e0, Nat.le_of_ble_eq_true rfl, Nat.le_of_ble_eq_true rfl⟩)
    dsimp only [Pt.U, Pt.locs, Pt.cells, Pt.slots] at X22 l22 y22 z22 st22 hQ22 hs22 gr22 CH22
    subst l22 y22 z22
    obtain ⟨rr, rfl, Nq22, Kq22, hr⟩ := hQ22
    obtain ⟨Xr22, hS22, hZ22, hown22⟩ := rebS hS0 (by rw [e0]; exact hk0) X22 hs22 gr22 hZ hown
    have hk22 : T22.heap.size ≤ T22.heap.size := Nat.le_refl _
    have C22 := C0.trans CH22
    have N22 := Fr.app N0 Nq22
    have KK1 : Keep h0 T22.heap ([] : List Addr) := KK0.trans Kq22 all0
    have Zs1 : n0 ≤ T22.heap.size := Nat.le_trans Z0 Kq22.1
    have e22 : T22.heap = T22.heap := rfl
    obtain rfl : rr = 1 := hr.elim (fun q => q.1) (fun q => absurd ⟨rfl, rfl⟩ q.2)
    have cc24 : Steps p.tables e below S0' (T22.setTop (mkF m 9 #[.val (.ref x)] [(.int 2), (.ref x)])) := Steps.trans (Steps.trans cc21 st22) (by
      refine XS.ifNo Xr22.here hx rfl (own_d hby d16_4) rfl (i0_eq_f (by decide)) ?_
      refine XS.aloadN Xr22.here hx rfl (own_d hby d16_7) rfl rfl ?_
      refine iconstV Xr22.here hx rfl 2 (own_d hby d16_8) (by decide) ?_
      exact Steps.refl _)
    have fa23 : Old Z n0 T22.heap := (X00.keep Kq22 all0)
    have fa25 : Exa Z T22.heap x "java/lang/String" := (Hx.1.keep Kq22)
    obtain ⟨cq26, kq26, qa26, qb26, qc26⟩ := isOf hZ22 e22 fa25
    obtain ⟨_, _, ⟨T26, L26, k26, n26⟩, -, X26, ⟨Lc26, hQ26, l26, y26, z26⟩, st26⟩ := Xr22.virtualBack hx (y := (⟨"java/lang/String", "substring", "(I)Ljava/lang/String;"⟩ : MethodName)) (z := (⟨"java/lang/String", "substring", "(I)Ljava/lang/String;"⟩ : MethodName)) hown22 (mvT hZ22 (hw _ (List.mem_of_getElem? (i := 84) rfl))) (mvT hZ22 (hw _ (List.mem_of_getElem? (i := 85) rfl))) (notFace_of_selects (args := #[]) (mvT hZ22 w_87)) (mvT hZ22 w_87) (mvT hZ22 (hw _ (List.mem_of_getElem? (i := 86) rfl))) (by decide) (backOf (W := 0) (own_sub1 l Z a0 hw x (87 :: 47 :: ds) z f T22.heap n0 Zs1 fa23 O2 P5 O4 hf (Hx.keep0 KK1) (by simp; omega) (by simp; omega)) hZ22 (hw _ (List.mem_of_getElem? (i := 88) rfl)) (hw _ (List.mem_of_getElem? (i := 9) rfl)) (by decide) (by decide)) qa26 qc26 (g := (mkF m 9 #[.val (.ref x)] [(.int 2), (.ref x)])) rfl (by rw [hml]; rfl) (Steps.refl _) (argsL := [(.int 2)]) (rest := []) (lenOf own_pd14 rfl) rfl (by show 2 * 0 + _ ≤ _; exact Nat.le_of_eq rfl) (own_d hby d16_9) (fun _ _ => ⟨rfl, e22, Nat.le_of_ble_eq_true rfl, Nat.le_of_ble_eq_true rfl⟩)
    dsimp only [Pt.U, Pt.locs, Pt.cells, Pt.slots] at X26 l26 y26 z26 st26 hQ26
    subst l26 y26 z26
    obtain ⟨x', rfl, Nq26, Kq26, sq26, Hq26⟩ := hQ26
    have N26 := Fr.app N22 Nq26
    have D27 := CHr.keep Kq26 sf0 C22.1
    have C28 := C22.trans D27
    have KK2 : Keep h0 T26.heap ([] : List Addr) := KK1.trans Kq26 all0
    have Zs2 : n0 ≤ T26.heap.size := Nat.le_trans Zs1 Kq26.1
    have e26 : T26.heap = T26.heap := rfl
    have cc29 : Steps p.tables e below S0' (T26.setTop (mkF m 16 #[.val (.ref x)] [(.ref x')])) := Steps.trans (Steps.trans cc24 st26) (by
      refine XS.goto X26.here hx rfl (pc0 := 12) rfl (own_d hby d16_12) (by decide) rfl ?_
      exact Steps.refl _)
    have cE := cc29
    rw [hS0'] at cE
    obtain ⟨fs, hr_, hrun, hended, hE⟩ := X26.leaveW hS22 (by rw [e26]; exact (Nat.le_trans hk22 Kq26.1)) (v := some (.ref x')) (fun h => by rw [Bd.returns] at h; cases h)
    have CE := C28.trans (CHv.at X26 hZ22 hEL C28.1)
    refine ⟨_, _, cE.trans (X26.areturnOut hx (rfl) Bd.returns rfl (own_d hby d16_16) hr_), hrun, hended, _, _, rfl, ?_, ?_, hE.1, hE.2.1, hE.2.2.1, hE.2.2.2.mono (by first | decide | omega) (by first | decide | omega)⟩
    · show Q_own_opq Z x (87 :: 47 :: ds) ds z f h0 n0 _ T26.heap _
      rw [e26]
      exact ⟨x', rfl, N26, KK2, Hq26⟩
    · rw [hh]
      show CHr Z EL s.vm h0 T26.vm T26.heap
      rw [e26]
      exact CE
  · skip
    have cc21 : Steps p.tables e below S0' (s₁.setTop (mkF m 1 #[.val (.ref x)] [(.ref x)])) := Steps.trans cc0 (by
      refine XS.aloadN X0.here hx rfl (own_d hby d16_0) rfl rfl ?_
      exact Steps.refl _)
    obtain ⟨_, _, ⟨T22, L22, k22, n22⟩, -, X22, hs22, gr22, ⟨Lc22, hQ22, l22, y22, z22, CH22⟩, st22⟩ := callSS X0 hx (y := (⟨"com/example/feedwright/feedwright/http/EntityTags", "isWeak", "(Ljava/lang/String;)Z"⟩ : MethodName)) hown (mvT hZ w_44) (mvT hZ w_45) (mvT hZ w_39) (mvT hZ w_46) (by decide) (backOfSH (W := 0) (own_weak l Z a0 hw x 34 d es z h0 n0 Z0 X00 O2 P5 Hx) hZ w_46 w_39 (by decide) (by decide) hEL C0.1) (g := (mkF m 1 #[.val (.ref x)] [(.ref x)])) rfl (by rw [hml]; rfl) (argsL := [(.ref x)]) (rest := []) (lenOf own_pd13 rfl) rfl (by show 2 * 0 + _ ≤ _; exact Nat.le_of_eq rfl) (own_d hby d16_1) (fun _ _ => ⟨rfl, e0, Nat.le_of_ble_eq_true rfl, Nat.le_of_ble_eq_true rfl⟩)
    dsimp only [Pt.U, Pt.locs, Pt.cells, Pt.slots] at X22 l22 y22 z22 st22 hQ22 hs22 gr22 CH22
    subst l22 y22 z22
    obtain ⟨rr, rfl, Nq22, Kq22, hr⟩ := hQ22
    obtain ⟨Xr22, hS22, hZ22, hown22⟩ := rebS hS0 (by rw [e0]; exact hk0) X22 hs22 gr22 hZ hown
    have hk22 : T22.heap.size ≤ T22.heap.size := Nat.le_refl _
    have C22 := C0.trans CH22
    have N22 := Fr.app N0 Nq22
    have KK1 : Keep h0 T22.heap ([] : List Addr) := KK0.trans Kq22 all0
    have Zs1 : n0 ≤ T22.heap.size := Nat.le_trans Z0 Kq22.1
    have e22 : T22.heap = T22.heap := rfl
    obtain rfl : rr = 0 := hr.elim (fun q => absurd q.2.1 (by decide)) (fun q => q.1)
    have cc23 : Steps p.tables e below S0' (T22.setTop (mkF m 16 #[.val (.ref x)] [(.ref x)])) := Steps.trans (Steps.trans cc21 st22) (by
      refine XS.ifYes Xr22.here hx rfl (pc0 := 4) rfl (own_d hby d16_4) rfl (i0_eq_t rfl) (by decide) rfl ?_
      refine XS.aloadN Xr22.here hx rfl (own_d hby d16_15) rfl rfl ?_
      exact Steps.refl _)
    have cE := cc23
    rw [hS0'] at cE
    obtain ⟨fs, hr_, hrun, hended, hE⟩ := Xr22.leaveW hS22 (by rw [e22]; exact hk22) (v := some (.ref x)) (fun h => by rw [Bd.returns] at h; cases h)
    have CE := C22.trans (CHv.at Xr22 hZ22 hEL C22.1)
    refine ⟨_, _, cE.trans (Xr22.areturnOut hx (rfl) Bd.returns rfl (own_d hby d16_16) hr_), hrun, hended, _, _, rfl, ?_, ?_, hE.1, hE.2.1, hE.2.2.1, hE.2.2.2.mono (by first | decide | omega) (by first | decide | omega)⟩
    · show Q_own_opq Z x (34 :: d :: es) (34 :: d :: es) z f h0 n0 _ T22.heap _
      rw [e22]
      exact ⟨x, rfl, N22, KK1, Hx.keep0 KK1⟩
    · rw [hh]
      show CHr Z EL s.vm h0 T22.vm T22.heap
      rw [e22]
      exact CE
theorem d17_0 : decode prog_34_method_4_code 0 = .ok (.aload_n 0, 1) := by decide +kernel
theorem d17_1 : decode prog_34_method_4_code 1 = .ok (.invokestatic 33, 3) := by decide +kernel
theorem d17_4 : decode prog_34_method_4_code 4 = .ok (.aload_n 1, 1) := by decide +kernel
theorem d17_5 : decode prog_34_method_4_code 5 = .ok (.invokestatic 33, 3) := by decide +kernel
theorem d17_8 : decode prog_34_method_4_code 8 = .ok (.invokevirtual 37, 3) := by decide +kernel
theorem d17_11 : decode prog_34_method_4_code 11 = .ok (.ireturn, 1) := by decide +kernel
def Q_own_match (Z : State) (x y : Addr) (cs ds cs' ds' : List Int32) (z : Int32) (f : Value) (h0 : Heap) (n0 : Nat) (v : Option Value) (h : Heap) (L : List Loc) : Prop := ∃ r : Int32, v = some (.int r) ∧ Fr n0 L ∧ Keep h0 h [] ∧ (r = 1 ∧ ds = ds' ∨ r = 0 ∧ ¬ ds = ds')
set_option maxRecDepth 65536 in
set_option maxHeartbeats 40000000 in
theorem own_match (l : Launch) (Z : State) (a0 : Array Value) (hw : ∀ d ∈ tables_1, d.before a0 Z = true) (x y : Addr) (cs ds cs' ds' : List Int32) (z : Int32) (f : Value) (h0 : Heap) (n0 : Nat) (Z0 : n0 ≤ h0.size) (X00 : Old Z n0 h0) (O2 : Sta Z Z.heap "java/lang/String" "COMPACT_STRINGS" "Z" (.int z)) (P5 : ¬ z = 0) (O4 : Sta Z Z.heap "jdk/internal/util/Preconditions" "SIOOBE_FORMATTER" "Ljava/util/function/BiFunction;" f) (hf : f.isRef = true) (Hx : own_Lat Z h0 x cs) (hcs : cs = 87 :: 47 :: ds ∧ 1 ≤ ds.length ∧ ds.length ≤ 4 ∨ cs = ds ∧ ∃ (d : Int32) (es : List Int32), ds = 34 :: d :: es) (Hy : own_Lat Z h0 y cs') (hcs' : cs' = 87 :: 47 :: ds' ∧ 1 ≤ ds'.length ∧ ds'.length ≤ 4 ∨ cs' = ds' ∧ ∃ (d : Int32) (es : List Int32), ds' = 34 :: d :: es) :
    MetFree l (⟨"com/example/feedwright/feedwright/http/EntityTags", "matchWeakly", "(Ljava/lang/String;Ljava/lang/String;)Z"⟩ : MethodName) (head1 [Jvm.Cond.code (⟨"com/example/feedwright/feedwright/http/EntityTags", "matchWeakly", "(Ljava/lang/String;Ljava/lang/String;)Z"⟩ : MethodName) prog_34_method_4_code 2 (some .boolean)] ({ frames := 7, cells := 8, slots := 40, locals := 130 } : Room)) (fun a_ U_ => a_ = #[(.ref x), (.ref y)] ∧ Z.Warmed39 U_.vm ∧ U_.heap = h0 ∧ CHv Z EL U_.vm h0) (fun _ _ _ _ _ => True) (fun _ U_ o_ V_ => ∃ v_ L_, o_ = .returned v_ ∧ Q_own_match Z x y cs ds cs' ds' z f h0 n0 v_ V_.heap L_ ∧ CHr Z EL U_.vm U_.heap V_.vm V_.heap ∧ ReturnedEndW U_ o_ V_ L_ ({ frames := 7, cells := 8, slots := 40, locals := 130 } : Room).cells ({ frames := 7, cells := 8, slots := 40, locals := 130 } : Room).slots) := by
  refine MetFree.of_bodySF (plainFor_of_name own_pn5) hisR ?_
  intro p e s m args below meth c s₁ Bd hml0 hP hK
  obtain ⟨rfl, hZ, hh, hCH⟩ := hP
  have hx := Bd.exec
  have hby := Bd.bytes
  have hml : c.maxLocals = 2 := hml0
  have hown : s.vm.findClass "com/example/feedwright/feedwright/http/EntityTags" = some m.cls := findClass_of_methodNamed Bd.named
  have hnm := (name_of_methodNamed Bd.named Bd.method).1
  have X0 : Stand p l e ({ frames := 7, cells := 8, slots := 40, locals := 130 } : Room) (s.setVm s.vm) m #[(.ref x), (.ref y)] below meth c s₁ [] 0 0 := Stand.of_body Bd
  have e0 : s₁.heap = h0 := by rw [← hh, Bd.state]; rfl
  have N0 := Fr.nil n0
  have KK0 := Keep.refl h0 ([] : List Addr)
  have C0 := CHr.refl hCH
  have hS0 : s.Since s.vm 0 := (State.WarmedH.refl s).since 0
  have hk0 : 0 ≤ h0.size := Nat.zero_le _
  have hEL : EW Z a0 EL := own_EW hw
  have cc0 : Steps p.tables e below (s₁.setTop (entryFrame m #[(.ref x), (.ref y)] 2)) (s₁.setTop (mkF m 0 #[.val (.ref x), .val (.ref y)] [])) := XT.entry rfl
  obtain ⟨S0', hS0'⟩ : ∃ S, S = (s₁.setTop (entryFrame m #[(.ref x), (.ref y)] 2)) := ⟨_, rfl⟩
  rw [← hS0'] at cc0
  have w_39 := hw _ (List.mem_of_getElem? (i := 39) rfl)
  have w_41 := hw _ (List.mem_of_getElem? (i := 41) rfl)
  have w_42 := hw _ (List.mem_of_getElem? (i := 42) rfl)
  have w_43 := hw _ (List.mem_of_getElem? (i := 43) rfl)
  have w_77 := hw _ (List.mem_of_getElem? (i := 77) rfl)
  have hw_wordsEq : ∀ d ∈ StrChars.Road.wordsEq, d.before a0 Z = true := fun d hd => hw d ((by decide +kernel : ∀ d ∈ StrChars.Road.wordsEq, d ∈ tables_1) d hd)
  have cc21 : Steps p.tables e below S0' (s₁.setTop (mkF m 1 #[.val (.ref x), .val (.ref y)] [(.ref x)])) := Steps.trans cc0 (by
    refine XS.aloadN X0.here hx rfl (own_d hby d17_0) rfl rfl ?_
    exact Steps.refl _)
  obtain ⟨_, _, ⟨T22, L22, k22, n22⟩, -, X22, hs22, gr22, ⟨Lc22, hQ22, l22, y22, z22, CH22⟩, st22⟩ := callSS X0 hx (y := (⟨"com/example/feedwright/feedwright/http/EntityTags", "opaque", "(Ljava/lang/String;)Ljava/lang/String;"⟩ : MethodName)) hown (mvT hZ w_41) (mvT hZ w_42) (mvT hZ w_39) (mvT hZ w_43) (by decide) (backOfSH (W := 0) (own_opq l Z a0 hw x cs ds z f h0 n0 Z0 X00 O2 P5 O4 hf Hx hcs) hZ w_43 w_39 (by decide) (by decide) hEL C0.1) (g := (mkF m 1 #[.val (.ref x), .val (.ref y)] [(.ref x)])) rfl (by rw [hml]; rfl) (argsL := [(.ref x)]) (rest := []) (lenOf own_pd15 rfl) rfl (by show 2 * 0 + _ ≤ _; exact Nat.le_of_eq rfl) (own_d hby d17_1) (fun _ _ => ⟨rfl, e0, Nat.le_of_ble_eq_true rfl, Nat.le_of_ble_eq_true rfl⟩)
  dsimp only [Pt.U, Pt.locs, Pt.cells, Pt.slots] at X22 l22 y22 z22 st22 hQ22 hs22 gr22 CH22
  subst l22 y22 z22
  obtain ⟨u, rfl, Nq22, Kq22, Hu⟩ := hQ22
  obtain ⟨Xr22, hS22, hZ22, hown22⟩ := rebS hS0 (by rw [e0]; exact hk0) X22 hs22 gr22 hZ hown
  have hk22 : T22.heap.size ≤ T22.heap.size := Nat.le_refl _
  have C22 := C0.trans CH22
  have N22 := Fr.app N0 Nq22
  have KK1 : Keep h0 T22.heap ([] : List Addr) := KK0.trans Kq22 all0
  have Zs1 : n0 ≤ T22.heap.size := Nat.le_trans Z0 Kq22.1
  have e22 : T22.heap = T22.heap := rfl
  have cc24 : Steps p.tables e below S0' (T22.setTop (mkF m 5 #[.val (.ref x), .val (.ref y)] [(.ref y), (.ref u)])) := Steps.trans (Steps.trans cc21 st22) (by
    refine XS.aloadN Xr22.here hx rfl (own_d hby d17_4) rfl rfl ?_
    exact Steps.refl _)
  have fa23 : Old Z n0 T22.heap := (X00.keep Kq22 all0)
  obtain ⟨_, _, ⟨T25, L25, k25, n25⟩, -, X25, hs25, gr25, ⟨Lc25, hQ25, l25, y25, z25, CH25⟩, st25⟩ := callSS Xr22 hx (y := (⟨"com/example/feedwright/feedwright/http/EntityTags", "opaque", "(Ljava/lang/String;)Ljava/lang/String;"⟩ : MethodName)) hown22 (mvT hZ22 w_41) (mvT hZ22 w_42) (mvT hZ22 w_39) (mvT hZ22 w_43) (by decide) (backOfSH (W := 1) (own_opq l Z a0 hw y cs' ds' z f T22.heap n0 Zs1 fa23 O2 P5 O4 hf (Hy.keep0 KK1) hcs') hZ22 w_43 w_39 (by decide) (by decide) hEL C22.1) (g := (mkF m 5 #[.val (.ref x), .val (.ref y)] [(.ref y), (.ref u)])) rfl (by rw [hml]; rfl) (argsL := [(.ref y)]) (rest := [(.ref u)]) (lenOf own_pd15 rfl) rfl (by show 2 * 0 + _ ≤ _; exact Nat.le_of_eq rfl) (own_d hby d17_5) (fun _ _ => ⟨rfl, e22, Nat.le_of_ble_eq_true rfl, Nat.le_of_ble_eq_true rfl⟩)
  dsimp only [Pt.U, Pt.locs, Pt.cells, Pt.slots] at X25 l25 y25 z25 st25 hQ25 hs25 gr25 CH25
  subst l25 y25 z25
  obtain ⟨w, rfl, Nq25, Kq25, Hw⟩ := hQ25
  obtain ⟨Xr25, hS25, hZ25, hown25⟩ := rebS hS22 (by rw [e22]; exact hk22) X25 hs25 gr25 hZ22 hown22
  have hk25 : T25.heap.size ≤ T25.heap.size := Nat.le_refl _
  have C25 := C22.trans CH25
  have N25 := Fr.app N22 Nq25
  have KK2 : Keep h0 T25.heap ([] : List Addr) := KK1.trans Kq25 all0
  have Zs2 : n0 ≤ T25.heap.size := Nat.le_trans Zs1 Kq25.1
  have e25 : T25.heap = T25.heap := rfl
  have Hu' := Hu.keep0 Kq25
  obtain ⟨Eu, Cu, pu, lu, tu, ku, Vu, Au⟩ := Hu'
  obtain ⟨Ew, Cw, pw, lw, tw, kw, Vw, Aw⟩ := Hw
  have cc27 : Steps p.tables e below S0' (T25.setTop (mkF m 8 #[.val (.ref x), .val (.ref y)] [(.ref w), (.ref u)])) := (Steps.trans cc24 st25)
  have fa26 : Old Z n0 T25.heap := (fa23.keep Kq25 all0)
  obtain ⟨cq28, kq28, qa28, qb28, qc28⟩ := isOf hZ25 e25 Eu
  obtain ⟨_, _, ⟨T28, L28, k28, n28⟩, -, X28, ⟨Lc28, hQ28, l28, y28, z28⟩, st28⟩ := Xr25.virtualBack hx (y := (⟨"java/lang/String", "equals", "(Ljava/lang/Object;)Z"⟩ : MethodName)) (z := (⟨"java/lang/String", "equals", "(Ljava/lang/Object;)Z"⟩ : MethodName)) hown25 (mvT hZ25 (hw _ (List.mem_of_getElem? (i := 74) rfl))) (mvT hZ25 (hw _ (List.mem_of_getElem? (i := 75) rfl))) (notFace_of_selects (args := #[]) (mvT hZ25 w_77)) (mvT hZ25 w_77) (mvT hZ25 (hw _ (List.mem_of_getElem? (i := 76) rfl))) (by decide) (StrChars.Road.eqW (W := 0) hZ25 hw_wordsEq (kI := 4) (hw _ (List.mem_of_getElem? (i := 8) rfl)) Eu Vu Cu Au (StrChars.Road.codOf (cs := ds) rfl (fun c hc => (pu c hc).2)) (own_up _ pu) lu Ew Vw Cw Aw (StrChars.Road.codOf (cs := ds') rfl (fun c hc => (pw c hc).2)) (own_up _ pw) lw (O2.ext fa26.2) P5 (by decide) (by decide)) qa28 qc28 (g := (mkF m 8 #[.val (.ref x), .val (.ref y)] [(.ref w), (.ref u)])) rfl (by rw [hml]; rfl) (Steps.refl _) (argsL := [(.ref w)]) (rest := []) (lenOf own_pd16 rfl) rfl (by show 2 * 0 + _ ≤ _; exact Nat.le_of_eq rfl) (own_d hby d17_8) (fun _ _ => ⟨rfl, e25, Nat.le_of_ble_eq_true rfl, Nat.le_of_ble_eq_true rfl⟩)
  dsimp only [Pt.U, Pt.locs, Pt.cells, Pt.slots] at X28 l28 y28 z28 st28 hQ28
  subst l28 y28 z28
  obtain ⟨hv28, rfl, eq28⟩ := hQ28
  obtain ⟨rr, rfl, hr⟩ : ∃ r : Int32, _ = some (Value.int r) ∧ (r = 1 ∧ ds = ds' ∨ r = 0 ∧ ¬ ds = ds') := hv28.elim (fun q => ⟨1, q.1, Or.inl ⟨rfl, q.2⟩⟩) (fun q => ⟨0, q.1, Or.inr ⟨rfl, q.2⟩⟩)
  have N28 := Fr.app N25 (Fr.nil n0)
  have e28 : T28.heap = T25.heap := eq28
  have cc29 : Steps p.tables e below S0' (T28.setTop (mkF m 11 #[.val (.ref x), .val (.ref y)] [(.int rr)])) := (Steps.trans cc27 st28)
  have cE := cc29
  rw [hS0'] at cE
  obtain ⟨fs, hr_, hrun, hended, hE⟩ := X28.leaveW hS25 (by rw [e28]; exact hk25) (v := some (.int rr)) (fun h => by rw [Bd.returns] at h; cases h)
  have CE := C25.trans (CHv.at X28 hZ25 hEL C25.1)
  refine ⟨_, _, cE.trans (X28.ireturnOut hx Bd.returns (by rcases hr with ⟨rfl, -⟩ | ⟨rfl, -⟩ <;> rfl) (by simp) (own_d hby d17_11) hr_), hrun, hended, _, _, rfl, ?_, ?_, hE.1, hE.2.1, hE.2.2.1, hE.2.2.2.mono (by first | decide | omega) (by first | decide | omega)⟩
  · show Q_own_match Z x y cs ds cs' ds' z f h0 n0 _ T28.heap _
    rw [e28]
    exact ⟨rr, rfl, N28, KK2, hr⟩
  · rw [hh]
    show CHr Z EL s.vm h0 T28.vm T28.heap
    rw [e28]
    exact CE
theorem d18_0 : decode method_3_code 0 = .ok (.iload_n 0, 1) := by decide +kernel
theorem d18_1 : decode method_3_code 1 = .ok (.iconst 1, 1) := by decide +kernel
theorem d18_2 : decode method_3_code 2 = .ok (.iand, 1) := by decide +kernel
theorem d18_3 : decode method_3_code 3 = .ok (.ifCond .ne 35, 3) := by decide +kernel
theorem d18_6 : decode method_3_code 6 = .ok (.iload_n 0, 1) := by decide +kernel
theorem d18_7 : decode method_3_code 7 = .ok (.iconst 1, 1) := by decide +kernel
theorem d18_8 : decode method_3_code 8 = .ok (.iushr, 1) := by decide +kernel
theorem d18_9 : decode method_3_code 9 = .ok (.iconst 3, 1) := by decide +kernel
theorem d18_10 : decode method_3_code 10 = .ok (.iand, 1) := by decide +kernel
theorem d18_11 : decode method_3_code 11 = .ok (.istore_n 1, 1) := by decide +kernel
theorem d18_12 : decode method_3_code 12 = .ok (.iload_n 1, 1) := by decide +kernel
theorem d18_13 : decode method_3_code 13 = .ok (.ifCond .ne 6, 3) := by decide +kernel
theorem d18_16 : decode method_3_code 16 = .ok (.bipush 87, 2) := by decide +kernel
theorem d18_18 : decode method_3_code 18 = .ok (.ireturn, 1) := by decide +kernel
theorem d18_19 : decode method_3_code 19 = .ok (.iload_n 1, 1) := by decide +kernel
theorem d18_20 : decode method_3_code 20 = .ok (.iconst 1, 1) := by decide +kernel
theorem d18_21 : decode method_3_code 21 = .ok (.if_icmp .ne 6, 3) := by decide +kernel
theorem d18_24 : decode method_3_code 24 = .ok (.bipush 47, 2) := by decide +kernel
theorem d18_26 : decode method_3_code 26 = .ok (.ireturn, 1) := by decide +kernel
theorem d18_27 : decode method_3_code 27 = .ok (.iload_n 1, 1) := by decide +kernel
theorem d18_28 : decode method_3_code 28 = .ok (.iconst 2, 1) := by decide +kernel
theorem d18_29 : decode method_3_code 29 = .ok (.if_icmp .ne 6, 3) := by decide +kernel
theorem d18_32 : decode method_3_code 32 = .ok (.bipush 97, 2) := by decide +kernel
theorem d18_34 : decode method_3_code 34 = .ok (.ireturn, 1) := by decide +kernel
theorem d18_35 : decode method_3_code 35 = .ok (.bipush 65, 2) := by decide +kernel
theorem d18_37 : decode method_3_code 37 = .ok (.ireturn, 1) := by decide +kernel
theorem d18_38 : decode method_3_code 38 = .ok (.iload_n 0, 1) := by decide +kernel
theorem d18_39 : decode method_3_code 39 = .ok (.iconst 1, 1) := by decide +kernel
theorem d18_40 : decode method_3_code 40 = .ok (.iushr, 1) := by decide +kernel
theorem d18_41 : decode method_3_code 41 = .ok (.sipush 255, 3) := by decide +kernel
theorem d18_44 : decode method_3_code 44 = .ok (.iand, 1) := by decide +kernel
theorem d18_45 : decode method_3_code 45 = .ok (.istore_n 1, 1) := by decide +kernel
theorem d18_46 : decode method_3_code 46 = .ok (.iload_n 1, 1) := by decide +kernel
theorem d18_47 : decode method_3_code 47 = .ok (.bipush 33, 2) := by decide +kernel
theorem d18_49 : decode method_3_code 49 = .ok (.if_icmp .lt 15, 3) := by decide +kernel
theorem d18_52 : decode method_3_code 52 = .ok (.iload_n 1, 1) := by decide +kernel
theorem d18_53 : decode method_3_code 53 = .ok (.bipush 34, 2) := by decide +kernel
theorem d18_55 : decode method_3_code 55 = .ok (.if_icmp .eq 9, 3) := by decide +kernel
theorem d18_58 : decode method_3_code 58 = .ok (.iload_n 1, 1) := by decide +kernel
theorem d18_59 : decode method_3_code 59 = .ok (.bipush 127, 2) := by decide +kernel
theorem d18_61 : decode method_3_code 61 = .ok (.if_icmp .ne 6, 3) := by decide +kernel
theorem d18_64 : decode method_3_code 64 = .ok (.bipush 33, 2) := by decide +kernel
theorem d18_66 : decode method_3_code 66 = .ok (.ireturn, 1) := by decide +kernel
theorem d18_67 : decode method_3_code 67 = .ok (.iload_n 1, 1) := by decide +kernel
theorem d18_68 : decode method_3_code 68 = .ok (.i2c, 1) := by decide +kernel
theorem d18_69 : decode method_3_code 69 = .ok (.ireturn, 1) := by decide +kernel
def Q_own_ch (Z : State) (pp : Int32) (h0 : Heap) (n0 : Nat) (v : Option Value) (h : Heap) (L : List Loc) : Prop := ∃ c : Int32, v = some (.int c) ∧ Fr n0 L ∧ h = h0 ∧ ¬ c < 0 ∧ ¬ (255 : Int32) < c
set_option maxRecDepth 65536 in
set_option maxHeartbeats 40000000 in
theorem own_ch (l : Launch) (Z : State) (a0 : Array Value) (hw : ∀ d ∈ tables_1, d.before a0 Z = true) (pp : Int32) (h0 : Heap) (n0 : Nat) (Z0 : n0 ≤ h0.size)  :
    MetFree l (⟨"com/example/feedwright/feedwright/http/EntityTagsMatchWeaklyPinLaw", "ch", "(I)C"⟩ : MethodName) (head1 [Jvm.Cond.code (⟨"com/example/feedwright/feedwright/http/EntityTagsMatchWeaklyPinLaw", "ch", "(I)C"⟩ : MethodName) method_3_code 2 (some .char)] ({ frames := 0, cells := 0, slots := 0, locals := 0 } : Room)) (fun a_ U_ => a_ = #[(.int pp)] ∧ Z.Warmed39 U_.vm ∧ U_.heap = h0) (fun _ _ _ _ _ => True) (fun _ U_ o_ V_ => ∃ v_ L_, o_ = .returned v_ ∧ Q_own_ch Z pp h0 n0 v_ V_.heap L_ ∧ FrameEnd U_ o_ V_ L_ ({ frames := 0, cells := 0, slots := 0, locals := 0 } : Room).cells ({ frames := 0, cells := 0, slots := 0, locals := 0 } : Room).slots) := by
  refine MetFree.of_bodySF (plainFor_of_name own_pn6) hisR ?_
  intro p e s m args below meth c s₁ Bd hml0 hP hK
  obtain ⟨rfl, hZ, hh⟩ := hP
  have hx := Bd.exec
  have hby := Bd.bytes
  have hml : c.maxLocals = 2 := hml0
  have hown : s.vm.findClass "com/example/feedwright/feedwright/http/EntityTagsMatchWeaklyPinLaw" = some m.cls := findClass_of_methodNamed Bd.named
  have hnm := (name_of_methodNamed Bd.named Bd.method).1
  have X0 : Stand p l e ({ frames := 0, cells := 0, slots := 0, locals := 0 } : Room) s m #[(.int pp)] below meth c s₁ [] 0 0 := Stand.of_body Bd
  have e0 : s₁.heap = h0 := by rw [← hh, Bd.state]; rfl
  have N0 := Fr.nil n0
  have KK0 := Keep.refl h0 ([] : List Addr)
  have cc0 : Steps p.tables e below (s₁.setTop (entryFrame m #[(.int pp)] 2)) (s₁.setTop (mkF m 0 #[.val (.int pp), .unset] [])) := XT.entry rfl
  obtain ⟨S0', hS0'⟩ : ∃ S, S = (s₁.setTop (entryFrame m #[(.int pp)] 2)) := ⟨_, rfl⟩
  rw [← hS0'] at cc0
  have cc21 : Steps p.tables e below S0' (s₁.setTop (mkF m 3 #[.val (.int pp), .unset] [(.int (pp &&& (1 : Int32)))])) := Steps.trans cc0 (by
    refine XS.iloadN X0.here hx rfl (own_d hby d18_0) rfl ?_
    refine iconstV X0.here hx rfl 1 (own_d hby d18_1) (by decide) ?_
    refine XS.iand X0.here hx rfl (own_d hby d18_2) rfl ?_
    exact Steps.refl _)
  by_cases q0 : pp &&& (1 : Int32) = 0
  · skip
    have cc22 : Steps p.tables e below S0' (s₁.setTop (mkF m 13 #[.val (.int pp), .val (.int ((XT.ushr pp (1 : Int32)) &&& (3 : Int32)))] [(.int ((XT.ushr pp (1 : Int32)) &&& (3 : Int32)))])) := Steps.trans cc21 (by
      refine XS.ifNo X0.here hx rfl (own_d hby d18_3) rfl (i0_ne_f q0) ?_
      refine XS.iloadN X0.here hx rfl (own_d hby d18_6) rfl ?_
      refine iconstV X0.here hx rfl 1 (own_d hby d18_7) (by decide) ?_
      refine XT.iushr X0.here hx rfl (own_d hby d18_8) rfl ?_
      refine iconstV X0.here hx rfl 3 (own_d hby d18_9) (by decide) ?_
      refine XS.iand X0.here hx rfl (own_d hby d18_10) rfl ?_
      refine XS.istoreN X0.here hx rfl (own_d hby d18_11) rfl rfl ?_
      refine XS.iloadN X0.here hx rfl (own_d hby d18_12) rfl ?_
      exact Steps.refl _)
    by_cases q1 : (XT.ushr pp (1 : Int32)) &&& (3 : Int32) = 0
    · skip
      have cc23 : Steps p.tables e below S0' (s₁.setTop (mkF m 18 #[.val (.int pp), .val (.int ((XT.ushr pp (1 : Int32)) &&& (3 : Int32)))] [(.int 87)])) := Steps.trans cc22 (by
        refine XS.ifNo X0.here hx rfl (own_d hby d18_13) rfl (i0_ne_f q1) ?_
        refine bipushV X0.here hx rfl 87 (own_d hby d18_16) (by decide) ?_
        exact Steps.refl _)
      have cE := cc23
      rw [hS0'] at cE
      obtain ⟨fs, hr_, hrun, hended, hW, hsame⟩ := X0.leave (v := some (.int 87)) (fun h => by rw [Bd.returns] at h; cases h)
      refine ⟨_, _, cE.trans (X0.ireturnOut hx Bd.returns (rfl) (by simp) (own_d hby d18_18) hr_), hrun, hended, _, _, rfl, ?_, ⟨_, rfl⟩, hW, hsame.mono (by first | decide | omega) (by first | decide | omega)⟩
      show Q_own_ch Z pp h0 n0 _ s₁.heap _
      rw [e0]
      exact ⟨_, rfl, N0, rfl, by decide, by decide⟩
    · skip
      have cc23 : Steps p.tables e below S0' (s₁.setTop (mkF m 21 #[.val (.int pp), .val (.int ((XT.ushr pp (1 : Int32)) &&& (3 : Int32)))] [(.int 1), (.int ((XT.ushr pp (1 : Int32)) &&& (3 : Int32)))])) := Steps.trans cc22 (by
        refine XS.ifYes X0.here hx rfl (pc0 := 13) rfl (own_d hby d18_13) rfl (i0_ne_t q1) (by decide) rfl ?_
        refine XS.iloadN X0.here hx rfl (own_d hby d18_19) rfl ?_
        refine iconstV X0.here hx rfl 1 (own_d hby d18_20) (by decide) ?_
        exact Steps.refl _)
      by_cases q2 : (XT.ushr pp (1 : Int32)) &&& (3 : Int32) = 1
      · skip
        have cc24 : Steps p.tables e below S0' (s₁.setTop (mkF m 26 #[.val (.int pp), .val (.int ((XT.ushr pp (1 : Int32)) &&& (3 : Int32)))] [(.int 47)])) := Steps.trans cc23 (by
          refine XS.icmpNo X0.here hx rfl (own_d hby d18_21) rfl (ii_ne_f q2) ?_
          refine bipushV X0.here hx rfl 47 (own_d hby d18_24) (by decide) ?_
          exact Steps.refl _)
        have cE := cc24
        rw [hS0'] at cE
        obtain ⟨fs, hr_, hrun, hended, hW, hsame⟩ := X0.leave (v := some (.int 47)) (fun h => by rw [Bd.returns] at h; cases h)
        refine ⟨_, _, cE.trans (X0.ireturnOut hx Bd.returns (rfl) (by simp) (own_d hby d18_26) hr_), hrun, hended, _, _, rfl, ?_, ⟨_, rfl⟩, hW, hsame.mono (by first | decide | omega) (by first | decide | omega)⟩
        show Q_own_ch Z pp h0 n0 _ s₁.heap _
        rw [e0]
        exact ⟨_, rfl, N0, rfl, by decide, by decide⟩
      · skip
        have cc24 : Steps p.tables e below S0' (s₁.setTop (mkF m 29 #[.val (.int pp), .val (.int ((XT.ushr pp (1 : Int32)) &&& (3 : Int32)))] [(.int 2), (.int ((XT.ushr pp (1 : Int32)) &&& (3 : Int32)))])) := Steps.trans cc23 (by
          refine XS.icmpYes X0.here hx rfl (pc0 := 21) rfl (own_d hby d18_21) rfl (ii_ne_t q2) (by decide) rfl ?_
          refine XS.iloadN X0.here hx rfl (own_d hby d18_27) rfl ?_
          refine iconstV X0.here hx rfl 2 (own_d hby d18_28) (by decide) ?_
          exact Steps.refl _)
        by_cases q3 : (XT.ushr pp (1 : Int32)) &&& (3 : Int32) = 2
        · skip
          have cc25 : Steps p.tables e below S0' (s₁.setTop (mkF m 34 #[.val (.int pp), .val (.int ((XT.ushr pp (1 : Int32)) &&& (3 : Int32)))] [(.int 97)])) := Steps.trans cc24 (by
            refine XS.icmpNo X0.here hx rfl (own_d hby d18_29) rfl (ii_ne_f q3) ?_
            refine bipushV X0.here hx rfl 97 (own_d hby d18_32) (by decide) ?_
            exact Steps.refl _)
          have cE := cc25
          rw [hS0'] at cE
          obtain ⟨fs, hr_, hrun, hended, hW, hsame⟩ := X0.leave (v := some (.int 97)) (fun h => by rw [Bd.returns] at h; cases h)
          refine ⟨_, _, cE.trans (X0.ireturnOut hx Bd.returns (rfl) (by simp) (own_d hby d18_34) hr_), hrun, hended, _, _, rfl, ?_, ⟨_, rfl⟩, hW, hsame.mono (by first | decide | omega) (by first | decide | omega)⟩
          show Q_own_ch Z pp h0 n0 _ s₁.heap _
          rw [e0]
          exact ⟨_, rfl, N0, rfl, by decide, by decide⟩
        · skip
          have cc25 : Steps p.tables e below S0' (s₁.setTop (mkF m 37 #[.val (.int pp), .val (.int ((XT.ushr pp (1 : Int32)) &&& (3 : Int32)))] [(.int 65)])) := Steps.trans cc24 (by
            refine XS.icmpYes X0.here hx rfl (pc0 := 29) rfl (own_d hby d18_29) rfl (ii_ne_t q3) (by decide) rfl ?_
            refine bipushV X0.here hx rfl 65 (own_d hby d18_35) (by decide) ?_
            exact Steps.refl _)
          have cE := cc25
          rw [hS0'] at cE
          obtain ⟨fs, hr_, hrun, hended, hW, hsame⟩ := X0.leave (v := some (.int 65)) (fun h => by rw [Bd.returns] at h; cases h)
          refine ⟨_, _, cE.trans (X0.ireturnOut hx Bd.returns (rfl) (by simp) (own_d hby d18_37) hr_), hrun, hended, _, _, rfl, ?_, ⟨_, rfl⟩, hW, hsame.mono (by first | decide | omega) (by first | decide | omega)⟩
          show Q_own_ch Z pp h0 n0 _ s₁.heap _
          rw [e0]
          exact ⟨_, rfl, N0, rfl, by decide, by decide⟩
  · skip
    have cc22 : Steps p.tables e below S0' (s₁.setTop (mkF m 49 #[.val (.int pp), .val (.int ((XT.ushr pp (1 : Int32)) &&& (255 : Int32)))] [(.int 33), (.int ((XT.ushr pp (1 : Int32)) &&& (255 : Int32)))])) := Steps.trans cc21 (by
      refine XS.ifYes X0.here hx rfl (pc0 := 3) rfl (own_d hby d18_3) rfl (i0_ne_t q0) (by decide) rfl ?_
      refine XS.iloadN X0.here hx rfl (own_d hby d18_38) rfl ?_
      refine iconstV X0.here hx rfl 1 (own_d hby d18_39) (by decide) ?_
      refine XT.iushr X0.here hx rfl (own_d hby d18_40) rfl ?_
      refine sipushV X0.here hx rfl 255 (own_d hby d18_41) (by decide) ?_
      refine XS.iand X0.here hx rfl (own_d hby d18_44) rfl ?_
      refine XS.istoreN X0.here hx rfl (own_d hby d18_45) rfl rfl ?_
      refine XS.iloadN X0.here hx rfl (own_d hby d18_46) rfl ?_
      refine bipushV X0.here hx rfl 33 (own_d hby d18_47) (by decide) ?_
      exact Steps.refl _)
    by_cases q1 : (XT.ushr pp (1 : Int32)) &&& (255 : Int32) < 33
    · skip
      have cc23 : Steps p.tables e below S0' (s₁.setTop (mkF m 66 #[.val (.int pp), .val (.int ((XT.ushr pp (1 : Int32)) &&& (255 : Int32)))] [(.int 33)])) := Steps.trans cc22 (by
        refine XS.icmpYes X0.here hx rfl (pc0 := 49) rfl (own_d hby d18_49) rfl (ii_lt_t q1) (by decide) rfl ?_
        refine bipushV X0.here hx rfl 33 (own_d hby d18_64) (by decide) ?_
        exact Steps.refl _)
      have cE := cc23
      rw [hS0'] at cE
      obtain ⟨fs, hr_, hrun, hended, hW, hsame⟩ := X0.leave (v := some (.int 33)) (fun h => by rw [Bd.returns] at h; cases h)
      refine ⟨_, _, cE.trans (X0.ireturnOut hx Bd.returns (rfl) (by simp) (own_d hby d18_66) hr_), hrun, hended, _, _, rfl, ?_, ⟨_, rfl⟩, hW, hsame.mono (by first | decide | omega) (by first | decide | omega)⟩
      show Q_own_ch Z pp h0 n0 _ s₁.heap _
      rw [e0]
      exact ⟨_, rfl, N0, rfl, by decide, by decide⟩
    · skip
      have cc23 : Steps p.tables e below S0' (s₁.setTop (mkF m 55 #[.val (.int pp), .val (.int ((XT.ushr pp (1 : Int32)) &&& (255 : Int32)))] [(.int 34), (.int ((XT.ushr pp (1 : Int32)) &&& (255 : Int32)))])) := Steps.trans cc22 (by
        refine XS.icmpNo X0.here hx rfl (own_d hby d18_49) rfl (ii_lt_f q1) ?_
        refine XS.iloadN X0.here hx rfl (own_d hby d18_52) rfl ?_
        refine bipushV X0.here hx rfl 34 (own_d hby d18_53) (by decide) ?_
        exact Steps.refl _)
      by_cases q2 : (XT.ushr pp (1 : Int32)) &&& (255 : Int32) = 34
      · skip
        have cc24 : Steps p.tables e below S0' (s₁.setTop (mkF m 66 #[.val (.int pp), .val (.int ((XT.ushr pp (1 : Int32)) &&& (255 : Int32)))] [(.int 33)])) := Steps.trans cc23 (by
          refine XS.icmpYes X0.here hx rfl (pc0 := 55) rfl (own_d hby d18_55) rfl (ii_eq_t q2) (by decide) rfl ?_
          refine bipushV X0.here hx rfl 33 (own_d hby d18_64) (by decide) ?_
          exact Steps.refl _)
        have cE := cc24
        rw [hS0'] at cE
        obtain ⟨fs, hr_, hrun, hended, hW, hsame⟩ := X0.leave (v := some (.int 33)) (fun h => by rw [Bd.returns] at h; cases h)
        refine ⟨_, _, cE.trans (X0.ireturnOut hx Bd.returns (rfl) (by simp) (own_d hby d18_66) hr_), hrun, hended, _, _, rfl, ?_, ⟨_, rfl⟩, hW, hsame.mono (by first | decide | omega) (by first | decide | omega)⟩
        show Q_own_ch Z pp h0 n0 _ s₁.heap _
        rw [e0]
        exact ⟨_, rfl, N0, rfl, by decide, by decide⟩
      · skip
        have cc24 : Steps p.tables e below S0' (s₁.setTop (mkF m 61 #[.val (.int pp), .val (.int ((XT.ushr pp (1 : Int32)) &&& (255 : Int32)))] [(.int 127), (.int ((XT.ushr pp (1 : Int32)) &&& (255 : Int32)))])) := Steps.trans cc23 (by
          refine XS.icmpNo X0.here hx rfl (own_d hby d18_55) rfl (ii_eq_f q2) ?_
          refine XS.iloadN X0.here hx rfl (own_d hby d18_58) rfl ?_
          refine bipushV X0.here hx rfl 127 (own_d hby d18_59) (by decide) ?_
          exact Steps.refl _)
        by_cases q3 : (XT.ushr pp (1 : Int32)) &&& (255 : Int32) = 127
        · skip
          have cc25 : Steps p.tables e below S0' (s₁.setTop (mkF m 66 #[.val (.int pp), .val (.int ((XT.ushr pp (1 : Int32)) &&& (255 : Int32)))] [(.int 33)])) := Steps.trans cc24 (by
            refine XS.icmpNo X0.here hx rfl (own_d hby d18_61) rfl (ii_ne_f q3) ?_
            refine bipushV X0.here hx rfl 33 (own_d hby d18_64) (by decide) ?_
            exact Steps.refl _)
          have cE := cc25
          rw [hS0'] at cE
          obtain ⟨fs, hr_, hrun, hended, hW, hsame⟩ := X0.leave (v := some (.int 33)) (fun h => by rw [Bd.returns] at h; cases h)
          refine ⟨_, _, cE.trans (X0.ireturnOut hx Bd.returns (rfl) (by simp) (own_d hby d18_66) hr_), hrun, hended, _, _, rfl, ?_, ⟨_, rfl⟩, hW, hsame.mono (by first | decide | omega) (by first | decide | omega)⟩
          show Q_own_ch Z pp h0 n0 _ s₁.heap _
          rw [e0]
          exact ⟨_, rfl, N0, rfl, by decide, by decide⟩
        · skip
          have cc25 : Steps p.tables e below S0' (s₁.setTop (mkF m 69 #[.val (.int pp), .val (.int ((XT.ushr pp (1 : Int32)) &&& (255 : Int32)))] [(.int (((XT.ushr pp (1 : Int32)) &&& (255 : Int32)).toUInt32.toUInt16.toUInt32.toInt32))])) := Steps.trans cc24 (by
            refine XS.icmpYes X0.here hx rfl (pc0 := 61) rfl (own_d hby d18_61) rfl (ii_ne_t q3) (by decide) rfl ?_
            refine XS.iloadN X0.here hx rfl (own_d hby d18_67) rfl ?_
            refine XT.i2c X0.here hx rfl (own_d hby d18_68) rfl ?_
            exact Steps.refl _)
          have cE := cc25
          rw [hS0'] at cE
          obtain ⟨fs, hr_, hrun, hended, hW, hsame⟩ := X0.leave (v := some (.int (((XT.ushr pp (1 : Int32)) &&& (255 : Int32)).toUInt32.toUInt16.toUInt32.toInt32))) (fun h => by rw [Bd.returns] at h; cases h)
          refine ⟨_, _, cE.trans (X0.ireturnOut hx Bd.returns (narrow_c _) (by simp) (own_d hby d18_69) hr_), hrun, hended, _, _, rfl, ?_, ⟨_, rfl⟩, hW, hsame.mono (by first | decide | omega) (by first | decide | omega)⟩
          show Q_own_ch Z pp h0 n0 _ s₁.heap _
          rw [e0]
          exact ⟨_, rfl, N0, rfl, own_and255 _⟩
theorem d19_0 : decode method_4_code 0 = .ok (.iload_n 0, 1) := by decide +kernel
theorem d19_1 : decode method_4_code 1 = .ok (.ifCond .eq 82, 3) := by decide +kernel
theorem d19_4 : decode method_4_code 4 = .ok (.iload_n 1, 1) := by decide +kernel
theorem d19_5 : decode method_4_code 5 = .ok (.ifCond .eq 43, 3) := by decide +kernel
theorem d19_8 : decode method_4_code 8 = .ok (.new 23, 3) := by decide +kernel
theorem d19_11 : decode method_4_code 11 = .ok (.dup, 1) := by decide +kernel
theorem d19_12 : decode method_4_code 12 = .ok (.bipush 6, 2) := by decide +kernel
theorem d19_14 : decode method_4_code 14 = .ok (.newarray .char, 2) := by decide +kernel
theorem d19_16 : decode method_4_code 16 = .ok (.dup, 1) := by decide +kernel
theorem d19_17 : decode method_4_code 17 = .ok (.iconst 0, 1) := by decide +kernel
theorem d19_18 : decode method_4_code 18 = .ok (.bipush 87, 2) := by decide +kernel
theorem d19_20 : decode method_4_code 20 = .ok (.castore, 1) := by decide +kernel
theorem d19_21 : decode method_4_code 21 = .ok (.dup, 1) := by decide +kernel
theorem d19_22 : decode method_4_code 22 = .ok (.iconst 1, 1) := by decide +kernel
theorem d19_23 : decode method_4_code 23 = .ok (.bipush 47, 2) := by decide +kernel
theorem d19_25 : decode method_4_code 25 = .ok (.castore, 1) := by decide +kernel
theorem d19_26 : decode method_4_code 26 = .ok (.dup, 1) := by decide +kernel
theorem d19_27 : decode method_4_code 27 = .ok (.iconst 2, 1) := by decide +kernel
theorem d19_28 : decode method_4_code 28 = .ok (.bipush 34, 2) := by decide +kernel
theorem d19_30 : decode method_4_code 30 = .ok (.castore, 1) := by decide +kernel
theorem d19_31 : decode method_4_code 31 = .ok (.dup, 1) := by decide +kernel
theorem d19_32 : decode method_4_code 32 = .ok (.iconst 3, 1) := by decide +kernel
theorem d19_33 : decode method_4_code 33 = .ok (.iload_n 2, 1) := by decide +kernel
theorem d19_34 : decode method_4_code 34 = .ok (.castore, 1) := by decide +kernel
theorem d19_35 : decode method_4_code 35 = .ok (.dup, 1) := by decide +kernel
theorem d19_36 : decode method_4_code 36 = .ok (.iconst 4, 1) := by decide +kernel
theorem d19_37 : decode method_4_code 37 = .ok (.iload_n 3, 1) := by decide +kernel
theorem d19_38 : decode method_4_code 38 = .ok (.castore, 1) := by decide +kernel
theorem d19_39 : decode method_4_code 39 = .ok (.dup, 1) := by decide +kernel
theorem d19_40 : decode method_4_code 40 = .ok (.iconst 5, 1) := by decide +kernel
theorem d19_41 : decode method_4_code 41 = .ok (.bipush 34, 2) := by decide +kernel
theorem d19_43 : decode method_4_code 43 = .ok (.castore, 1) := by decide +kernel
theorem d19_44 : decode method_4_code 44 = .ok (.invokespecial 25, 3) := by decide +kernel
theorem d19_47 : decode method_4_code 47 = .ok (.areturn, 1) := by decide +kernel
theorem d19_48 : decode method_4_code 48 = .ok (.new 23, 3) := by decide +kernel
theorem d19_51 : decode method_4_code 51 = .ok (.dup, 1) := by decide +kernel
theorem d19_52 : decode method_4_code 52 = .ok (.iconst 5, 1) := by decide +kernel
theorem d19_53 : decode method_4_code 53 = .ok (.newarray .char, 2) := by decide +kernel
theorem d19_55 : decode method_4_code 55 = .ok (.dup, 1) := by decide +kernel
theorem d19_56 : decode method_4_code 56 = .ok (.iconst 0, 1) := by decide +kernel
theorem d19_57 : decode method_4_code 57 = .ok (.bipush 87, 2) := by decide +kernel
theorem d19_59 : decode method_4_code 59 = .ok (.castore, 1) := by decide +kernel
theorem d19_60 : decode method_4_code 60 = .ok (.dup, 1) := by decide +kernel
theorem d19_61 : decode method_4_code 61 = .ok (.iconst 1, 1) := by decide +kernel
theorem d19_62 : decode method_4_code 62 = .ok (.bipush 47, 2) := by decide +kernel
theorem d19_64 : decode method_4_code 64 = .ok (.castore, 1) := by decide +kernel
theorem d19_65 : decode method_4_code 65 = .ok (.dup, 1) := by decide +kernel
theorem d19_66 : decode method_4_code 66 = .ok (.iconst 2, 1) := by decide +kernel
theorem d19_67 : decode method_4_code 67 = .ok (.bipush 34, 2) := by decide +kernel
theorem d19_69 : decode method_4_code 69 = .ok (.castore, 1) := by decide +kernel
theorem d19_70 : decode method_4_code 70 = .ok (.dup, 1) := by decide +kernel
theorem d19_71 : decode method_4_code 71 = .ok (.iconst 3, 1) := by decide +kernel
theorem d19_72 : decode method_4_code 72 = .ok (.iload_n 2, 1) := by decide +kernel
theorem d19_73 : decode method_4_code 73 = .ok (.castore, 1) := by decide +kernel
theorem d19_74 : decode method_4_code 74 = .ok (.dup, 1) := by decide +kernel
theorem d19_75 : decode method_4_code 75 = .ok (.iconst 4, 1) := by decide +kernel
theorem d19_76 : decode method_4_code 76 = .ok (.bipush 34, 2) := by decide +kernel
theorem d19_78 : decode method_4_code 78 = .ok (.castore, 1) := by decide +kernel
theorem d19_79 : decode method_4_code 79 = .ok (.invokespecial 25, 3) := by decide +kernel
theorem d19_82 : decode method_4_code 82 = .ok (.areturn, 1) := by decide +kernel
theorem d19_83 : decode method_4_code 83 = .ok (.iload_n 1, 1) := by decide +kernel
theorem d19_84 : decode method_4_code 84 = .ok (.ifCond .eq 32, 3) := by decide +kernel
theorem d19_87 : decode method_4_code 87 = .ok (.new 23, 3) := by decide +kernel
theorem d19_90 : decode method_4_code 90 = .ok (.dup, 1) := by decide +kernel
theorem d19_91 : decode method_4_code 91 = .ok (.iconst 4, 1) := by decide +kernel
theorem d19_92 : decode method_4_code 92 = .ok (.newarray .char, 2) := by decide +kernel
theorem d19_94 : decode method_4_code 94 = .ok (.dup, 1) := by decide +kernel
theorem d19_95 : decode method_4_code 95 = .ok (.iconst 0, 1) := by decide +kernel
theorem d19_96 : decode method_4_code 96 = .ok (.bipush 34, 2) := by decide +kernel
theorem d19_98 : decode method_4_code 98 = .ok (.castore, 1) := by decide +kernel
theorem d19_99 : decode method_4_code 99 = .ok (.dup, 1) := by decide +kernel
theorem d19_100 : decode method_4_code 100 = .ok (.iconst 1, 1) := by decide +kernel
theorem d19_101 : decode method_4_code 101 = .ok (.iload_n 2, 1) := by decide +kernel
theorem d19_102 : decode method_4_code 102 = .ok (.castore, 1) := by decide +kernel
theorem d19_103 : decode method_4_code 103 = .ok (.dup, 1) := by decide +kernel
theorem d19_104 : decode method_4_code 104 = .ok (.iconst 2, 1) := by decide +kernel
theorem d19_105 : decode method_4_code 105 = .ok (.iload_n 3, 1) := by decide +kernel
theorem d19_106 : decode method_4_code 106 = .ok (.castore, 1) := by decide +kernel
theorem d19_107 : decode method_4_code 107 = .ok (.dup, 1) := by decide +kernel
theorem d19_108 : decode method_4_code 108 = .ok (.iconst 3, 1) := by decide +kernel
theorem d19_109 : decode method_4_code 109 = .ok (.bipush 34, 2) := by decide +kernel
theorem d19_111 : decode method_4_code 111 = .ok (.castore, 1) := by decide +kernel
theorem d19_112 : decode method_4_code 112 = .ok (.invokespecial 25, 3) := by decide +kernel
theorem d19_115 : decode method_4_code 115 = .ok (.areturn, 1) := by decide +kernel
theorem d19_116 : decode method_4_code 116 = .ok (.new 23, 3) := by decide +kernel
theorem d19_119 : decode method_4_code 119 = .ok (.dup, 1) := by decide +kernel
theorem d19_120 : decode method_4_code 120 = .ok (.iconst 3, 1) := by decide +kernel
theorem d19_121 : decode method_4_code 121 = .ok (.newarray .char, 2) := by decide +kernel
theorem d19_123 : decode method_4_code 123 = .ok (.dup, 1) := by decide +kernel
theorem d19_124 : decode method_4_code 124 = .ok (.iconst 0, 1) := by decide +kernel
theorem d19_125 : decode method_4_code 125 = .ok (.bipush 34, 2) := by decide +kernel
theorem d19_127 : decode method_4_code 127 = .ok (.castore, 1) := by decide +kernel
theorem d19_128 : decode method_4_code 128 = .ok (.dup, 1) := by decide +kernel
theorem d19_129 : decode method_4_code 129 = .ok (.iconst 1, 1) := by decide +kernel
theorem d19_130 : decode method_4_code 130 = .ok (.iload_n 2, 1) := by decide +kernel
theorem d19_131 : decode method_4_code 131 = .ok (.castore, 1) := by decide +kernel
theorem d19_132 : decode method_4_code 132 = .ok (.dup, 1) := by decide +kernel
theorem d19_133 : decode method_4_code 133 = .ok (.iconst 2, 1) := by decide +kernel
theorem d19_134 : decode method_4_code 134 = .ok (.bipush 34, 2) := by decide +kernel
theorem d19_136 : decode method_4_code 136 = .ok (.castore, 1) := by decide +kernel
theorem d19_137 : decode method_4_code 137 = .ok (.invokespecial 25, 3) := by decide +kernel
theorem d19_140 : decode method_4_code 140 = .ok (.areturn, 1) := by decide +kernel
def Q_own_tag (Z : State) (w t ca cb z : Int32) (h0 : Heap) (n0 : Nat) (v : Option Value) (h : Heap) (L : List Loc) : Prop := ∃ (x : Addr) (cs : List Int32), v = some (.ref x) ∧ Fr n0 L ∧ Keep h0 h [] ∧ own_Lat Z h x cs ∧ (cs = 87 :: 47 :: (if t = 0 then [34, ca, 34] else [34, ca, cb, 34]) ∨ cs = (if t = 0 then [34, ca, 34] else [34, ca, cb, 34]))
set_option maxRecDepth 65536 in
set_option maxHeartbeats 40000000 in
theorem own_tag (l : Launch) (Z : State) (a0 : Array Value) (hw : ∀ d ∈ tables_1, d.before a0 Z = true) (w t ca cb z : Int32) (h0 : Heap) (n0 : Nat) (Z0 : n0 ≤ h0.size) (X00 : Old Z n0 h0) (O2 : Sta Z Z.heap "java/lang/String" "COMPACT_STRINGS" "Z" (.int z)) (P5 : ¬ z = 0) (hw0 : w = 0 ∨ w = 1) (ht0 : t = 0 ∨ t = 1) (hca : ¬ ca < 0 ∧ ¬ (255 : Int32) < ca) (hcb : ¬ cb < 0 ∧ ¬ (255 : Int32) < cb) :
    MetFree l (⟨"com/example/feedwright/feedwright/http/EntityTagsMatchWeaklyPinLaw", "tag", "(ZZCC)Ljava/lang/String;"⟩ : MethodName) (head1 [Jvm.Cond.code (⟨"com/example/feedwright/feedwright/http/EntityTagsMatchWeaklyPinLaw", "tag", "(ZZCC)Ljava/lang/String;"⟩ : MethodName) method_4_code 4 (some (.object "java/lang/String"))] ({ frames := 4, cells := 3, slots := 16, locals := 66 } : Room)) (fun a_ U_ => a_ = #[(.int w), (.int t), (.int ca), (.int cb)] ∧ Z.Warmed39 U_.vm ∧ U_.heap = h0) (fun _ _ _ _ _ => True) (fun _ U_ o_ V_ => ∃ v_ L_, o_ = .returned v_ ∧ Q_own_tag Z w t ca cb z h0 n0 v_ V_.heap L_ ∧ FrameEnd U_ o_ V_ L_ ({ frames := 4, cells := 3, slots := 16, locals := 66 } : Room).cells ({ frames := 4, cells := 3, slots := 16, locals := 66 } : Room).slots) := by
  refine MetFree.of_bodySF (plainFor_of_name own_pn6) hisR ?_
  intro p e s m args below meth c s₁ Bd hml0 hP hK
  obtain ⟨rfl, hZ, hh⟩ := hP
  have hx := Bd.exec
  have hby := Bd.bytes
  have hml : c.maxLocals = 4 := hml0
  have hown : s.vm.findClass "com/example/feedwright/feedwright/http/EntityTagsMatchWeaklyPinLaw" = some m.cls := findClass_of_methodNamed Bd.named
  have hnm := (name_of_methodNamed Bd.named Bd.method).1
  have X0 : Stand p l e ({ frames := 4, cells := 3, slots := 16, locals := 66 } : Room) s m #[(.int w), (.int t), (.int ca), (.int cb)] below meth c s₁ [] 0 0 := Stand.of_body Bd
  have e0 : s₁.heap = h0 := by rw [← hh, Bd.state]; rfl
  have N0 := Fr.nil n0
  have KK0 := Keep.refl h0 ([] : List Addr)
  have cc0 : Steps p.tables e below (s₁.setTop (entryFrame m #[(.int w), (.int t), (.int ca), (.int cb)] 4)) (s₁.setTop (mkF m 0 #[.val (.int w), .val (.int t), .val (.int ca), .val (.int cb)] [])) := XT.entry rfl
  obtain ⟨S0', hS0'⟩ : ∃ S, S = (s₁.setTop (entryFrame m #[(.int w), (.int t), (.int ca), (.int cb)] 4)) := ⟨_, rfl⟩
  rw [← hS0'] at cc0
  have w_7 := hw _ (List.mem_of_getElem? (i := 7) rfl)
  have w_8 := hw _ (List.mem_of_getElem? (i := 8) rfl)
  have w_9 := hw _ (List.mem_of_getElem? (i := 9) rfl)
  have w_10 := hw _ (List.mem_of_getElem? (i := 10) rfl)
  have w_11 := hw _ (List.mem_of_getElem? (i := 11) rfl)
  have w_12 := hw _ (List.mem_of_getElem? (i := 12) rfl)
  have w_13 := hw _ (List.mem_of_getElem? (i := 13) rfl)
  have w_34 := hw _ (List.mem_of_getElem? (i := 34) rfl)
  have w_36 := hw _ (List.mem_of_getElem? (i := 36) rfl)
  have hw_words : ∀ d ∈ StrChars.Road.words, d.before a0 Z = true := fun d hd => hw d ((by decide +kernel : ∀ d ∈ StrChars.Road.words, d ∈ tables_1) d hd)
  have cc21 : Steps p.tables e below S0' (s₁.setTop (mkF m 1 #[.val (.int w), .val (.int t), .val (.int ca), .val (.int cb)] [(.int w)])) := Steps.trans cc0 (by
    refine XS.iloadN X0.here hx rfl (own_d hby d19_0) rfl ?_
    exact Steps.refl _)
  by_cases qw : w = 0
  · skip
    have cc22 : Steps p.tables e below S0' (s₁.setTop (mkF m 84 #[.val (.int w), .val (.int t), .val (.int ca), .val (.int cb)] [(.int t)])) := Steps.trans cc21 (by
      refine XS.ifYes X0.here hx rfl (pc0 := 1) rfl (own_d hby d19_1) rfl (i0_eq_t qw) (by decide) rfl ?_
      refine XS.iloadN X0.here hx rfl (own_d hby d19_83) rfl ?_
      exact Steps.refl _)
    by_cases qt : t = 0
    · skip
      have cc23 : Steps p.tables e below S0' (s₁.setTop (mkF m 116 #[.val (.int w), .val (.int t), .val (.int ca), .val (.int cb)] [])) := Steps.trans cc22 (by
        refine XS.ifYes X0.here hx rfl (pc0 := 84) rfl (own_d hby d19_84) rfl (i0_eq_t qt) (by decide) rfl ?_
        exact Steps.refl _)
      obtain ⟨T24, h24, X24, e24, E24, A24, D24, -, st24⟩ := newO X0 hx hZ hown w_7 w_8 w_9 e0 (g := (mkF m 116 #[.val (.int w), .val (.int t), .val (.int ca), .val (.int cb)] [])) rfl (own_d hby d19_116) (by decide) (by decide)
      obtain ⟨x, g_x⟩ : ∃ z, z = h0.size := ⟨_, rfl⟩
      rw [← g_x] at A24 D24 st24
      have K24 := (Keep.refl h0 ([] : List Addr)).ext E24
      have b_x : h0.size ≤ x := (Nat.le_of_eq g_x.symm)
      have gn_x : n0 ≤ x := Nat.le_trans Z0 b_x
      have s0_x : h0.size ≤ x := Nat.le_trans KK0.1 b_x
      have KK1 : Keep h0 h24 ([] : List Addr) := KK0.trans K24 all0
      have Zs1 : n0 ≤ h24.size := Nat.le_trans Z0 K24.1
      have F_value_x : Fld Z h24 x "java/lang/String" "value" "[B" .null := D24 (Or.inr w_36) (ty := (.array .byte)) (by decide)
      have F_coder_x : Fld Z h24 x "java/lang/String" "coder" "B" (.int (0 : Int32)) := D24 (Or.inr w_34) (ty := .byte) (by decide)
      have cc25 : Steps p.tables e below S0' (T24.setTop (mkF m 121 #[.val (.int w), .val (.int t), .val (.int ca), .val (.int cb)] [(.int 3), (.ref x), (.ref x)])) := Steps.trans (cc23.trans (st24 _ (Steps.refl _))) (by
        refine XS.dup X24.here hx rfl (own_d hby d19_119) rfl rfl ?_
        refine iconstV X24.here hx rfl 3 (own_d hby d19_120) (by decide) ?_
        exact Steps.refl _)
      obtain ⟨T26, h26, k26, X26, e26, E26, A26, st26⟩ := newP X24 hx hZ (aty := .char) w_10 e24 (g := (mkF m 121 #[.val (.int w), .val (.int t), .val (.int ca), .val (.int cb)] [(.int 3), (.ref x), (.ref x)])) rfl (own_d hby d19_121) rfl (by decide) (cap := 3) (by decide) (by decide) (by decide) (by decide)
      obtain ⟨b, g_b⟩ : ∃ z, z = h24.size := ⟨_, rfl⟩
      rw [← g_b] at A26 st26
      have K26 := (Keep.refl h24 ([] : List Addr)).ext E26
      have b_b : h24.size ≤ b := (Nat.le_of_eq g_b.symm)
      have gn_b : n0 ≤ b := Nat.le_trans Zs1 b_b
      have s0_b : h0.size ≤ b := Nat.le_trans KK1.1 b_b
      have ne_x_b : x ≠ b := Nat.ne_of_lt (Nat.lt_of_lt_of_le A24.lt b_b)
      have KK2 : Keep h0 h26 ([] : List Addr) := KK1.trans K26 all0
      have Zs2 : n0 ≤ h26.size := Nat.le_trans Zs1 K26.1
      have V_b : Arv Z h26 b k26 .char (3 : Int32) [(.int (0 : Int32)), (.int (0 : Int32)), (.int (0 : Int32))] (.int (0 : Int32)) := (Arv.new A26 (by decide)).pad (pad_rep [] (.int (0 : Int32)) 3)
      have cc27 : Steps p.tables e below S0' (T26.setTop (mkF m 127 #[.val (.int w), .val (.int t), .val (.int ca), .val (.int cb)] [(.int 34), (.int 0), (.ref b), (.ref b), (.ref x), (.ref x)])) := Steps.trans (cc25.trans (st26 _ (Steps.refl _))) (by
        refine XS.dup X26.here hx rfl (own_d hby d19_123) rfl rfl ?_
        refine iconstV X26.here hx rfl 0 (own_d hby d19_124) (by decide) ?_
        refine bipushV X26.here hx rfl 34 (own_d hby d19_125) (by decide) ?_
        exact Steps.refl _)
      obtain ⟨clu28, Aru28, qu28, Su28, Ngu28, Hsu28, Gsu28⟩ := id V_b
      have inu28 : ¬ ((0 : Int32) < 0 ∨ clu28.slots.size ≤ (0 : Int32).toNatClampNeg) := inb_of Su28 ⟨by decide, by decide⟩
      obtain ⟨T29, h29, X29, e29, W29, st29⟩ := stC X26 hx hZ e26 Aru28 (j := (0 : Int32)) inu28 (g := (mkF m 127 #[.val (.int w), .val (.int t), .val (.int ca), .val (.int cb)] [(.int 34), (.int 0), (.ref b), (.ref b), (.ref x), (.ref x)])) rfl rfl (own_d hby d19_127)
      have K29 := Keep.of_wr W29
      have N29 := Fr.snoc X29 N0 gn_b
      have KK3 : Keep h0 h29 ([] : List Addr) := KK2.trans K29 (allS (Or.inr s0_b) all0)
      have Zs3 : n0 ≤ h29.size := Nat.le_trans Zs2 K29.1
      have V29 : Arv Z h29 b k26 .char (3 : Int32) ([(.int (nar .char 34)), (.int (0 : Int32)), (.int (0 : Int32))]) (.int (0 : Int32)) := Arv.set Aru28 qu28 Su28 Ngu28 Hsu28 Gsu28 (fits_nar_char _) W29 0 rfl (Nat.le_of_ble_eq_true rfl)
      have cc30 : Steps p.tables e below S0' (T29.setTop (mkF m 131 #[.val (.int w), .val (.int t), .val (.int ca), .val (.int cb)] [(.int ca), (.int 1), (.ref b), (.ref b), (.ref x), (.ref x)])) := Steps.trans (cc27.trans (st29 _ (Steps.refl _))) (by
        refine XS.dup X29.here hx rfl (own_d hby d19_128) rfl rfl ?_
        refine iconstV X29.here hx rfl 1 (own_d hby d19_129) (by decide) ?_
        refine XS.iloadN X29.here hx rfl (own_d hby d19_130) rfl ?_
        exact Steps.refl _)
      obtain ⟨clu31, Aru31, qu31, Su31, Ngu31, Hsu31, Gsu31⟩ := id V29
      have inu31 : ¬ ((1 : Int32) < 0 ∨ clu31.slots.size ≤ (1 : Int32).toNatClampNeg) := inb_of Su31 ⟨by decide, by decide⟩
      obtain ⟨T32, h32, X32, e32, W32, st32⟩ := stC X29 hx hZ e29 Aru31 (j := (1 : Int32)) inu31 (g := (mkF m 131 #[.val (.int w), .val (.int t), .val (.int ca), .val (.int cb)] [(.int ca), (.int 1), (.ref b), (.ref b), (.ref x), (.ref x)])) rfl rfl (own_d hby d19_131)
      have K32 := Keep.of_wr W32
      have N32 := Fr.snoc X32 N29 gn_b
      have KK4 : Keep h0 h32 ([] : List Addr) := KK3.trans K32 (allS (Or.inr s0_b) all0)
      have Zs4 : n0 ≤ h32.size := Nat.le_trans Zs3 K32.1
      have V32 : Arv Z h32 b k26 .char (3 : Int32) ([(.int (nar .char 34)), (.int (nar .char ca)), (.int (0 : Int32))]) (.int (0 : Int32)) := Arv.set Aru31 qu31 Su31 Ngu31 Hsu31 Gsu31 (fits_nar_char _) W32 1 rfl (Nat.le_of_ble_eq_true rfl)
      have cc33 : Steps p.tables e below S0' (T32.setTop (mkF m 136 #[.val (.int w), .val (.int t), .val (.int ca), .val (.int cb)] [(.int 34), (.int 2), (.ref b), (.ref b), (.ref x), (.ref x)])) := Steps.trans (cc30.trans (st32 _ (Steps.refl _))) (by
        refine XS.dup X32.here hx rfl (own_d hby d19_132) rfl rfl ?_
        refine iconstV X32.here hx rfl 2 (own_d hby d19_133) (by decide) ?_
        refine bipushV X32.here hx rfl 34 (own_d hby d19_134) (by decide) ?_
        exact Steps.refl _)
      obtain ⟨clu34, Aru34, qu34, Su34, Ngu34, Hsu34, Gsu34⟩ := id V32
      have inu34 : ¬ ((2 : Int32) < 0 ∨ clu34.slots.size ≤ (2 : Int32).toNatClampNeg) := inb_of Su34 ⟨by decide, by decide⟩
      obtain ⟨T35, h35, X35, e35, W35, st35⟩ := stC X32 hx hZ e32 Aru34 (j := (2 : Int32)) inu34 (g := (mkF m 136 #[.val (.int w), .val (.int t), .val (.int ca), .val (.int cb)] [(.int 34), (.int 2), (.ref b), (.ref b), (.ref x), (.ref x)])) rfl rfl (own_d hby d19_136)
      have K35 := Keep.of_wr W35
      have N35 := Fr.snoc X35 N32 gn_b
      have KK5 : Keep h0 h35 ([] : List Addr) := KK4.trans K35 (allS (Or.inr s0_b) all0)
      have Zs5 : n0 ≤ h35.size := Nat.le_trans Zs4 K35.1
      have V35 : Arv Z h35 b k26 .char (3 : Int32) ([(.int (nar .char 34)), (.int (nar .char ca)), (.int (nar .char 34))]) (.int (0 : Int32)) := Arv.set Aru34 qu34 Su34 Ngu34 Hsu34 Gsu34 (fits_nar_char _) W35 2 rfl (Nat.le_of_ble_eq_true rfl)
      have hp : ∀ c' ∈ ([34, ca, 34] : List Int32), ¬ c' < 0 ∧ ¬ (255 : Int32) < c' := by
        intro c' hc'
        simp only [List.mem_cons, List.not_mem_nil, or_false] at hc'
        rcases hc' with rfl | rfl | rfl <;> first | exact hca | exact hcb | decide
      have cc37 : Steps p.tables e below S0' (T35.setTop (mkF m 137 #[.val (.int w), .val (.int t), .val (.int ca), .val (.int cb)] [(.ref b), (.ref x), (.ref x)])) := (cc33.trans (st35 _ (Steps.refl _)))
      have fa36 : Exa Z h35 x "java/lang/String" := ((((A24.keep K26).keep K29).keep K32).keep K35)
      have fa38 : Fld Z h35 x "java/lang/String" "value" "[B" .null := ((((F_value_x.keep K26 nin0).keep K29 (ninS ne_x_b nin0)).keep K32 (ninS ne_x_b nin0)).keep K35 (ninS ne_x_b nin0))
      have fa39 : Fld Z h35 x "java/lang/String" "coder" "B" (.int (0 : Int32)) := ((((F_coder_x.keep K26 nin0).keep K29 (ninS ne_x_b nin0)).keep K32 (ninS ne_x_b nin0)).keep K35 (ninS ne_x_b nin0))
      have fa40 : Old Z n0 h35 := (((((X00.keep K24 all0).keep K26 all0).keep K29 (allS gn_b all0)).keep K32 (allS gn_b all0)).keep K35 (allS gn_b all0))
      obtain ⟨_, _, ⟨T41, L41, k41, n41⟩, -, X41, ⟨Lc41, hQ41, l41, y41, z41⟩, st41⟩ := X35.specialBack hx (y := (⟨"java/lang/String", "<init>", "([C)V"⟩ : MethodName)) rfl hown (mvT hZ w_11) (mvT hZ w_12) (mvT hZ w_13) (by decide) (StrChars.Road.backV (W := 1) hZ hw_words (kI := 4) w_8 (cs := ([34, ca, 34] : List Int32)) (bs := (([34, ca, 34] : List Int32)).map (fun c => c.toInt8.toInt32)) (n := 3) gn_x Zs5 fa36 fa38 fa39 (own_arv_eq V35 (by simp only [own_nar hca, own_nar hcb]; rfl) : Arv Z h35 b _ .char (3 : Int32) ((([34, ca, 34] : List Int32)).map Value.int) (.int (0 : Int32))) (O2.ext fa40.2) P5 rfl rfl (by decide) (by decide) hp rfl (by decide) (by decide)) (g := (mkF m 137 #[.val (.int w), .val (.int t), .val (.int ca), .val (.int cb)] [(.ref b), (.ref x), (.ref x)])) rfl (by rw [hml]; rfl) (Steps.refl _) (a := x) (argsL := [(.ref b)]) (rest := [(.ref x)]) (lenOf own_pd17 rfl) rfl (by show 2 * 0 + _ ≤ _; exact Nat.le_of_eq rfl) (own_d hby d19_137) (fun _ _ => ⟨rfl, e35, Nat.le_of_ble_eq_true rfl, Nat.le_of_ble_eq_true rfl⟩)
      dsimp only [Pt.U, Pt.locs, Pt.cells, Pt.slots] at X41 l41 y41 z41 st41 hQ41
      subst l41 y41 z41
      obtain ⟨rfl, Nq41, Kq41, Eq41, Cq41, tt, kb, q141, q241, q341, Vq41, Aq41⟩ := hQ41
      have N41 := Fr.app N35 Nq41
      have KK6 : Keep h0 T41.heap ([] : List Addr) := KK5.trans Kq41 (allS (Or.inr s0_x) all0)
      have Zs6 : n0 ≤ T41.heap.size := Nat.le_trans Zs5 Kq41.1
      have e41 : T41.heap = T41.heap := rfl
      have cc42 : Steps p.tables e below S0' (T41.setTop (mkF m 140 #[.val (.int w), .val (.int t), .val (.int ca), .val (.int cb)] [(.ref x)])) := (Steps.trans cc37 st41)
      have cE := cc42
      rw [hS0'] at cE
      obtain ⟨fs, hr_, hrun, hended, hW, hsame⟩ := X41.leave (v := some (.ref x)) (fun h => by rw [Bd.returns] at h; cases h)
      refine ⟨_, _, cE.trans (X41.areturnOut hx (rfl) Bd.returns rfl (own_d hby d19_140) hr_), hrun, hended, _, _, rfl, ?_, ⟨_, rfl⟩, hW, hsame.mono (by first | decide | omega) (by first | decide | omega)⟩
      show Q_own_tag Z w t ca cb z h0 n0 _ T41.heap _
      rw [e41]
      exact ⟨x, ([34, ca, 34] : List Int32), rfl, N41, KK6, ⟨Eq41, Cq41, hp, by simp, tt, kb, Vq41, Aq41⟩, Or.inr (by rw [if_pos qt])⟩
    · skip
      have cc23 : Steps p.tables e below S0' (s₁.setTop (mkF m 87 #[.val (.int w), .val (.int t), .val (.int ca), .val (.int cb)] [])) := Steps.trans cc22 (by
        refine XS.ifNo X0.here hx rfl (own_d hby d19_84) rfl (i0_eq_f qt) ?_
        exact Steps.refl _)
      obtain ⟨T24, h24, X24, e24, E24, A24, D24, -, st24⟩ := newO X0 hx hZ hown w_7 w_8 w_9 e0 (g := (mkF m 87 #[.val (.int w), .val (.int t), .val (.int ca), .val (.int cb)] [])) rfl (own_d hby d19_87) (by decide) (by decide)
      obtain ⟨x, g_x⟩ : ∃ z, z = h0.size := ⟨_, rfl⟩
      rw [← g_x] at A24 D24 st24
      have K24 := (Keep.refl h0 ([] : List Addr)).ext E24
      have b_x : h0.size ≤ x := (Nat.le_of_eq g_x.symm)
      have gn_x : n0 ≤ x := Nat.le_trans Z0 b_x
      have s0_x : h0.size ≤ x := Nat.le_trans KK0.1 b_x
      have KK1 : Keep h0 h24 ([] : List Addr) := KK0.trans K24 all0
      have Zs1 : n0 ≤ h24.size := Nat.le_trans Z0 K24.1
      have F_value_x : Fld Z h24 x "java/lang/String" "value" "[B" .null := D24 (Or.inr w_36) (ty := (.array .byte)) (by decide)
      have F_coder_x : Fld Z h24 x "java/lang/String" "coder" "B" (.int (0 : Int32)) := D24 (Or.inr w_34) (ty := .byte) (by decide)
      have cc25 : Steps p.tables e below S0' (T24.setTop (mkF m 92 #[.val (.int w), .val (.int t), .val (.int ca), .val (.int cb)] [(.int 4), (.ref x), (.ref x)])) := Steps.trans (cc23.trans (st24 _ (Steps.refl _))) (by
        refine XS.dup X24.here hx rfl (own_d hby d19_90) rfl rfl ?_
        refine iconstV X24.here hx rfl 4 (own_d hby d19_91) (by decide) ?_
        exact Steps.refl _)
      obtain ⟨T26, h26, k26, X26, e26, E26, A26, st26⟩ := newP X24 hx hZ (aty := .char) w_10 e24 (g := (mkF m 92 #[.val (.int w), .val (.int t), .val (.int ca), .val (.int cb)] [(.int 4), (.ref x), (.ref x)])) rfl (own_d hby d19_92) rfl (by decide) (cap := 4) (by decide) (by decide) (by decide) (by decide)
      obtain ⟨b, g_b⟩ : ∃ z, z = h24.size := ⟨_, rfl⟩
      rw [← g_b] at A26 st26
      have K26 := (Keep.refl h24 ([] : List Addr)).ext E26
      have b_b : h24.size ≤ b := (Nat.le_of_eq g_b.symm)
      have gn_b : n0 ≤ b := Nat.le_trans Zs1 b_b
      have s0_b : h0.size ≤ b := Nat.le_trans KK1.1 b_b
      have ne_x_b : x ≠ b := Nat.ne_of_lt (Nat.lt_of_lt_of_le A24.lt b_b)
      have KK2 : Keep h0 h26 ([] : List Addr) := KK1.trans K26 all0
      have Zs2 : n0 ≤ h26.size := Nat.le_trans Zs1 K26.1
      have V_b : Arv Z h26 b k26 .char (4 : Int32) [(.int (0 : Int32)), (.int (0 : Int32)), (.int (0 : Int32)), (.int (0 : Int32))] (.int (0 : Int32)) := (Arv.new A26 (by decide)).pad (pad_rep [] (.int (0 : Int32)) 4)
      have cc27 : Steps p.tables e below S0' (T26.setTop (mkF m 98 #[.val (.int w), .val (.int t), .val (.int ca), .val (.int cb)] [(.int 34), (.int 0), (.ref b), (.ref b), (.ref x), (.ref x)])) := Steps.trans (cc25.trans (st26 _ (Steps.refl _))) (by
        refine XS.dup X26.here hx rfl (own_d hby d19_94) rfl rfl ?_
        refine iconstV X26.here hx rfl 0 (own_d hby d19_95) (by decide) ?_
        refine bipushV X26.here hx rfl 34 (own_d hby d19_96) (by decide) ?_
        exact Steps.refl _)
      obtain ⟨clu28, Aru28, qu28, Su28, Ngu28, Hsu28, Gsu28⟩ := id V_b
      have inu28 : ¬ ((0 : Int32) < 0 ∨ clu28.slots.size ≤ (0 : Int32).toNatClampNeg) := inb_of Su28 ⟨by decide, by decide⟩
      obtain ⟨T29, h29, X29, e29, W29, st29⟩ := stC X26 hx hZ e26 Aru28 (j := (0 : Int32)) inu28 (g := (mkF m 98 #[.val (.int w), .val (.int t), .val (.int ca), .val (.int cb)] [(.int 34), (.int 0), (.ref b), (.ref b), (.ref x), (.ref x)])) rfl rfl (own_d hby d19_98)
      have K29 := Keep.of_wr W29
      have N29 := Fr.snoc X29 N0 gn_b
      have KK3 : Keep h0 h29 ([] : List Addr) := KK2.trans K29 (allS (Or.inr s0_b) all0)
      have Zs3 : n0 ≤ h29.size := Nat.le_trans Zs2 K29.1
      have V29 : Arv Z h29 b k26 .char (4 : Int32) ([(.int (nar .char 34)), (.int (0 : Int32)), (.int (0 : Int32)), (.int (0 : Int32))]) (.int (0 : Int32)) := Arv.set Aru28 qu28 Su28 Ngu28 Hsu28 Gsu28 (fits_nar_char _) W29 0 rfl (Nat.le_of_ble_eq_true rfl)
      have cc30 : Steps p.tables e below S0' (T29.setTop (mkF m 102 #[.val (.int w), .val (.int t), .val (.int ca), .val (.int cb)] [(.int ca), (.int 1), (.ref b), (.ref b), (.ref x), (.ref x)])) := Steps.trans (cc27.trans (st29 _ (Steps.refl _))) (by
        refine XS.dup X29.here hx rfl (own_d hby d19_99) rfl rfl ?_
        refine iconstV X29.here hx rfl 1 (own_d hby d19_100) (by decide) ?_
        refine XS.iloadN X29.here hx rfl (own_d hby d19_101) rfl ?_
        exact Steps.refl _)
      obtain ⟨clu31, Aru31, qu31, Su31, Ngu31, Hsu31, Gsu31⟩ := id V29
      have inu31 : ¬ ((1 : Int32) < 0 ∨ clu31.slots.size ≤ (1 : Int32).toNatClampNeg) := inb_of Su31 ⟨by decide, by decide⟩
      obtain ⟨T32, h32, X32, e32, W32, st32⟩ := stC X29 hx hZ e29 Aru31 (j := (1 : Int32)) inu31 (g := (mkF m 102 #[.val (.int w), .val (.int t), .val (.int ca), .val (.int cb)] [(.int ca), (.int 1), (.ref b), (.ref b), (.ref x), (.ref x)])) rfl rfl (own_d hby d19_102)
      have K32 := Keep.of_wr W32
      have N32 := Fr.snoc X32 N29 gn_b
      have KK4 : Keep h0 h32 ([] : List Addr) := KK3.trans K32 (allS (Or.inr s0_b) all0)
      have Zs4 : n0 ≤ h32.size := Nat.le_trans Zs3 K32.1
      have V32 : Arv Z h32 b k26 .char (4 : Int32) ([(.int (nar .char 34)), (.int (nar .char ca)), (.int (0 : Int32)), (.int (0 : Int32))]) (.int (0 : Int32)) := Arv.set Aru31 qu31 Su31 Ngu31 Hsu31 Gsu31 (fits_nar_char _) W32 1 rfl (Nat.le_of_ble_eq_true rfl)
      have cc33 : Steps p.tables e below S0' (T32.setTop (mkF m 106 #[.val (.int w), .val (.int t), .val (.int ca), .val (.int cb)] [(.int cb), (.int 2), (.ref b), (.ref b), (.ref x), (.ref x)])) := Steps.trans (cc30.trans (st32 _ (Steps.refl _))) (by
        refine XS.dup X32.here hx rfl (own_d hby d19_103) rfl rfl ?_
        refine iconstV X32.here hx rfl 2 (own_d hby d19_104) (by decide) ?_
        refine XS.iloadN X32.here hx rfl (own_d hby d19_105) rfl ?_
        exact Steps.refl _)
      obtain ⟨clu34, Aru34, qu34, Su34, Ngu34, Hsu34, Gsu34⟩ := id V32
      have inu34 : ¬ ((2 : Int32) < 0 ∨ clu34.slots.size ≤ (2 : Int32).toNatClampNeg) := inb_of Su34 ⟨by decide, by decide⟩
      obtain ⟨T35, h35, X35, e35, W35, st35⟩ := stC X32 hx hZ e32 Aru34 (j := (2 : Int32)) inu34 (g := (mkF m 106 #[.val (.int w), .val (.int t), .val (.int ca), .val (.int cb)] [(.int cb), (.int 2), (.ref b), (.ref b), (.ref x), (.ref x)])) rfl rfl (own_d hby d19_106)
      have K35 := Keep.of_wr W35
      have N35 := Fr.snoc X35 N32 gn_b
      have KK5 : Keep h0 h35 ([] : List Addr) := KK4.trans K35 (allS (Or.inr s0_b) all0)
      have Zs5 : n0 ≤ h35.size := Nat.le_trans Zs4 K35.1
      have V35 : Arv Z h35 b k26 .char (4 : Int32) ([(.int (nar .char 34)), (.int (nar .char ca)), (.int (nar .char cb)), (.int (0 : Int32))]) (.int (0 : Int32)) := Arv.set Aru34 qu34 Su34 Ngu34 Hsu34 Gsu34 (fits_nar_char _) W35 2 rfl (Nat.le_of_ble_eq_true rfl)
      have cc36 : Steps p.tables e below S0' (T35.setTop (mkF m 111 #[.val (.int w), .val (.int t), .val (.int ca), .val (.int cb)] [(.int 34), (.int 3), (.ref b), (.ref b), (.ref x), (.ref x)])) := Steps.trans (cc33.trans (st35 _ (Steps.refl _))) (by
        refine XS.dup X35.here hx rfl (own_d hby d19_107) rfl rfl ?_
        refine iconstV X35.here hx rfl 3 (own_d hby d19_108) (by decide) ?_
        refine bipushV X35.here hx rfl 34 (own_d hby d19_109) (by decide) ?_
        exact Steps.refl _)
      obtain ⟨clu37, Aru37, qu37, Su37, Ngu37, Hsu37, Gsu37⟩ := id V35
      have inu37 : ¬ ((3 : Int32) < 0 ∨ clu37.slots.size ≤ (3 : Int32).toNatClampNeg) := inb_of Su37 ⟨by decide, by decide⟩
      obtain ⟨T38, h38, X38, e38, W38, st38⟩ := stC X35 hx hZ e35 Aru37 (j := (3 : Int32)) inu37 (g := (mkF m 111 #[.val (.int w), .val (.int t), .val (.int ca), .val (.int cb)] [(.int 34), (.int 3), (.ref b), (.ref b), (.ref x), (.ref x)])) rfl rfl (own_d hby d19_111)
      have K38 := Keep.of_wr W38
      have N38 := Fr.snoc X38 N35 gn_b
      have KK6 : Keep h0 h38 ([] : List Addr) := KK5.trans K38 (allS (Or.inr s0_b) all0)
      have Zs6 : n0 ≤ h38.size := Nat.le_trans Zs5 K38.1
      have V38 : Arv Z h38 b k26 .char (4 : Int32) ([(.int (nar .char 34)), (.int (nar .char ca)), (.int (nar .char cb)), (.int (nar .char 34))]) (.int (0 : Int32)) := Arv.set Aru37 qu37 Su37 Ngu37 Hsu37 Gsu37 (fits_nar_char _) W38 3 rfl (Nat.le_of_ble_eq_true rfl)
      have hp : ∀ c' ∈ ([34, ca, cb, 34] : List Int32), ¬ c' < 0 ∧ ¬ (255 : Int32) < c' := by
        intro c' hc'
        simp only [List.mem_cons, List.not_mem_nil, or_false] at hc'
        rcases hc' with rfl | rfl | rfl | rfl <;> first | exact hca | exact hcb | decide
      have cc40 : Steps p.tables e below S0' (T38.setTop (mkF m 112 #[.val (.int w), .val (.int t), .val (.int ca), .val (.int cb)] [(.ref b), (.ref x), (.ref x)])) := (cc36.trans (st38 _ (Steps.refl _)))
      have fa39 : Exa Z h38 x "java/lang/String" := (((((A24.keep K26).keep K29).keep K32).keep K35).keep K38)
      have fa41 : Fld Z h38 x "java/lang/String" "value" "[B" .null := (((((F_value_x.keep K26 nin0).keep K29 (ninS ne_x_b nin0)).keep K32 (ninS ne_x_b nin0)).keep K35 (ninS ne_x_b nin0)).keep K38 (ninS ne_x_b nin0))
      have fa42 : Fld Z h38 x "java/lang/String" "coder" "B" (.int (0 : Int32)) := (((((F_coder_x.keep K26 nin0).keep K29 (ninS ne_x_b nin0)).keep K32 (ninS ne_x_b nin0)).keep K35 (ninS ne_x_b nin0)).keep K38 (ninS ne_x_b nin0))
      have fa43 : Old Z n0 h38 := ((((((X00.keep K24 all0).keep K26 all0).keep K29 (allS gn_b all0)).keep K32 (allS gn_b all0)).keep K35 (allS gn_b all0)).keep K38 (allS gn_b all0))
      obtain ⟨_, _, ⟨T44, L44, k44, n44⟩, -, X44, ⟨Lc44, hQ44, l44, y44, z44⟩, st44⟩ := X38.specialBack hx (y := (⟨"java/lang/String", "<init>", "([C)V"⟩ : MethodName)) rfl hown (mvT hZ w_11) (mvT hZ w_12) (mvT hZ w_13) (by decide) (StrChars.Road.backV (W := 1) hZ hw_words (kI := 4) w_8 (cs := ([34, ca, cb, 34] : List Int32)) (bs := (([34, ca, cb, 34] : List Int32)).map (fun c => c.toInt8.toInt32)) (n := 4) gn_x Zs6 fa39 fa41 fa42 (own_arv_eq V38 (by simp only [own_nar hca, own_nar hcb]; rfl) : Arv Z h38 b _ .char (4 : Int32) ((([34, ca, cb, 34] : List Int32)).map Value.int) (.int (0 : Int32))) (O2.ext fa43.2) P5 rfl rfl (by decide) (by decide) hp rfl (by decide) (by decide)) (g := (mkF m 112 #[.val (.int w), .val (.int t), .val (.int ca), .val (.int cb)] [(.ref b), (.ref x), (.ref x)])) rfl (by rw [hml]; rfl) (Steps.refl _) (a := x) (argsL := [(.ref b)]) (rest := [(.ref x)]) (lenOf own_pd17 rfl) rfl (by show 2 * 0 + _ ≤ _; exact Nat.le_of_eq rfl) (own_d hby d19_112) (fun _ _ => ⟨rfl, e38, Nat.le_of_ble_eq_true rfl, Nat.le_of_ble_eq_true rfl⟩)
      dsimp only [Pt.U, Pt.locs, Pt.cells, Pt.slots] at X44 l44 y44 z44 st44 hQ44
      subst l44 y44 z44
      obtain ⟨rfl, Nq44, Kq44, Eq44, Cq44, tt, kb, q144, q244, q344, Vq44, Aq44⟩ := hQ44
      have N44 := Fr.app N38 Nq44
      have KK7 : Keep h0 T44.heap ([] : List Addr) := KK6.trans Kq44 (allS (Or.inr s0_x) all0)
      have Zs7 : n0 ≤ T44.heap.size := Nat.le_trans Zs6 Kq44.1
      have e44 : T44.heap = T44.heap := rfl
      have cc45 : Steps p.tables e below S0' (T44.setTop (mkF m 115 #[.val (.int w), .val (.int t), .val (.int ca), .val (.int cb)] [(.ref x)])) := (Steps.trans cc40 st44)
      have cE := cc45
      rw [hS0'] at cE
      obtain ⟨fs, hr_, hrun, hended, hW, hsame⟩ := X44.leave (v := some (.ref x)) (fun h => by rw [Bd.returns] at h; cases h)
      refine ⟨_, _, cE.trans (X44.areturnOut hx (rfl) Bd.returns rfl (own_d hby d19_115) hr_), hrun, hended, _, _, rfl, ?_, ⟨_, rfl⟩, hW, hsame.mono (by first | decide | omega) (by first | decide | omega)⟩
      show Q_own_tag Z w t ca cb z h0 n0 _ T44.heap _
      rw [e44]
      exact ⟨x, ([34, ca, cb, 34] : List Int32), rfl, N44, KK7, ⟨Eq44, Cq44, hp, by simp, tt, kb, Vq44, Aq44⟩, Or.inr (by rw [if_neg qt])⟩
  · skip
    have cc22 : Steps p.tables e below S0' (s₁.setTop (mkF m 5 #[.val (.int w), .val (.int t), .val (.int ca), .val (.int cb)] [(.int t)])) := Steps.trans cc21 (by
      refine XS.ifNo X0.here hx rfl (own_d hby d19_1) rfl (i0_eq_f qw) ?_
      refine XS.iloadN X0.here hx rfl (own_d hby d19_4) rfl ?_
      exact Steps.refl _)
    by_cases qt : t = 0
    · skip
      have cc23 : Steps p.tables e below S0' (s₁.setTop (mkF m 48 #[.val (.int w), .val (.int t), .val (.int ca), .val (.int cb)] [])) := Steps.trans cc22 (by
        refine XS.ifYes X0.here hx rfl (pc0 := 5) rfl (own_d hby d19_5) rfl (i0_eq_t qt) (by decide) rfl ?_
        exact Steps.refl _)
      obtain ⟨T24, h24, X24, e24, E24, A24, D24, -, st24⟩ := newO X0 hx hZ hown w_7 w_8 w_9 e0 (g := (mkF m 48 #[.val (.int w), .val (.int t), .val (.int ca), .val (.int cb)] [])) rfl (own_d hby d19_48) (by decide) (by decide)
      obtain ⟨x, g_x⟩ : ∃ z, z = h0.size := ⟨_, rfl⟩
      rw [← g_x] at A24 D24 st24
      have K24 := (Keep.refl h0 ([] : List Addr)).ext E24
      have b_x : h0.size ≤ x := (Nat.le_of_eq g_x.symm)
      have gn_x : n0 ≤ x := Nat.le_trans Z0 b_x
      have s0_x : h0.size ≤ x := Nat.le_trans KK0.1 b_x
      have KK1 : Keep h0 h24 ([] : List Addr) := KK0.trans K24 all0
      have Zs1 : n0 ≤ h24.size := Nat.le_trans Z0 K24.1
      have F_value_x : Fld Z h24 x "java/lang/String" "value" "[B" .null := D24 (Or.inr w_36) (ty := (.array .byte)) (by decide)
      have F_coder_x : Fld Z h24 x "java/lang/String" "coder" "B" (.int (0 : Int32)) := D24 (Or.inr w_34) (ty := .byte) (by decide)
      have cc25 : Steps p.tables e below S0' (T24.setTop (mkF m 53 #[.val (.int w), .val (.int t), .val (.int ca), .val (.int cb)] [(.int 5), (.ref x), (.ref x)])) := Steps.trans (cc23.trans (st24 _ (Steps.refl _))) (by
        refine XS.dup X24.here hx rfl (own_d hby d19_51) rfl rfl ?_
        refine iconstV X24.here hx rfl 5 (own_d hby d19_52) (by decide) ?_
        exact Steps.refl _)
      obtain ⟨T26, h26, k26, X26, e26, E26, A26, st26⟩ := newP X24 hx hZ (aty := .char) w_10 e24 (g := (mkF m 53 #[.val (.int w), .val (.int t), .val (.int ca), .val (.int cb)] [(.int 5), (.ref x), (.ref x)])) rfl (own_d hby d19_53) rfl (by decide) (cap := 5) (by decide) (by decide) (by decide) (by decide)
      obtain ⟨b, g_b⟩ : ∃ z, z = h24.size := ⟨_, rfl⟩
      rw [← g_b] at A26 st26
      have K26 := (Keep.refl h24 ([] : List Addr)).ext E26
      have b_b : h24.size ≤ b := (Nat.le_of_eq g_b.symm)
      have gn_b : n0 ≤ b := Nat.le_trans Zs1 b_b
      have s0_b : h0.size ≤ b := Nat.le_trans KK1.1 b_b
      have ne_x_b : x ≠ b := Nat.ne_of_lt (Nat.lt_of_lt_of_le A24.lt b_b)
      have KK2 : Keep h0 h26 ([] : List Addr) := KK1.trans K26 all0
      have Zs2 : n0 ≤ h26.size := Nat.le_trans Zs1 K26.1
      have V_b : Arv Z h26 b k26 .char (5 : Int32) [(.int (0 : Int32)), (.int (0 : Int32)), (.int (0 : Int32)), (.int (0 : Int32)), (.int (0 : Int32))] (.int (0 : Int32)) := (Arv.new A26 (by decide)).pad (pad_rep [] (.int (0 : Int32)) 5)
      have cc27 : Steps p.tables e below S0' (T26.setTop (mkF m 59 #[.val (.int w), .val (.int t), .val (.int ca), .val (.int cb)] [(.int 87), (.int 0), (.ref b), (.ref b), (.ref x), (.ref x)])) := Steps.trans (cc25.trans (st26 _ (Steps.refl _))) (by
        refine XS.dup X26.here hx rfl (own_d hby d19_55) rfl rfl ?_
        refine iconstV X26.here hx rfl 0 (own_d hby d19_56) (by decide) ?_
        refine bipushV X26.here hx rfl 87 (own_d hby d19_57) (by decide) ?_
        exact Steps.refl _)
      obtain ⟨clu28, Aru28, qu28, Su28, Ngu28, Hsu28, Gsu28⟩ := id V_b
      have inu28 : ¬ ((0 : Int32) < 0 ∨ clu28.slots.size ≤ (0 : Int32).toNatClampNeg) := inb_of Su28 ⟨by decide, by decide⟩
      obtain ⟨T29, h29, X29, e29, W29, st29⟩ := stC X26 hx hZ e26 Aru28 (j := (0 : Int32)) inu28 (g := (mkF m 59 #[.val (.int w), .val (.int t), .val (.int ca), .val (.int cb)] [(.int 87), (.int 0), (.ref b), (.ref b), (.ref x), (.ref x)])) rfl rfl (own_d hby d19_59)
      have K29 := Keep.of_wr W29
      have N29 := Fr.snoc X29 N0 gn_b
      have KK3 : Keep h0 h29 ([] : List Addr) := KK2.trans K29 (allS (Or.inr s0_b) all0)
      have Zs3 : n0 ≤ h29.size := Nat.le_trans Zs2 K29.1
      have V29 : Arv Z h29 b k26 .char (5 : Int32) ([(.int (nar .char 87)), (.int (0 : Int32)), (.int (0 : Int32)), (.int (0 : Int32)), (.int (0 : Int32))]) (.int (0 : Int32)) := Arv.set Aru28 qu28 Su28 Ngu28 Hsu28 Gsu28 (fits_nar_char _) W29 0 rfl (Nat.le_of_ble_eq_true rfl)
      have cc30 : Steps p.tables e below S0' (T29.setTop (mkF m 64 #[.val (.int w), .val (.int t), .val (.int ca), .val (.int cb)] [(.int 47), (.int 1), (.ref b), (.ref b), (.ref x), (.ref x)])) := Steps.trans (cc27.trans (st29 _ (Steps.refl _))) (by
        refine XS.dup X29.here hx rfl (own_d hby d19_60) rfl rfl ?_
        refine iconstV X29.here hx rfl 1 (own_d hby d19_61) (by decide) ?_
        refine bipushV X29.here hx rfl 47 (own_d hby d19_62) (by decide) ?_
        exact Steps.refl _)
      obtain ⟨clu31, Aru31, qu31, Su31, Ngu31, Hsu31, Gsu31⟩ := id V29
      have inu31 : ¬ ((1 : Int32) < 0 ∨ clu31.slots.size ≤ (1 : Int32).toNatClampNeg) := inb_of Su31 ⟨by decide, by decide⟩
      obtain ⟨T32, h32, X32, e32, W32, st32⟩ := stC X29 hx hZ e29 Aru31 (j := (1 : Int32)) inu31 (g := (mkF m 64 #[.val (.int w), .val (.int t), .val (.int ca), .val (.int cb)] [(.int 47), (.int 1), (.ref b), (.ref b), (.ref x), (.ref x)])) rfl rfl (own_d hby d19_64)
      have K32 := Keep.of_wr W32
      have N32 := Fr.snoc X32 N29 gn_b
      have KK4 : Keep h0 h32 ([] : List Addr) := KK3.trans K32 (allS (Or.inr s0_b) all0)
      have Zs4 : n0 ≤ h32.size := Nat.le_trans Zs3 K32.1
      have V32 : Arv Z h32 b k26 .char (5 : Int32) ([(.int (nar .char 87)), (.int (nar .char 47)), (.int (0 : Int32)), (.int (0 : Int32)), (.int (0 : Int32))]) (.int (0 : Int32)) := Arv.set Aru31 qu31 Su31 Ngu31 Hsu31 Gsu31 (fits_nar_char _) W32 1 rfl (Nat.le_of_ble_eq_true rfl)
      have cc33 : Steps p.tables e below S0' (T32.setTop (mkF m 69 #[.val (.int w), .val (.int t), .val (.int ca), .val (.int cb)] [(.int 34), (.int 2), (.ref b), (.ref b), (.ref x), (.ref x)])) := Steps.trans (cc30.trans (st32 _ (Steps.refl _))) (by
        refine XS.dup X32.here hx rfl (own_d hby d19_65) rfl rfl ?_
        refine iconstV X32.here hx rfl 2 (own_d hby d19_66) (by decide) ?_
        refine bipushV X32.here hx rfl 34 (own_d hby d19_67) (by decide) ?_
        exact Steps.refl _)
      obtain ⟨clu34, Aru34, qu34, Su34, Ngu34, Hsu34, Gsu34⟩ := id V32
      have inu34 : ¬ ((2 : Int32) < 0 ∨ clu34.slots.size ≤ (2 : Int32).toNatClampNeg) := inb_of Su34 ⟨by decide, by decide⟩
      obtain ⟨T35, h35, X35, e35, W35, st35⟩ := stC X32 hx hZ e32 Aru34 (j := (2 : Int32)) inu34 (g := (mkF m 69 #[.val (.int w), .val (.int t), .val (.int ca), .val (.int cb)] [(.int 34), (.int 2), (.ref b), (.ref b), (.ref x), (.ref x)])) rfl rfl (own_d hby d19_69)
      have K35 := Keep.of_wr W35
      have N35 := Fr.snoc X35 N32 gn_b
      have KK5 : Keep h0 h35 ([] : List Addr) := KK4.trans K35 (allS (Or.inr s0_b) all0)
      have Zs5 : n0 ≤ h35.size := Nat.le_trans Zs4 K35.1
      have V35 : Arv Z h35 b k26 .char (5 : Int32) ([(.int (nar .char 87)), (.int (nar .char 47)), (.int (nar .char 34)), (.int (0 : Int32)), (.int (0 : Int32))]) (.int (0 : Int32)) := Arv.set Aru34 qu34 Su34 Ngu34 Hsu34 Gsu34 (fits_nar_char _) W35 2 rfl (Nat.le_of_ble_eq_true rfl)
      have cc36 : Steps p.tables e below S0' (T35.setTop (mkF m 73 #[.val (.int w), .val (.int t), .val (.int ca), .val (.int cb)] [(.int ca), (.int 3), (.ref b), (.ref b), (.ref x), (.ref x)])) := Steps.trans (cc33.trans (st35 _ (Steps.refl _))) (by
        refine XS.dup X35.here hx rfl (own_d hby d19_70) rfl rfl ?_
        refine iconstV X35.here hx rfl 3 (own_d hby d19_71) (by decide) ?_
        refine XS.iloadN X35.here hx rfl (own_d hby d19_72) rfl ?_
        exact Steps.refl _)
      obtain ⟨clu37, Aru37, qu37, Su37, Ngu37, Hsu37, Gsu37⟩ := id V35
      have inu37 : ¬ ((3 : Int32) < 0 ∨ clu37.slots.size ≤ (3 : Int32).toNatClampNeg) := inb_of Su37 ⟨by decide, by decide⟩
      obtain ⟨T38, h38, X38, e38, W38, st38⟩ := stC X35 hx hZ e35 Aru37 (j := (3 : Int32)) inu37 (g := (mkF m 73 #[.val (.int w), .val (.int t), .val (.int ca), .val (.int cb)] [(.int ca), (.int 3), (.ref b), (.ref b), (.ref x), (.ref x)])) rfl rfl (own_d hby d19_73)
      have K38 := Keep.of_wr W38
      have N38 := Fr.snoc X38 N35 gn_b
      have KK6 : Keep h0 h38 ([] : List Addr) := KK5.trans K38 (allS (Or.inr s0_b) all0)
      have Zs6 : n0 ≤ h38.size := Nat.le_trans Zs5 K38.1
      have V38 : Arv Z h38 b k26 .char (5 : Int32) ([(.int (nar .char 87)), (.int (nar .char 47)), (.int (nar .char 34)), (.int (nar .char ca)), (.int (0 : Int32))]) (.int (0 : Int32)) := Arv.set Aru37 qu37 Su37 Ngu37 Hsu37 Gsu37 (fits_nar_char _) W38 3 rfl (Nat.le_of_ble_eq_true rfl)
      have cc39 : Steps p.tables e below S0' (T38.setTop (mkF m 78 #[.val (.int w), .val (.int t), .val (.int ca), .val (.int cb)] [(.int 34), (.int 4), (.ref b), (.ref b), (.ref x), (.ref x)])) := Steps.trans (cc36.trans (st38 _ (Steps.refl _))) (by
        refine XS.dup X38.here hx rfl (own_d hby d19_74) rfl rfl ?_
        refine iconstV X38.here hx rfl 4 (own_d hby d19_75) (by decide) ?_
        refine bipushV X38.here hx rfl 34 (own_d hby d19_76) (by decide) ?_
        exact Steps.refl _)
      obtain ⟨clu40, Aru40, qu40, Su40, Ngu40, Hsu40, Gsu40⟩ := id V38
      have inu40 : ¬ ((4 : Int32) < 0 ∨ clu40.slots.size ≤ (4 : Int32).toNatClampNeg) := inb_of Su40 ⟨by decide, by decide⟩
      obtain ⟨T41, h41, X41, e41, W41, st41⟩ := stC X38 hx hZ e38 Aru40 (j := (4 : Int32)) inu40 (g := (mkF m 78 #[.val (.int w), .val (.int t), .val (.int ca), .val (.int cb)] [(.int 34), (.int 4), (.ref b), (.ref b), (.ref x), (.ref x)])) rfl rfl (own_d hby d19_78)
      have K41 := Keep.of_wr W41
      have N41 := Fr.snoc X41 N38 gn_b
      have KK7 : Keep h0 h41 ([] : List Addr) := KK6.trans K41 (allS (Or.inr s0_b) all0)
      have Zs7 : n0 ≤ h41.size := Nat.le_trans Zs6 K41.1
      have V41 : Arv Z h41 b k26 .char (5 : Int32) ([(.int (nar .char 87)), (.int (nar .char 47)), (.int (nar .char 34)), (.int (nar .char ca)), (.int (nar .char 34))]) (.int (0 : Int32)) := Arv.set Aru40 qu40 Su40 Ngu40 Hsu40 Gsu40 (fits_nar_char _) W41 4 rfl (Nat.le_of_ble_eq_true rfl)
      have hp : ∀ c' ∈ ([87, 47, 34, ca, 34] : List Int32), ¬ c' < 0 ∧ ¬ (255 : Int32) < c' := by
        intro c' hc'
        simp only [List.mem_cons, List.not_mem_nil, or_false] at hc'
        rcases hc' with rfl | rfl | rfl | rfl | rfl <;> first | exact hca | exact hcb | decide
      have cc43 : Steps p.tables e below S0' (T41.setTop (mkF m 79 #[.val (.int w), .val (.int t), .val (.int ca), .val (.int cb)] [(.ref b), (.ref x), (.ref x)])) := (cc39.trans (st41 _ (Steps.refl _)))
      have fa42 : Exa Z h41 x "java/lang/String" := ((((((A24.keep K26).keep K29).keep K32).keep K35).keep K38).keep K41)
      have fa44 : Fld Z h41 x "java/lang/String" "value" "[B" .null := ((((((F_value_x.keep K26 nin0).keep K29 (ninS ne_x_b nin0)).keep K32 (ninS ne_x_b nin0)).keep K35 (ninS ne_x_b nin0)).keep K38 (ninS ne_x_b nin0)).keep K41 (ninS ne_x_b nin0))
      have fa45 : Fld Z h41 x "java/lang/String" "coder" "B" (.int (0 : Int32)) := ((((((F_coder_x.keep K26 nin0).keep K29 (ninS ne_x_b nin0)).keep K32 (ninS ne_x_b nin0)).keep K35 (ninS ne_x_b nin0)).keep K38 (ninS ne_x_b nin0)).keep K41 (ninS ne_x_b nin0))
      have fa46 : Old Z n0 h41 := (((((((X00.keep K24 all0).keep K26 all0).keep K29 (allS gn_b all0)).keep K32 (allS gn_b all0)).keep K35 (allS gn_b all0)).keep K38 (allS gn_b all0)).keep K41 (allS gn_b all0))
      obtain ⟨_, _, ⟨T47, L47, k47, n47⟩, -, X47, ⟨Lc47, hQ47, l47, y47, z47⟩, st47⟩ := X41.specialBack hx (y := (⟨"java/lang/String", "<init>", "([C)V"⟩ : MethodName)) rfl hown (mvT hZ w_11) (mvT hZ w_12) (mvT hZ w_13) (by decide) (StrChars.Road.backV (W := 1) hZ hw_words (kI := 4) w_8 (cs := ([87, 47, 34, ca, 34] : List Int32)) (bs := (([87, 47, 34, ca, 34] : List Int32)).map (fun c => c.toInt8.toInt32)) (n := 5) gn_x Zs7 fa42 fa44 fa45 (own_arv_eq V41 (by simp only [own_nar hca, own_nar hcb]; rfl) : Arv Z h41 b _ .char (5 : Int32) ((([87, 47, 34, ca, 34] : List Int32)).map Value.int) (.int (0 : Int32))) (O2.ext fa46.2) P5 rfl rfl (by decide) (by decide) hp rfl (by decide) (by decide)) (g := (mkF m 79 #[.val (.int w), .val (.int t), .val (.int ca), .val (.int cb)] [(.ref b), (.ref x), (.ref x)])) rfl (by rw [hml]; rfl) (Steps.refl _) (a := x) (argsL := [(.ref b)]) (rest := [(.ref x)]) (lenOf own_pd17 rfl) rfl (by show 2 * 0 + _ ≤ _; exact Nat.le_of_eq rfl) (own_d hby d19_79) (fun _ _ => ⟨rfl, e41, Nat.le_of_ble_eq_true rfl, Nat.le_of_ble_eq_true rfl⟩)
      dsimp only [Pt.U, Pt.locs, Pt.cells, Pt.slots] at X47 l47 y47 z47 st47 hQ47
      subst l47 y47 z47
      obtain ⟨rfl, Nq47, Kq47, Eq47, Cq47, tt, kb, q147, q247, q347, Vq47, Aq47⟩ := hQ47
      have N47 := Fr.app N41 Nq47
      have KK8 : Keep h0 T47.heap ([] : List Addr) := KK7.trans Kq47 (allS (Or.inr s0_x) all0)
      have Zs8 : n0 ≤ T47.heap.size := Nat.le_trans Zs7 Kq47.1
      have e47 : T47.heap = T47.heap := rfl
      have cc48 : Steps p.tables e below S0' (T47.setTop (mkF m 82 #[.val (.int w), .val (.int t), .val (.int ca), .val (.int cb)] [(.ref x)])) := (Steps.trans cc43 st47)
      have cE := cc48
      rw [hS0'] at cE
      obtain ⟨fs, hr_, hrun, hended, hW, hsame⟩ := X47.leave (v := some (.ref x)) (fun h => by rw [Bd.returns] at h; cases h)
      refine ⟨_, _, cE.trans (X47.areturnOut hx (rfl) Bd.returns rfl (own_d hby d19_82) hr_), hrun, hended, _, _, rfl, ?_, ⟨_, rfl⟩, hW, hsame.mono (by first | decide | omega) (by first | decide | omega)⟩
      show Q_own_tag Z w t ca cb z h0 n0 _ T47.heap _
      rw [e47]
      exact ⟨x, ([87, 47, 34, ca, 34] : List Int32), rfl, N47, KK8, ⟨Eq47, Cq47, hp, by simp, tt, kb, Vq47, Aq47⟩, Or.inl (by rw [if_pos qt])⟩
    · skip
      have cc23 : Steps p.tables e below S0' (s₁.setTop (mkF m 8 #[.val (.int w), .val (.int t), .val (.int ca), .val (.int cb)] [])) := Steps.trans cc22 (by
        refine XS.ifNo X0.here hx rfl (own_d hby d19_5) rfl (i0_eq_f qt) ?_
        exact Steps.refl _)
      obtain ⟨T24, h24, X24, e24, E24, A24, D24, -, st24⟩ := newO X0 hx hZ hown w_7 w_8 w_9 e0 (g := (mkF m 8 #[.val (.int w), .val (.int t), .val (.int ca), .val (.int cb)] [])) rfl (own_d hby d19_8) (by decide) (by decide)
      obtain ⟨x, g_x⟩ : ∃ z, z = h0.size := ⟨_, rfl⟩
      rw [← g_x] at A24 D24 st24
      have K24 := (Keep.refl h0 ([] : List Addr)).ext E24
      have b_x : h0.size ≤ x := (Nat.le_of_eq g_x.symm)
      have gn_x : n0 ≤ x := Nat.le_trans Z0 b_x
      have s0_x : h0.size ≤ x := Nat.le_trans KK0.1 b_x
      have KK1 : Keep h0 h24 ([] : List Addr) := KK0.trans K24 all0
      have Zs1 : n0 ≤ h24.size := Nat.le_trans Z0 K24.1
      have F_value_x : Fld Z h24 x "java/lang/String" "value" "[B" .null := D24 (Or.inr w_36) (ty := (.array .byte)) (by decide)
      have F_coder_x : Fld Z h24 x "java/lang/String" "coder" "B" (.int (0 : Int32)) := D24 (Or.inr w_34) (ty := .byte) (by decide)
      have cc25 : Steps p.tables e below S0' (T24.setTop (mkF m 14 #[.val (.int w), .val (.int t), .val (.int ca), .val (.int cb)] [(.int 6), (.ref x), (.ref x)])) := Steps.trans (cc23.trans (st24 _ (Steps.refl _))) (by
        refine XS.dup X24.here hx rfl (own_d hby d19_11) rfl rfl ?_
        refine bipushV X24.here hx rfl 6 (own_d hby d19_12) (by decide) ?_
        exact Steps.refl _)
      obtain ⟨T26, h26, k26, X26, e26, E26, A26, st26⟩ := newP X24 hx hZ (aty := .char) w_10 e24 (g := (mkF m 14 #[.val (.int w), .val (.int t), .val (.int ca), .val (.int cb)] [(.int 6), (.ref x), (.ref x)])) rfl (own_d hby d19_14) rfl (by decide) (cap := 6) (by decide) (by decide) (by decide) (by decide)
      obtain ⟨b, g_b⟩ : ∃ z, z = h24.size := ⟨_, rfl⟩
      rw [← g_b] at A26 st26
      have K26 := (Keep.refl h24 ([] : List Addr)).ext E26
      have b_b : h24.size ≤ b := (Nat.le_of_eq g_b.symm)
      have gn_b : n0 ≤ b := Nat.le_trans Zs1 b_b
      have s0_b : h0.size ≤ b := Nat.le_trans KK1.1 b_b
      have ne_x_b : x ≠ b := Nat.ne_of_lt (Nat.lt_of_lt_of_le A24.lt b_b)
      have KK2 : Keep h0 h26 ([] : List Addr) := KK1.trans K26 all0
      have Zs2 : n0 ≤ h26.size := Nat.le_trans Zs1 K26.1
      have V_b : Arv Z h26 b k26 .char (6 : Int32) [(.int (0 : Int32)), (.int (0 : Int32)), (.int (0 : Int32)), (.int (0 : Int32)), (.int (0 : Int32)), (.int (0 : Int32))] (.int (0 : Int32)) := (Arv.new A26 (by decide)).pad (pad_rep [] (.int (0 : Int32)) 6)
      have cc27 : Steps p.tables e below S0' (T26.setTop (mkF m 20 #[.val (.int w), .val (.int t), .val (.int ca), .val (.int cb)] [(.int 87), (.int 0), (.ref b), (.ref b), (.ref x), (.ref x)])) := Steps.trans (cc25.trans (st26 _ (Steps.refl _))) (by
        refine XS.dup X26.here hx rfl (own_d hby d19_16) rfl rfl ?_
        refine iconstV X26.here hx rfl 0 (own_d hby d19_17) (by decide) ?_
        refine bipushV X26.here hx rfl 87 (own_d hby d19_18) (by decide) ?_
        exact Steps.refl _)
      obtain ⟨clu28, Aru28, qu28, Su28, Ngu28, Hsu28, Gsu28⟩ := id V_b
      have inu28 : ¬ ((0 : Int32) < 0 ∨ clu28.slots.size ≤ (0 : Int32).toNatClampNeg) := inb_of Su28 ⟨by decide, by decide⟩
      obtain ⟨T29, h29, X29, e29, W29, st29⟩ := stC X26 hx hZ e26 Aru28 (j := (0 : Int32)) inu28 (g := (mkF m 20 #[.val (.int w), .val (.int t), .val (.int ca), .val (.int cb)] [(.int 87), (.int 0), (.ref b), (.ref b), (.ref x), (.ref x)])) rfl rfl (own_d hby d19_20)
      have K29 := Keep.of_wr W29
      have N29 := Fr.snoc X29 N0 gn_b
      have KK3 : Keep h0 h29 ([] : List Addr) := KK2.trans K29 (allS (Or.inr s0_b) all0)
      have Zs3 : n0 ≤ h29.size := Nat.le_trans Zs2 K29.1
      have V29 : Arv Z h29 b k26 .char (6 : Int32) ([(.int (nar .char 87)), (.int (0 : Int32)), (.int (0 : Int32)), (.int (0 : Int32)), (.int (0 : Int32)), (.int (0 : Int32))]) (.int (0 : Int32)) := Arv.set Aru28 qu28 Su28 Ngu28 Hsu28 Gsu28 (fits_nar_char _) W29 0 rfl (Nat.le_of_ble_eq_true rfl)
      have cc30 : Steps p.tables e below S0' (T29.setTop (mkF m 25 #[.val (.int w), .val (.int t), .val (.int ca), .val (.int cb)] [(.int 47), (.int 1), (.ref b), (.ref b), (.ref x), (.ref x)])) := Steps.trans (cc27.trans (st29 _ (Steps.refl _))) (by
        refine XS.dup X29.here hx rfl (own_d hby d19_21) rfl rfl ?_
        refine iconstV X29.here hx rfl 1 (own_d hby d19_22) (by decide) ?_
        refine bipushV X29.here hx rfl 47 (own_d hby d19_23) (by decide) ?_
        exact Steps.refl _)
      obtain ⟨clu31, Aru31, qu31, Su31, Ngu31, Hsu31, Gsu31⟩ := id V29
      have inu31 : ¬ ((1 : Int32) < 0 ∨ clu31.slots.size ≤ (1 : Int32).toNatClampNeg) := inb_of Su31 ⟨by decide, by decide⟩
      obtain ⟨T32, h32, X32, e32, W32, st32⟩ := stC X29 hx hZ e29 Aru31 (j := (1 : Int32)) inu31 (g := (mkF m 25 #[.val (.int w), .val (.int t), .val (.int ca), .val (.int cb)] [(.int 47), (.int 1), (.ref b), (.ref b), (.ref x), (.ref x)])) rfl rfl (own_d hby d19_25)
      have K32 := Keep.of_wr W32
      have N32 := Fr.snoc X32 N29 gn_b
      have KK4 : Keep h0 h32 ([] : List Addr) := KK3.trans K32 (allS (Or.inr s0_b) all0)
      have Zs4 : n0 ≤ h32.size := Nat.le_trans Zs3 K32.1
      have V32 : Arv Z h32 b k26 .char (6 : Int32) ([(.int (nar .char 87)), (.int (nar .char 47)), (.int (0 : Int32)), (.int (0 : Int32)), (.int (0 : Int32)), (.int (0 : Int32))]) (.int (0 : Int32)) := Arv.set Aru31 qu31 Su31 Ngu31 Hsu31 Gsu31 (fits_nar_char _) W32 1 rfl (Nat.le_of_ble_eq_true rfl)
      have cc33 : Steps p.tables e below S0' (T32.setTop (mkF m 30 #[.val (.int w), .val (.int t), .val (.int ca), .val (.int cb)] [(.int 34), (.int 2), (.ref b), (.ref b), (.ref x), (.ref x)])) := Steps.trans (cc30.trans (st32 _ (Steps.refl _))) (by
        refine XS.dup X32.here hx rfl (own_d hby d19_26) rfl rfl ?_
        refine iconstV X32.here hx rfl 2 (own_d hby d19_27) (by decide) ?_
        refine bipushV X32.here hx rfl 34 (own_d hby d19_28) (by decide) ?_
        exact Steps.refl _)
      obtain ⟨clu34, Aru34, qu34, Su34, Ngu34, Hsu34, Gsu34⟩ := id V32
      have inu34 : ¬ ((2 : Int32) < 0 ∨ clu34.slots.size ≤ (2 : Int32).toNatClampNeg) := inb_of Su34 ⟨by decide, by decide⟩
      obtain ⟨T35, h35, X35, e35, W35, st35⟩ := stC X32 hx hZ e32 Aru34 (j := (2 : Int32)) inu34 (g := (mkF m 30 #[.val (.int w), .val (.int t), .val (.int ca), .val (.int cb)] [(.int 34), (.int 2), (.ref b), (.ref b), (.ref x), (.ref x)])) rfl rfl (own_d hby d19_30)
      have K35 := Keep.of_wr W35
      have N35 := Fr.snoc X35 N32 gn_b
      have KK5 : Keep h0 h35 ([] : List Addr) := KK4.trans K35 (allS (Or.inr s0_b) all0)
      have Zs5 : n0 ≤ h35.size := Nat.le_trans Zs4 K35.1
      have V35 : Arv Z h35 b k26 .char (6 : Int32) ([(.int (nar .char 87)), (.int (nar .char 47)), (.int (nar .char 34)), (.int (0 : Int32)), (.int (0 : Int32)), (.int (0 : Int32))]) (.int (0 : Int32)) := Arv.set Aru34 qu34 Su34 Ngu34 Hsu34 Gsu34 (fits_nar_char _) W35 2 rfl (Nat.le_of_ble_eq_true rfl)
      have cc36 : Steps p.tables e below S0' (T35.setTop (mkF m 34 #[.val (.int w), .val (.int t), .val (.int ca), .val (.int cb)] [(.int ca), (.int 3), (.ref b), (.ref b), (.ref x), (.ref x)])) := Steps.trans (cc33.trans (st35 _ (Steps.refl _))) (by
        refine XS.dup X35.here hx rfl (own_d hby d19_31) rfl rfl ?_
        refine iconstV X35.here hx rfl 3 (own_d hby d19_32) (by decide) ?_
        refine XS.iloadN X35.here hx rfl (own_d hby d19_33) rfl ?_
        exact Steps.refl _)
      obtain ⟨clu37, Aru37, qu37, Su37, Ngu37, Hsu37, Gsu37⟩ := id V35
      have inu37 : ¬ ((3 : Int32) < 0 ∨ clu37.slots.size ≤ (3 : Int32).toNatClampNeg) := inb_of Su37 ⟨by decide, by decide⟩
      obtain ⟨T38, h38, X38, e38, W38, st38⟩ := stC X35 hx hZ e35 Aru37 (j := (3 : Int32)) inu37 (g := (mkF m 34 #[.val (.int w), .val (.int t), .val (.int ca), .val (.int cb)] [(.int ca), (.int 3), (.ref b), (.ref b), (.ref x), (.ref x)])) rfl rfl (own_d hby d19_34)
      have K38 := Keep.of_wr W38
      have N38 := Fr.snoc X38 N35 gn_b
      have KK6 : Keep h0 h38 ([] : List Addr) := KK5.trans K38 (allS (Or.inr s0_b) all0)
      have Zs6 : n0 ≤ h38.size := Nat.le_trans Zs5 K38.1
      have V38 : Arv Z h38 b k26 .char (6 : Int32) ([(.int (nar .char 87)), (.int (nar .char 47)), (.int (nar .char 34)), (.int (nar .char ca)), (.int (0 : Int32)), (.int (0 : Int32))]) (.int (0 : Int32)) := Arv.set Aru37 qu37 Su37 Ngu37 Hsu37 Gsu37 (fits_nar_char _) W38 3 rfl (Nat.le_of_ble_eq_true rfl)
      have cc39 : Steps p.tables e below S0' (T38.setTop (mkF m 38 #[.val (.int w), .val (.int t), .val (.int ca), .val (.int cb)] [(.int cb), (.int 4), (.ref b), (.ref b), (.ref x), (.ref x)])) := Steps.trans (cc36.trans (st38 _ (Steps.refl _))) (by
        refine XS.dup X38.here hx rfl (own_d hby d19_35) rfl rfl ?_
        refine iconstV X38.here hx rfl 4 (own_d hby d19_36) (by decide) ?_
        refine XS.iloadN X38.here hx rfl (own_d hby d19_37) rfl ?_
        exact Steps.refl _)
      obtain ⟨clu40, Aru40, qu40, Su40, Ngu40, Hsu40, Gsu40⟩ := id V38
      have inu40 : ¬ ((4 : Int32) < 0 ∨ clu40.slots.size ≤ (4 : Int32).toNatClampNeg) := inb_of Su40 ⟨by decide, by decide⟩
      obtain ⟨T41, h41, X41, e41, W41, st41⟩ := stC X38 hx hZ e38 Aru40 (j := (4 : Int32)) inu40 (g := (mkF m 38 #[.val (.int w), .val (.int t), .val (.int ca), .val (.int cb)] [(.int cb), (.int 4), (.ref b), (.ref b), (.ref x), (.ref x)])) rfl rfl (own_d hby d19_38)
      have K41 := Keep.of_wr W41
      have N41 := Fr.snoc X41 N38 gn_b
      have KK7 : Keep h0 h41 ([] : List Addr) := KK6.trans K41 (allS (Or.inr s0_b) all0)
      have Zs7 : n0 ≤ h41.size := Nat.le_trans Zs6 K41.1
      have V41 : Arv Z h41 b k26 .char (6 : Int32) ([(.int (nar .char 87)), (.int (nar .char 47)), (.int (nar .char 34)), (.int (nar .char ca)), (.int (nar .char cb)), (.int (0 : Int32))]) (.int (0 : Int32)) := Arv.set Aru40 qu40 Su40 Ngu40 Hsu40 Gsu40 (fits_nar_char _) W41 4 rfl (Nat.le_of_ble_eq_true rfl)
      have cc42 : Steps p.tables e below S0' (T41.setTop (mkF m 43 #[.val (.int w), .val (.int t), .val (.int ca), .val (.int cb)] [(.int 34), (.int 5), (.ref b), (.ref b), (.ref x), (.ref x)])) := Steps.trans (cc39.trans (st41 _ (Steps.refl _))) (by
        refine XS.dup X41.here hx rfl (own_d hby d19_39) rfl rfl ?_
        refine iconstV X41.here hx rfl 5 (own_d hby d19_40) (by decide) ?_
        refine bipushV X41.here hx rfl 34 (own_d hby d19_41) (by decide) ?_
        exact Steps.refl _)
      obtain ⟨clu43, Aru43, qu43, Su43, Ngu43, Hsu43, Gsu43⟩ := id V41
      have inu43 : ¬ ((5 : Int32) < 0 ∨ clu43.slots.size ≤ (5 : Int32).toNatClampNeg) := inb_of Su43 ⟨by decide, by decide⟩
      obtain ⟨T44, h44, X44, e44, W44, st44⟩ := stC X41 hx hZ e41 Aru43 (j := (5 : Int32)) inu43 (g := (mkF m 43 #[.val (.int w), .val (.int t), .val (.int ca), .val (.int cb)] [(.int 34), (.int 5), (.ref b), (.ref b), (.ref x), (.ref x)])) rfl rfl (own_d hby d19_43)
      have K44 := Keep.of_wr W44
      have N44 := Fr.snoc X44 N41 gn_b
      have KK8 : Keep h0 h44 ([] : List Addr) := KK7.trans K44 (allS (Or.inr s0_b) all0)
      have Zs8 : n0 ≤ h44.size := Nat.le_trans Zs7 K44.1
      have V44 : Arv Z h44 b k26 .char (6 : Int32) ([(.int (nar .char 87)), (.int (nar .char 47)), (.int (nar .char 34)), (.int (nar .char ca)), (.int (nar .char cb)), (.int (nar .char 34))]) (.int (0 : Int32)) := Arv.set Aru43 qu43 Su43 Ngu43 Hsu43 Gsu43 (fits_nar_char _) W44 5 rfl (Nat.le_of_ble_eq_true rfl)
      have hp : ∀ c' ∈ ([87, 47, 34, ca, cb, 34] : List Int32), ¬ c' < 0 ∧ ¬ (255 : Int32) < c' := by
        intro c' hc'
        simp only [List.mem_cons, List.not_mem_nil, or_false] at hc'
        rcases hc' with rfl | rfl | rfl | rfl | rfl | rfl <;> first | exact hca | exact hcb | decide
      have cc46 : Steps p.tables e below S0' (T44.setTop (mkF m 44 #[.val (.int w), .val (.int t), .val (.int ca), .val (.int cb)] [(.ref b), (.ref x), (.ref x)])) := (cc42.trans (st44 _ (Steps.refl _)))
      have fa45 : Exa Z h44 x "java/lang/String" := (((((((A24.keep K26).keep K29).keep K32).keep K35).keep K38).keep K41).keep K44)
      have fa47 : Fld Z h44 x "java/lang/String" "value" "[B" .null := (((((((F_value_x.keep K26 nin0).keep K29 (ninS ne_x_b nin0)).keep K32 (ninS ne_x_b nin0)).keep K35 (ninS ne_x_b nin0)).keep K38 (ninS ne_x_b nin0)).keep K41 (ninS ne_x_b nin0)).keep K44 (ninS ne_x_b nin0))
      have fa48 : Fld Z h44 x "java/lang/String" "coder" "B" (.int (0 : Int32)) := (((((((F_coder_x.keep K26 nin0).keep K29 (ninS ne_x_b nin0)).keep K32 (ninS ne_x_b nin0)).keep K35 (ninS ne_x_b nin0)).keep K38 (ninS ne_x_b nin0)).keep K41 (ninS ne_x_b nin0)).keep K44 (ninS ne_x_b nin0))
      have fa49 : Old Z n0 h44 := ((((((((X00.keep K24 all0).keep K26 all0).keep K29 (allS gn_b all0)).keep K32 (allS gn_b all0)).keep K35 (allS gn_b all0)).keep K38 (allS gn_b all0)).keep K41 (allS gn_b all0)).keep K44 (allS gn_b all0))
      obtain ⟨_, _, ⟨T50, L50, k50, n50⟩, -, X50, ⟨Lc50, hQ50, l50, y50, z50⟩, st50⟩ := X44.specialBack hx (y := (⟨"java/lang/String", "<init>", "([C)V"⟩ : MethodName)) rfl hown (mvT hZ w_11) (mvT hZ w_12) (mvT hZ w_13) (by decide) (StrChars.Road.backV (W := 1) hZ hw_words (kI := 4) w_8 (cs := ([87, 47, 34, ca, cb, 34] : List Int32)) (bs := (([87, 47, 34, ca, cb, 34] : List Int32)).map (fun c => c.toInt8.toInt32)) (n := 6) gn_x Zs8 fa45 fa47 fa48 (own_arv_eq V44 (by simp only [own_nar hca, own_nar hcb]; rfl) : Arv Z h44 b _ .char (6 : Int32) ((([87, 47, 34, ca, cb, 34] : List Int32)).map Value.int) (.int (0 : Int32))) (O2.ext fa49.2) P5 rfl rfl (by decide) (by decide) hp rfl (by decide) (by decide)) (g := (mkF m 44 #[.val (.int w), .val (.int t), .val (.int ca), .val (.int cb)] [(.ref b), (.ref x), (.ref x)])) rfl (by rw [hml]; rfl) (Steps.refl _) (a := x) (argsL := [(.ref b)]) (rest := [(.ref x)]) (lenOf own_pd17 rfl) rfl (by show 2 * 0 + _ ≤ _; exact Nat.le_of_eq rfl) (own_d hby d19_44) (fun _ _ => ⟨rfl, e44, Nat.le_of_ble_eq_true rfl, Nat.le_of_ble_eq_true rfl⟩)
      dsimp only [Pt.U, Pt.locs, Pt.cells, Pt.slots] at X50 l50 y50 z50 st50 hQ50
      subst l50 y50 z50
      obtain ⟨rfl, Nq50, Kq50, Eq50, Cq50, tt, kb, q150, q250, q350, Vq50, Aq50⟩ := hQ50
      have N50 := Fr.app N44 Nq50
      have KK9 : Keep h0 T50.heap ([] : List Addr) := KK8.trans Kq50 (allS (Or.inr s0_x) all0)
      have Zs9 : n0 ≤ T50.heap.size := Nat.le_trans Zs8 Kq50.1
      have e50 : T50.heap = T50.heap := rfl
      have cc51 : Steps p.tables e below S0' (T50.setTop (mkF m 47 #[.val (.int w), .val (.int t), .val (.int ca), .val (.int cb)] [(.ref x)])) := (Steps.trans cc46 st50)
      have cE := cc51
      rw [hS0'] at cE
      obtain ⟨fs, hr_, hrun, hended, hW, hsame⟩ := X50.leave (v := some (.ref x)) (fun h => by rw [Bd.returns] at h; cases h)
      refine ⟨_, _, cE.trans (X50.areturnOut hx (rfl) Bd.returns rfl (own_d hby d19_47) hr_), hrun, hended, _, _, rfl, ?_, ⟨_, rfl⟩, hW, hsame.mono (by first | decide | omega) (by first | decide | omega)⟩
      show Q_own_tag Z w t ca cb z h0 n0 _ T50.heap _
      rw [e50]
      exact ⟨x, ([87, 47, 34, ca, cb, 34] : List Int32), rfl, N50, KK9, ⟨Eq50, Cq50, hp, by simp, tt, kb, Vq50, Aq50⟩, Or.inl (by rw [if_neg qt])⟩
def Q_own_law (Z : State) (p1 p2 p3 p4 p5 z : Int32) (f : Value) (h0 : Heap) (n0 : Nat) (v : Option Value) (h : Heap) (L : List Loc) : Prop := v = some (.int 1) ∧ Fr n0 L
set_option maxRecDepth 65536 in
set_option maxHeartbeats 40000000 in
theorem own_law (l : Launch) (Z : State) (a0 : Array Value) (hw : ∀ d ∈ tables_1, d.before a0 Z = true) (ws : List Jvm.Cond) (p1 p2 p3 p4 p5 z : Int32) (f : Value) (h0 : Heap) (n0 : Nat) (Z0 : n0 ≤ h0.size) (X00 : Old Z n0 h0) (O2 : Sta Z Z.heap "java/lang/String" "COMPACT_STRINGS" "Z" (.int z)) (P5 : ¬ z = 0) (O4 : Sta Z Z.heap "jdk/internal/util/Preconditions" "SIOOBE_FORMATTER" "Ljava/util/function/BiFunction;" f) (hf : f.isRef = true) :
    MetFree l x (head1 (Jvm.Cond.code x code maxLocals ret :: ws) room_1) (fun a_ U_ => a_ = #[(.int p1), (.int p2), (.int p3), (.int p4), (.int p5)] ∧ Z.Warmed39 U_.vm ∧ U_.heap = h0 ∧ CHv Z EL U_.vm h0) (fun _ _ _ _ _ => True) (fun _ U_ o_ V_ => ∃ v_ L_, o_ = .returned v_ ∧ Q_own_law Z p1 p2 p3 p4 p5 z f h0 n0 v_ V_.heap L_ ∧ CHr Z EL U_.vm U_.heap V_.vm V_.heap ∧ ReturnedEndW U_ o_ V_ L_ room_1.cells room_1.slots) := by
  refine MetFree.of_bodySF (plainFor_of_name own_pn6) hisR ?_
  intro p e s m args below meth c s₁ Bd hml0 hP hK
  obtain ⟨rfl, hZ, hh, hCH⟩ := hP
  have hx := Bd.exec
  have hby := Bd.bytes
  have hml : c.maxLocals = 16 := hml0
  have hown : s.vm.findClass "com/example/feedwright/feedwright/http/EntityTagsMatchWeaklyPinLaw" = some m.cls := findClass_of_methodNamed Bd.named
  have hnm := (name_of_methodNamed Bd.named Bd.method).1
  have X0 : Stand p l e room_1 (s.setVm s.vm) m #[(.int p1), (.int p2), (.int p3), (.int p4), (.int p5)] below meth c s₁ [] 0 0 := Stand.of_body Bd
  have e0 : s₁.heap = h0 := by rw [← hh, Bd.state]; rfl
  have N0 := Fr.nil n0
  have KK0 := Keep.refl h0 ([] : List Addr)
  have C0 := CHr.refl hCH
  have hS0 : s.Since s.vm 0 := (State.WarmedH.refl s).since 0
  have hk0 : 0 ≤ h0.size := Nat.zero_le _
  have hEL : EW Z a0 EL := own_EW hw
  have cc0 : Steps p.tables e below (s₁.setTop (entryFrame m #[(.int p1), (.int p2), (.int p3), (.int p4), (.int p5)] maxLocals)) (s₁.setTop (mkF m 0 #[.val (.int p1), .val (.int p2), .val (.int p3), .val (.int p4), .val (.int p5), .unset, .unset, .unset, .unset, .unset, .unset, .unset, .unset, .unset, .unset, .unset] [])) := XT.entry rfl
  obtain ⟨S0', hS0'⟩ : ∃ S, S = (s₁.setTop (entryFrame m #[(.int p1), (.int p2), (.int p3), (.int p4), (.int p5)] maxLocals)) := ⟨_, rfl⟩
  rw [← hS0'] at cc0
  have w_0 := hw _ (List.mem_of_getElem? (i := 0) rfl)
  have w_1 := hw _ (List.mem_of_getElem? (i := 1) rfl)
  have w_2 := hw _ (List.mem_of_getElem? (i := 2) rfl)
  have w_3 := hw _ (List.mem_of_getElem? (i := 3) rfl)
  have w_4 := hw _ (List.mem_of_getElem? (i := 4) rfl)
  have w_5 := hw _ (List.mem_of_getElem? (i := 5) rfl)
  have w_6 := hw _ (List.mem_of_getElem? (i := 6) rfl)
  have w_39 := hw _ (List.mem_of_getElem? (i := 39) rfl)
  have w_40 := hw _ (List.mem_of_getElem? (i := 40) rfl)
  have cc21 : Steps p.tables e below S0' (s₁.setTop (mkF m 4 #[.val (.int p1), .val (.int p2), .val (.int p3), .val (.int p4), .val (.int p5), .unset, .unset, .unset, .unset, .unset, .unset, .unset, .unset, .unset, .unset, .unset] [(.int (p5 &&& (1 : Int32)))])) := Steps.trans cc0 (by
    refine XS.iload X0.here hx rfl (own_d hby at_0) rfl ?_
    refine iconstV X0.here hx rfl 1 (own_d hby at_2) (by decide) ?_
    refine XS.iand X0.here hx rfl (own_d hby at_3) rfl ?_
    exact Steps.refl _)
  obtain ⟨wa, hwa, c_wa⟩ : ∃ wa : Int32, (wa = 0 ∧ p5 &&& (1 : Int32) = 0 ∨ wa = 1 ∧ ¬ p5 &&& (1 : Int32) = 0) ∧ Steps p.tables e below S0' (s₁.setTop (mkF m 12 #[.val (.int p1), .val (.int p2), .val (.int p3), .val (.int p4), .val (.int p5), .unset, .unset, .unset, .unset, .unset, .unset, .unset, .unset, .unset, .unset, .unset] [(.int wa)])) := by
    by_cases hq : p5 &&& (1 : Int32) = 0
    · refine ⟨0, Or.inl ⟨rfl, hq⟩, cc21.trans ?_⟩
      refine XS.ifYes X0.here hx rfl (pc0 := 4) rfl (own_d hby at_4) rfl (i0_eq_t hq) (by decide) rfl ?_
      refine iconstV X0.here hx rfl 0 (own_d hby at_11) (by decide) ?_
      exact Steps.refl _
    · refine ⟨1, Or.inr ⟨rfl, hq⟩, cc21.trans ?_⟩
      refine XS.ifNo X0.here hx rfl (own_d hby at_4) rfl (i0_eq_f hq) ?_
      refine iconstV X0.here hx rfl 1 (own_d hby at_7) (by decide) ?_
      refine XS.goto X0.here hx rfl (pc0 := 8) rfl (own_d hby at_8) (by decide) rfl ?_
      exact Steps.refl _
  have zwa : wa = 0 ∨ wa = 1 := hwa.imp And.left And.left
  have cc22 : Steps p.tables e below S0' (s₁.setTop (mkF m 18 #[.val (.int p1), .val (.int p2), .val (.int p3), .val (.int p4), .val (.int p5), .val (.int wa), .unset, .unset, .unset, .unset, .unset, .unset, .unset, .unset, .unset, .unset] [(.int (p5 &&& (2 : Int32)))])) := Steps.trans c_wa (by
    refine XS.istore X0.here hx rfl (own_d hby at_12) rfl rfl ?_
    refine XS.iload X0.here hx rfl (own_d hby at_14) rfl ?_
    refine iconstV X0.here hx rfl 2 (own_d hby at_16) (by decide) ?_
    refine XS.iand X0.here hx rfl (own_d hby at_17) rfl ?_
    exact Steps.refl _)
  obtain ⟨wb, hwb, c_wb⟩ : ∃ wb : Int32, (wb = 0 ∧ p5 &&& (2 : Int32) = 0 ∨ wb = 1 ∧ ¬ p5 &&& (2 : Int32) = 0) ∧ Steps p.tables e below S0' (s₁.setTop (mkF m 26 #[.val (.int p1), .val (.int p2), .val (.int p3), .val (.int p4), .val (.int p5), .val (.int wa), .unset, .unset, .unset, .unset, .unset, .unset, .unset, .unset, .unset, .unset] [(.int wb)])) := by
    by_cases hq : p5 &&& (2 : Int32) = 0
    · refine ⟨0, Or.inl ⟨rfl, hq⟩, cc22.trans ?_⟩
      refine XS.ifYes X0.here hx rfl (pc0 := 18) rfl (own_d hby at_18) rfl (i0_eq_t hq) (by decide) rfl ?_
      refine iconstV X0.here hx rfl 0 (own_d hby at_25) (by decide) ?_
      exact Steps.refl _
    · refine ⟨1, Or.inr ⟨rfl, hq⟩, cc22.trans ?_⟩
      refine XS.ifNo X0.here hx rfl (own_d hby at_18) rfl (i0_eq_f hq) ?_
      refine iconstV X0.here hx rfl 1 (own_d hby at_21) (by decide) ?_
      refine XS.goto X0.here hx rfl (pc0 := 22) rfl (own_d hby at_22) (by decide) rfl ?_
      exact Steps.refl _
  have zwb : wb = 0 ∨ wb = 1 := hwb.imp And.left And.left
  have cc23 : Steps p.tables e below S0' (s₁.setTop (mkF m 32 #[.val (.int p1), .val (.int p2), .val (.int p3), .val (.int p4), .val (.int p5), .val (.int wa), .val (.int wb), .unset, .unset, .unset, .unset, .unset, .unset, .unset, .unset, .unset] [(.int (p5 &&& (4 : Int32)))])) := Steps.trans c_wb (by
    refine XS.istore X0.here hx rfl (own_d hby at_26) rfl rfl ?_
    refine XS.iload X0.here hx rfl (own_d hby at_28) rfl ?_
    refine iconstV X0.here hx rfl 4 (own_d hby at_30) (by decide) ?_
    refine XS.iand X0.here hx rfl (own_d hby at_31) rfl ?_
    exact Steps.refl _)
  obtain ⟨ta, hta, c_ta⟩ : ∃ ta : Int32, (ta = 0 ∧ p5 &&& (4 : Int32) = 0 ∨ ta = 1 ∧ ¬ p5 &&& (4 : Int32) = 0) ∧ Steps p.tables e below S0' (s₁.setTop (mkF m 40 #[.val (.int p1), .val (.int p2), .val (.int p3), .val (.int p4), .val (.int p5), .val (.int wa), .val (.int wb), .unset, .unset, .unset, .unset, .unset, .unset, .unset, .unset, .unset] [(.int ta)])) := by
    by_cases hq : p5 &&& (4 : Int32) = 0
    · refine ⟨0, Or.inl ⟨rfl, hq⟩, cc23.trans ?_⟩
      refine XS.ifYes X0.here hx rfl (pc0 := 32) rfl (own_d hby at_32) rfl (i0_eq_t hq) (by decide) rfl ?_
      refine iconstV X0.here hx rfl 0 (own_d hby at_39) (by decide) ?_
      exact Steps.refl _
    · refine ⟨1, Or.inr ⟨rfl, hq⟩, cc23.trans ?_⟩
      refine XS.ifNo X0.here hx rfl (own_d hby at_32) rfl (i0_eq_f hq) ?_
      refine iconstV X0.here hx rfl 1 (own_d hby at_35) (by decide) ?_
      refine XS.goto X0.here hx rfl (pc0 := 36) rfl (own_d hby at_36) (by decide) rfl ?_
      exact Steps.refl _
  have zta : ta = 0 ∨ ta = 1 := hta.imp And.left And.left
  have cc24 : Steps p.tables e below S0' (s₁.setTop (mkF m 47 #[.val (.int p1), .val (.int p2), .val (.int p3), .val (.int p4), .val (.int p5), .val (.int wa), .val (.int wb), .val (.int ta), .unset, .unset, .unset, .unset, .unset, .unset, .unset, .unset] [(.int (p5 &&& (8 : Int32)))])) := Steps.trans c_ta (by
    refine XS.istore X0.here hx rfl (own_d hby at_40) rfl rfl ?_
    refine XS.iload X0.here hx rfl (own_d hby at_42) rfl ?_
    refine bipushV X0.here hx rfl 8 (own_d hby at_44) (by decide) ?_
    refine XS.iand X0.here hx rfl (own_d hby at_46) rfl ?_
    exact Steps.refl _)
  obtain ⟨tb, htb, c_tb⟩ : ∃ tb : Int32, (tb = 0 ∧ p5 &&& (8 : Int32) = 0 ∨ tb = 1 ∧ ¬ p5 &&& (8 : Int32) = 0) ∧ Steps p.tables e below S0' (s₁.setTop (mkF m 55 #[.val (.int p1), .val (.int p2), .val (.int p3), .val (.int p4), .val (.int p5), .val (.int wa), .val (.int wb), .val (.int ta), .unset, .unset, .unset, .unset, .unset, .unset, .unset, .unset] [(.int tb)])) := by
    by_cases hq : p5 &&& (8 : Int32) = 0
    · refine ⟨0, Or.inl ⟨rfl, hq⟩, cc24.trans ?_⟩
      refine XS.ifYes X0.here hx rfl (pc0 := 47) rfl (own_d hby at_47) rfl (i0_eq_t hq) (by decide) rfl ?_
      refine iconstV X0.here hx rfl 0 (own_d hby at_54) (by decide) ?_
      exact Steps.refl _
    · refine ⟨1, Or.inr ⟨rfl, hq⟩, cc24.trans ?_⟩
      refine XS.ifNo X0.here hx rfl (own_d hby at_47) rfl (i0_eq_f hq) ?_
      refine iconstV X0.here hx rfl 1 (own_d hby at_50) (by decide) ?_
      refine XS.goto X0.here hx rfl (pc0 := 51) rfl (own_d hby at_51) (by decide) rfl ?_
      exact Steps.refl _
  have ztb : tb = 0 ∨ tb = 1 := htb.imp And.left And.left
  have cc25 : Steps p.tables e below S0' (s₁.setTop (mkF m 58 #[.val (.int p1), .val (.int p2), .val (.int p3), .val (.int p4), .val (.int p5), .val (.int wa), .val (.int wb), .val (.int ta), .val (.int tb), .unset, .unset, .unset, .unset, .unset, .unset, .unset] [(.int p1)])) := Steps.trans c_tb (by
    refine XS.istore X0.here hx rfl (own_d hby at_55) rfl rfl ?_
    refine XS.iloadN X0.here hx rfl (own_d hby at_57) rfl ?_
    exact Steps.refl _)
  obtain ⟨_, _, ⟨T26, L26, k26, n26⟩, -, X26, ⟨Lc26, hQ26, l26, y26, z26⟩, st26⟩ := Jvm.LawKit.callS X0 hx (y := (⟨"com/example/feedwright/feedwright/http/EntityTagsMatchWeaklyPinLaw", "ch", "(I)C"⟩ : MethodName)) hown (mvT hZ w_0) (mvT hZ w_1) (mvT hZ w_2) (mvT hZ w_3) (by decide) (backOf (W := 0) (own_ch l Z a0 hw p1 h0 n0 Z0 ) hZ w_3 w_2 (by decide) (by decide)) (g := (mkF m 58 #[.val (.int p1), .val (.int p2), .val (.int p3), .val (.int p4), .val (.int p5), .val (.int wa), .val (.int wb), .val (.int ta), .val (.int tb), .unset, .unset, .unset, .unset, .unset, .unset, .unset] [(.int p1)])) rfl (by rw [hml]; rfl) (argsL := [(.int p1)]) (rest := []) (lenOf own_pd18 rfl) rfl (by show 2 * 0 + _ ≤ _; exact Nat.le_of_eq rfl) (own_d hby at_58) (fun _ _ => ⟨rfl, e0, Nat.le_of_ble_eq_true rfl, Nat.le_of_ble_eq_true rfl⟩)
  dsimp only [Pt.U, Pt.locs, Pt.cells, Pt.slots] at X26 l26 y26 z26 st26 hQ26
  subst l26 y26 z26
  obtain ⟨ca0, rfl, Nq26, eq26, h1ca0, h2ca0⟩ := hQ26
  have N26 := Fr.app N0 Nq26
  have e26 : T26.heap = h0 := eq26
  have gca0 : ¬ ca0 < 0 ∧ ¬ (255 : Int32) < ca0 := ⟨h1ca0, h2ca0⟩
  have cc27 : Steps p.tables e below S0' (T26.setTop (mkF m 64 #[.val (.int p1), .val (.int p2), .val (.int p3), .val (.int p4), .val (.int p5), .val (.int wa), .val (.int wb), .val (.int ta), .val (.int tb), .val (.int ca0), .unset, .unset, .unset, .unset, .unset, .unset] [(.int p2)])) := Steps.trans (cc25.trans (st26 _ (Steps.refl _))) (by
    refine XS.istore X26.here hx rfl (own_d hby at_61) rfl rfl ?_
    refine XS.iloadN X26.here hx rfl (own_d hby at_63) rfl ?_
    exact Steps.refl _)
  obtain ⟨_, _, ⟨T28, L28, k28, n28⟩, -, X28, ⟨Lc28, hQ28, l28, y28, z28⟩, st28⟩ := Jvm.LawKit.callS X26 hx (y := (⟨"com/example/feedwright/feedwright/http/EntityTagsMatchWeaklyPinLaw", "ch", "(I)C"⟩ : MethodName)) hown (mvT hZ w_0) (mvT hZ w_1) (mvT hZ w_2) (mvT hZ w_3) (by decide) (backOf (W := 0) (own_ch l Z a0 hw p2 h0 n0 Z0 ) hZ w_3 w_2 (by decide) (by decide)) (g := (mkF m 64 #[.val (.int p1), .val (.int p2), .val (.int p3), .val (.int p4), .val (.int p5), .val (.int wa), .val (.int wb), .val (.int ta), .val (.int tb), .val (.int ca0), .unset, .unset, .unset, .unset, .unset, .unset] [(.int p2)])) rfl (by rw [hml]; rfl) (argsL := [(.int p2)]) (rest := []) (lenOf own_pd18 rfl) rfl (by show 2 * 0 + _ ≤ _; exact Nat.le_of_eq rfl) (own_d hby at_64) (fun _ _ => ⟨rfl, e26, Nat.le_of_ble_eq_true rfl, Nat.le_of_ble_eq_true rfl⟩)
  dsimp only [Pt.U, Pt.locs, Pt.cells, Pt.slots] at X28 l28 y28 z28 st28 hQ28
  subst l28 y28 z28
  obtain ⟨ca1, rfl, Nq28, eq28, h1ca1, h2ca1⟩ := hQ28
  have N28 := Fr.app N26 Nq28
  have e28 : T28.heap = h0 := eq28
  have gca1 : ¬ ca1 < 0 ∧ ¬ (255 : Int32) < ca1 := ⟨h1ca1, h2ca1⟩
  have cc29 : Steps p.tables e below S0' (T28.setTop (mkF m 70 #[.val (.int p1), .val (.int p2), .val (.int p3), .val (.int p4), .val (.int p5), .val (.int wa), .val (.int wb), .val (.int ta), .val (.int tb), .val (.int ca0), .val (.int ca1), .unset, .unset, .unset, .unset, .unset] [(.int p3)])) := Steps.trans (cc27.trans (st28 _ (Steps.refl _))) (by
    refine XS.istore X28.here hx rfl (own_d hby at_67) rfl rfl ?_
    refine XS.iloadN X28.here hx rfl (own_d hby at_69) rfl ?_
    exact Steps.refl _)
  obtain ⟨_, _, ⟨T30, L30, k30, n30⟩, -, X30, ⟨Lc30, hQ30, l30, y30, z30⟩, st30⟩ := Jvm.LawKit.callS X28 hx (y := (⟨"com/example/feedwright/feedwright/http/EntityTagsMatchWeaklyPinLaw", "ch", "(I)C"⟩ : MethodName)) hown (mvT hZ w_0) (mvT hZ w_1) (mvT hZ w_2) (mvT hZ w_3) (by decide) (backOf (W := 0) (own_ch l Z a0 hw p3 h0 n0 Z0 ) hZ w_3 w_2 (by decide) (by decide)) (g := (mkF m 70 #[.val (.int p1), .val (.int p2), .val (.int p3), .val (.int p4), .val (.int p5), .val (.int wa), .val (.int wb), .val (.int ta), .val (.int tb), .val (.int ca0), .val (.int ca1), .unset, .unset, .unset, .unset, .unset] [(.int p3)])) rfl (by rw [hml]; rfl) (argsL := [(.int p3)]) (rest := []) (lenOf own_pd18 rfl) rfl (by show 2 * 0 + _ ≤ _; exact Nat.le_of_eq rfl) (own_d hby at_70) (fun _ _ => ⟨rfl, e28, Nat.le_of_ble_eq_true rfl, Nat.le_of_ble_eq_true rfl⟩)
  dsimp only [Pt.U, Pt.locs, Pt.cells, Pt.slots] at X30 l30 y30 z30 st30 hQ30
  subst l30 y30 z30
  obtain ⟨cb0, rfl, Nq30, eq30, h1cb0, h2cb0⟩ := hQ30
  have N30 := Fr.app N28 Nq30
  have e30 : T30.heap = h0 := eq30
  have gcb0 : ¬ cb0 < 0 ∧ ¬ (255 : Int32) < cb0 := ⟨h1cb0, h2cb0⟩
  have cc31 : Steps p.tables e below S0' (T30.setTop (mkF m 76 #[.val (.int p1), .val (.int p2), .val (.int p3), .val (.int p4), .val (.int p5), .val (.int wa), .val (.int wb), .val (.int ta), .val (.int tb), .val (.int ca0), .val (.int ca1), .val (.int cb0), .unset, .unset, .unset, .unset] [(.int p4)])) := Steps.trans (cc29.trans (st30 _ (Steps.refl _))) (by
    refine XS.istore X30.here hx rfl (own_d hby at_73) rfl rfl ?_
    refine XS.iloadN X30.here hx rfl (own_d hby at_75) rfl ?_
    exact Steps.refl _)
  obtain ⟨_, _, ⟨T32, L32, k32, n32⟩, -, X32, ⟨Lc32, hQ32, l32, y32, z32⟩, st32⟩ := Jvm.LawKit.callS X30 hx (y := (⟨"com/example/feedwright/feedwright/http/EntityTagsMatchWeaklyPinLaw", "ch", "(I)C"⟩ : MethodName)) hown (mvT hZ w_0) (mvT hZ w_1) (mvT hZ w_2) (mvT hZ w_3) (by decide) (backOf (W := 0) (own_ch l Z a0 hw p4 h0 n0 Z0 ) hZ w_3 w_2 (by decide) (by decide)) (g := (mkF m 76 #[.val (.int p1), .val (.int p2), .val (.int p3), .val (.int p4), .val (.int p5), .val (.int wa), .val (.int wb), .val (.int ta), .val (.int tb), .val (.int ca0), .val (.int ca1), .val (.int cb0), .unset, .unset, .unset, .unset] [(.int p4)])) rfl (by rw [hml]; rfl) (argsL := [(.int p4)]) (rest := []) (lenOf own_pd18 rfl) rfl (by show 2 * 0 + _ ≤ _; exact Nat.le_of_eq rfl) (own_d hby at_76) (fun _ _ => ⟨rfl, e30, Nat.le_of_ble_eq_true rfl, Nat.le_of_ble_eq_true rfl⟩)
  dsimp only [Pt.U, Pt.locs, Pt.cells, Pt.slots] at X32 l32 y32 z32 st32 hQ32
  subst l32 y32 z32
  obtain ⟨cb1, rfl, Nq32, eq32, h1cb1, h2cb1⟩ := hQ32
  have N32 := Fr.app N30 Nq32
  have e32 : T32.heap = h0 := eq32
  have gcb1 : ¬ cb1 < 0 ∧ ¬ (255 : Int32) < cb1 := ⟨h1cb1, h2cb1⟩
  have cc33 : Steps p.tables e below S0' (T32.setTop (mkF m 86 #[.val (.int p1), .val (.int p2), .val (.int p3), .val (.int p4), .val (.int p5), .val (.int wa), .val (.int wb), .val (.int ta), .val (.int tb), .val (.int ca0), .val (.int ca1), .val (.int cb0), .val (.int cb1), .unset, .unset, .unset] [(.int (p5 &&& (16 : Int32)))])) := Steps.trans (cc31.trans (st32 _ (Steps.refl _))) (by
    refine XS.istore X32.here hx rfl (own_d hby at_79) rfl rfl ?_
    refine XS.iload X32.here hx rfl (own_d hby at_81) rfl ?_
    refine bipushV X32.here hx rfl 16 (own_d hby at_83) (by decide) ?_
    refine XS.iand X32.here hx rfl (own_d hby at_85) rfl ?_
    exact Steps.refl _)
  obtain ⟨d0, d1, ⟨gd0, gd1⟩, c_d0⟩ : ∃ d0 d1 : Int32, ((¬ d0 < 0 ∧ ¬ (255 : Int32) < d0) ∧ (¬ d1 < 0 ∧ ¬ (255 : Int32) < d1)) ∧ Steps p.tables e below S0' (T32.setTop (mkF m 97 #[.val (.int p1), .val (.int p2), .val (.int p3), .val (.int p4), .val (.int p5), .val (.int wa), .val (.int wb), .val (.int ta), .val (.int tb), .val (.int ca0), .val (.int ca1), .val (.int d0), .val (.int d1), .unset, .unset, .unset] [])) := by
    by_cases hq : p5 &&& (16 : Int32) = 0
    · refine ⟨cb0, cb1, ⟨by assumption, by assumption⟩, cc33.trans ?_⟩
      refine XS.ifYes X32.here hx rfl (pc0 := 86) rfl (own_d hby at_86) rfl (i0_eq_t hq) (by decide) rfl ?_
      exact Steps.refl _
    · refine ⟨ca0, ca1, ⟨by assumption, by assumption⟩, cc33.trans ?_⟩
      refine XS.ifNo X32.here hx rfl (own_d hby at_86) rfl (i0_eq_f hq) ?_
      refine XS.iload X32.here hx rfl (own_d hby at_89) rfl ?_
      refine XS.istore X32.here hx rfl (own_d hby at_91) rfl rfl ?_
      refine XS.iload X32.here hx rfl (own_d hby at_93) rfl ?_
      refine XS.istore X32.here hx rfl (own_d hby at_95) rfl rfl ?_
      exact Steps.refl _
  have cc34 : Steps p.tables e below S0' (T32.setTop (mkF m 102 #[.val (.int p1), .val (.int p2), .val (.int p3), .val (.int p4), .val (.int p5), .val (.int wa), .val (.int wb), .val (.int ta), .val (.int tb), .val (.int ca0), .val (.int ca1), .val (.int d0), .val (.int d1), .unset, .unset, .unset] [(.int (p5 &&& (32 : Int32)))])) := Steps.trans c_d0 (by
    refine XS.iload X32.here hx rfl (own_d hby at_97) rfl ?_
    refine bipushV X32.here hx rfl 32 (own_d hby at_99) (by decide) ?_
    refine XS.iand X32.here hx rfl (own_d hby at_101) rfl ?_
    exact Steps.refl _)
  obtain ⟨tc, ztc, c_tc⟩ : ∃ tc : Int32, (tc = 0 ∨ tc = 1) ∧ Steps p.tables e below S0' (T32.setTop (mkF m 109 #[.val (.int p1), .val (.int p2), .val (.int p3), .val (.int p4), .val (.int p5), .val (.int wa), .val (.int wb), .val (.int ta), .val (.int tc), .val (.int ca0), .val (.int ca1), .val (.int d0), .val (.int d1), .unset, .unset, .unset] [])) := by
    by_cases hq : p5 &&& (32 : Int32) = 0
    · refine ⟨tb, by assumption, cc34.trans ?_⟩
      refine XS.ifYes X32.here hx rfl (pc0 := 102) rfl (own_d hby at_102) rfl (i0_eq_t hq) (by decide) rfl ?_
      exact Steps.refl _
    · refine ⟨ta, by assumption, cc34.trans ?_⟩
      refine XS.ifNo X32.here hx rfl (own_d hby at_102) rfl (i0_eq_f hq) ?_
      refine XS.iload X32.here hx rfl (own_d hby at_105) rfl ?_
      refine XS.istore X32.here hx rfl (own_d hby at_107) rfl rfl ?_
      exact Steps.refl _
  have cc35 : Steps p.tables e below S0' (T32.setTop (mkF m 117 #[.val (.int p1), .val (.int p2), .val (.int p3), .val (.int p4), .val (.int p5), .val (.int wa), .val (.int wb), .val (.int ta), .val (.int tc), .val (.int ca0), .val (.int ca1), .val (.int d0), .val (.int d1), .unset, .unset, .unset] [(.int ca1), (.int ca0), (.int ta), (.int wa)])) := Steps.trans c_tc (by
    refine XS.iload X32.here hx rfl (own_d hby at_109) rfl ?_
    refine XS.iload X32.here hx rfl (own_d hby at_111) rfl ?_
    refine XS.iload X32.here hx rfl (own_d hby at_113) rfl ?_
    refine XS.iload X32.here hx rfl (own_d hby at_115) rfl ?_
    exact Steps.refl _)
  obtain ⟨_, _, ⟨T36, L36, k36, n36⟩, -, X36, ⟨Lc36, hQ36, l36, y36, z36⟩, st36⟩ := Jvm.LawKit.callS X32 hx (y := (⟨"com/example/feedwright/feedwright/http/EntityTagsMatchWeaklyPinLaw", "tag", "(ZZCC)Ljava/lang/String;"⟩ : MethodName)) hown (mvT hZ w_4) (mvT hZ w_5) (mvT hZ w_2) (mvT hZ w_6) (by decide) (backOf (W := 0) (own_tag l Z a0 hw wa ta ca0 ca1 z h0 n0 Z0 X00 O2 P5 zwa zta gca0 gca1) hZ w_6 w_2 (by decide) (by decide)) (g := (mkF m 117 #[.val (.int p1), .val (.int p2), .val (.int p3), .val (.int p4), .val (.int p5), .val (.int wa), .val (.int wb), .val (.int ta), .val (.int tc), .val (.int ca0), .val (.int ca1), .val (.int d0), .val (.int d1), .unset, .unset, .unset] [(.int ca1), (.int ca0), (.int ta), (.int wa)])) rfl (by rw [hml]; rfl) (argsL := [(.int wa), (.int ta), (.int ca0), (.int ca1)]) (rest := []) (lenOf own_pd19 rfl) rfl (by show 2 * 0 + _ ≤ _; exact Nat.le_of_eq rfl) (own_d hby at_117) (fun _ _ => ⟨rfl, e32, Nat.le_of_ble_eq_true rfl, Nat.le_of_ble_eq_true rfl⟩)
  dsimp only [Pt.U, Pt.locs, Pt.cells, Pt.slots] at X36 l36 y36 z36 st36 hQ36
  subst l36 y36 z36
  obtain ⟨x, csx, rfl, Nq36, Kq36, Hx, hcx⟩ := hQ36
  have N36 := Fr.app N32 Nq36
  have D37 := CHr.keep Kq36 sf0 C0.1
  have C38 := C0.trans D37
  have KK1 : Keep h0 T36.heap ([] : List Addr) := KK0.trans Kq36 all0
  have Zs1 : n0 ≤ T36.heap.size := Nat.le_trans Z0 Kq36.1
  have e36 : T36.heap = T36.heap := rfl
  have cc40 : Steps p.tables e below S0' (T36.setTop (mkF m 130 #[.val (.int p1), .val (.int p2), .val (.int p3), .val (.int p4), .val (.int p5), .val (.int wa), .val (.int wb), .val (.int ta), .val (.int tc), .val (.int ca0), .val (.int ca1), .val (.int d0), .val (.int d1), .val (.ref x), .unset, .unset] [(.int d1), (.int d0), (.int tc), (.int wb)])) := Steps.trans (cc35.trans (st36 _ (Steps.refl _))) (by
    refine XS.astore X36.here hx rfl (own_d hby at_120) rfl rfl rfl ?_
    refine XS.iload X36.here hx rfl (own_d hby at_122) rfl ?_
    refine XS.iload X36.here hx rfl (own_d hby at_124) rfl ?_
    refine XS.iload X36.here hx rfl (own_d hby at_126) rfl ?_
    refine XS.iload X36.here hx rfl (own_d hby at_128) rfl ?_
    exact Steps.refl _)
  have fa39 : Old Z n0 T36.heap := (X00.keep Kq36 all0)
  obtain ⟨_, _, ⟨T41, L41, k41, n41⟩, -, X41, ⟨Lc41, hQ41, l41, y41, z41⟩, st41⟩ := Jvm.LawKit.callS X36 hx (y := (⟨"com/example/feedwright/feedwright/http/EntityTagsMatchWeaklyPinLaw", "tag", "(ZZCC)Ljava/lang/String;"⟩ : MethodName)) hown (mvT hZ w_4) (mvT hZ w_5) (mvT hZ w_2) (mvT hZ w_6) (by decide) (backOf (W := 0) (own_tag l Z a0 hw wb tc d0 d1 z T36.heap n0 Zs1 fa39 O2 P5 zwb ztc gd0 gd1) hZ w_6 w_2 (by decide) (by decide)) (g := (mkF m 130 #[.val (.int p1), .val (.int p2), .val (.int p3), .val (.int p4), .val (.int p5), .val (.int wa), .val (.int wb), .val (.int ta), .val (.int tc), .val (.int ca0), .val (.int ca1), .val (.int d0), .val (.int d1), .val (.ref x), .unset, .unset] [(.int d1), (.int d0), (.int tc), (.int wb)])) rfl (by rw [hml]; rfl) (argsL := [(.int wb), (.int tc), (.int d0), (.int d1)]) (rest := []) (lenOf own_pd19 rfl) rfl (by show 2 * 0 + _ ≤ _; exact Nat.le_of_eq rfl) (own_d hby at_130) (fun _ _ => ⟨rfl, e36, Nat.le_of_ble_eq_true rfl, Nat.le_of_ble_eq_true rfl⟩)
  dsimp only [Pt.U, Pt.locs, Pt.cells, Pt.slots] at X41 l41 y41 z41 st41 hQ41
  subst l41 y41 z41
  obtain ⟨y, csy, rfl, Nq41, Kq41, Hy, hcy⟩ := hQ41
  have N41 := Fr.app N36 Nq41
  have D42 := CHr.keep Kq41 sf0 C38.1
  have C43 := C38.trans D42
  have KK2 : Keep h0 T41.heap ([] : List Addr) := KK1.trans Kq41 all0
  have Zs2 : n0 ≤ T41.heap.size := Nat.le_trans Zs1 Kq41.1
  have e41 : T41.heap = T41.heap := rfl
  have Hx' := Hx.keep0 Kq41
  have cc44 : Steps p.tables e below S0' (T41.setTop (mkF m 139 #[.val (.int p1), .val (.int p2), .val (.int p3), .val (.int p4), .val (.int p5), .val (.int wa), .val (.int wb), .val (.int ta), .val (.int tc), .val (.int ca0), .val (.int ca1), .val (.int d0), .val (.int d1), .val (.ref x), .val (.ref y), .unset] [(.int tc), (.int ta)])) := Steps.trans (cc40.trans (st41 _ (Steps.refl _))) (by
    refine XS.astore X41.here hx rfl (own_d hby at_133) rfl rfl rfl ?_
    refine XS.iload X41.here hx rfl (own_d hby at_135) rfl ?_
    refine XS.iload X41.here hx rfl (own_d hby at_137) rfl ?_
    exact Steps.refl _)
  obtain ⟨ex, hex, c_ex⟩ : ∃ ex : Int32, (ex = 1 ∧ (if ta = 0 then [34, ca0, 34] else [34, ca0, ca1, 34] : List Int32) = (if tc = 0 then [34, d0, 34] else [34, d0, d1, 34] : List Int32) ∨ ex = 0 ∧ ¬ (if ta = 0 then [34, ca0, 34] else [34, ca0, ca1, 34] : List Int32) = (if tc = 0 then [34, d0, 34] else [34, d0, d1, 34] : List Int32)) ∧ Steps p.tables e below S0' (T41.setTop (mkF m 166 #[.val (.int p1), .val (.int p2), .val (.int p3), .val (.int p4), .val (.int p5), .val (.int wa), .val (.int wb), .val (.int ta), .val (.int tc), .val (.int ca0), .val (.int ca1), .val (.int d0), .val (.int d1), .val (.ref x), .val (.ref y), .unset] [(.int ex)])) := by
    by_cases e1 : ta = tc
    · by_cases e2 : ca0 = d0
      · by_cases e3 : ta = 0
        · refine ⟨1, Or.inl ⟨rfl, by rw [if_pos e3, if_pos (e1 ▸ e3), e2]⟩, cc44.trans ?_⟩
          refine XS.icmpNo X41.here hx rfl (own_d hby at_139) rfl (ii_ne_f e1) ?_
          refine XS.iload X41.here hx rfl (own_d hby at_142) rfl ?_
          refine XS.iload X41.here hx rfl (own_d hby at_144) rfl ?_
          refine XS.icmpNo X41.here hx rfl (own_d hby at_146) rfl (ii_ne_f e2) ?_
          refine XS.iload X41.here hx rfl (own_d hby at_149) rfl ?_
          refine XS.ifYes X41.here hx rfl (pc0 := 151) rfl (own_d hby at_151) rfl (i0_eq_t e3) (by decide) rfl ?_
          refine iconstV X41.here hx rfl 1 (own_d hby at_161) (by decide) ?_
          refine XS.goto X41.here hx rfl (pc0 := 162) rfl (own_d hby at_162) (by decide) rfl ?_
          exact Steps.refl _
        · by_cases e4 : ca1 = d1
          · refine ⟨1, Or.inl ⟨rfl, by rw [if_neg e3, if_neg (e1 ▸ e3), e2, e4]⟩, cc44.trans ?_⟩
            refine XS.icmpNo X41.here hx rfl (own_d hby at_139) rfl (ii_ne_f e1) ?_
            refine XS.iload X41.here hx rfl (own_d hby at_142) rfl ?_
            refine XS.iload X41.here hx rfl (own_d hby at_144) rfl ?_
            refine XS.icmpNo X41.here hx rfl (own_d hby at_146) rfl (ii_ne_f e2) ?_
            refine XS.iload X41.here hx rfl (own_d hby at_149) rfl ?_
            refine XS.ifNo X41.here hx rfl (own_d hby at_151) rfl (i0_eq_f e3) ?_
            refine XS.iload X41.here hx rfl (own_d hby at_154) rfl ?_
            refine XS.iload X41.here hx rfl (own_d hby at_156) rfl ?_
            refine XS.icmpNo X41.here hx rfl (own_d hby at_158) rfl (ii_ne_f e4) ?_
            refine iconstV X41.here hx rfl 1 (own_d hby at_161) (by decide) ?_
            refine XS.goto X41.here hx rfl (pc0 := 162) rfl (own_d hby at_162) (by decide) rfl ?_
            exact Steps.refl _
          · refine ⟨0, Or.inr ⟨rfl, by rw [if_neg e3, if_neg (e1 ▸ e3)]; simp [e4]⟩, cc44.trans ?_⟩
            refine XS.icmpNo X41.here hx rfl (own_d hby at_139) rfl (ii_ne_f e1) ?_
            refine XS.iload X41.here hx rfl (own_d hby at_142) rfl ?_
            refine XS.iload X41.here hx rfl (own_d hby at_144) rfl ?_
            refine XS.icmpNo X41.here hx rfl (own_d hby at_146) rfl (ii_ne_f e2) ?_
            refine XS.iload X41.here hx rfl (own_d hby at_149) rfl ?_
            refine XS.ifNo X41.here hx rfl (own_d hby at_151) rfl (i0_eq_f e3) ?_
            refine XS.iload X41.here hx rfl (own_d hby at_154) rfl ?_
            refine XS.iload X41.here hx rfl (own_d hby at_156) rfl ?_
            refine XS.icmpYes X41.here hx rfl (pc0 := 158) rfl (own_d hby at_158) rfl (ii_ne_t e4) (by decide) rfl ?_
            refine iconstV X41.here hx rfl 0 (own_d hby at_165) (by decide) ?_
            exact Steps.refl _
      · refine ⟨0, Or.inr ⟨rfl, by subst e1; by_cases e3 : ta = 0 <;> simp [e3, e2]⟩, cc44.trans ?_⟩
        refine XS.icmpNo X41.here hx rfl (own_d hby at_139) rfl (ii_ne_f e1) ?_
        refine XS.iload X41.here hx rfl (own_d hby at_142) rfl ?_
        refine XS.iload X41.here hx rfl (own_d hby at_144) rfl ?_
        refine XS.icmpYes X41.here hx rfl (pc0 := 146) rfl (own_d hby at_146) rfl (ii_ne_t e2) (by decide) rfl ?_
        refine iconstV X41.here hx rfl 0 (own_d hby at_165) (by decide) ?_
        exact Steps.refl _
    · refine ⟨0, Or.inr ⟨rfl, by rcases zta with q | q <;> rcases ztc with q' | q' <;> subst q <;> subst q' <;> first | exact absurd rfl e1 | simp⟩, cc44.trans ?_⟩
      refine XS.icmpYes X41.here hx rfl (pc0 := 139) rfl (own_d hby at_139) rfl (ii_ne_t e1) (by decide) rfl ?_
      refine iconstV X41.here hx rfl 0 (own_d hby at_165) (by decide) ?_
      exact Steps.refl _
  have cc46 : Steps p.tables e below S0' (T41.setTop (mkF m 172 #[.val (.int p1), .val (.int p2), .val (.int p3), .val (.int p4), .val (.int p5), .val (.int wa), .val (.int wb), .val (.int ta), .val (.int tc), .val (.int ca0), .val (.int ca1), .val (.int d0), .val (.int d1), .val (.ref x), .val (.ref y), .val (.int ex)] [(.ref y), (.ref x)])) := Steps.trans c_ex (by
    refine XS.istore X41.here hx rfl (own_d hby at_166) rfl rfl ?_
    refine XS.aload X41.here hx rfl (own_d hby at_168) rfl rfl ?_
    refine XS.aload X41.here hx rfl (own_d hby at_170) rfl rfl ?_
    exact Steps.refl _)
  have fa45 : Old Z n0 T41.heap := (fa39.keep Kq41 all0)
  obtain ⟨_, _, ⟨T47, L47, k47, n47⟩, -, X47, hs47, gr47, ⟨Lc47, hQ47, l47, y47, z47, CH47⟩, st47⟩ := callSS X41 hx (y := (⟨"com/example/feedwright/feedwright/http/EntityTags", "matchWeakly", "(Ljava/lang/String;Ljava/lang/String;)Z"⟩ : MethodName)) hown (mvT hZ (hw _ (List.mem_of_getElem? (i := 37) rfl))) (mvT hZ (hw _ (List.mem_of_getElem? (i := 38) rfl))) (mvT hZ w_39) (mvT hZ w_40) (by decide) (backOfSH (W := 0) (own_match l Z a0 hw x y csx (if ta = 0 then [34, ca0, 34] else [34, ca0, ca1, 34] : List Int32) csy (if tc = 0 then [34, d0, 34] else [34, d0, d1, 34] : List Int32) z f T41.heap n0 Zs2 fa45 O2 P5 O4 hf Hx' (hcx.imp (fun q => ⟨q, by by_cases e : ta = 0 <;> simp [e], by by_cases e : ta = 0 <;> simp [e]⟩) (fun q => ⟨q, by by_cases e : ta = 0 <;> simp [e]⟩)) Hy (hcy.imp (fun q => ⟨q, by by_cases e : tc = 0 <;> simp [e], by by_cases e : tc = 0 <;> simp [e]⟩) (fun q => ⟨q, by by_cases e : tc = 0 <;> simp [e]⟩))) hZ w_40 w_39 (by decide) (by decide) hEL C43.1) (g := (mkF m 172 #[.val (.int p1), .val (.int p2), .val (.int p3), .val (.int p4), .val (.int p5), .val (.int wa), .val (.int wb), .val (.int ta), .val (.int tc), .val (.int ca0), .val (.int ca1), .val (.int d0), .val (.int d1), .val (.ref x), .val (.ref y), .val (.int ex)] [(.ref y), (.ref x)])) rfl (by rw [hml]; rfl) (argsL := [(.ref x), (.ref y)]) (rest := []) (lenOf own_pd20 rfl) rfl (by show 2 * 0 + _ ≤ _; exact Nat.le_of_eq rfl) (own_d hby at_172) (fun _ _ => ⟨rfl, e41, Nat.le_of_ble_eq_true rfl, Nat.le_of_ble_eq_true rfl⟩)
  dsimp only [Pt.U, Pt.locs, Pt.cells, Pt.slots] at X47 l47 y47 z47 st47 hQ47 hs47 gr47 CH47
  subst l47 y47 z47
  obtain ⟨rr, rfl, Nq47, Kq47, hr⟩ := hQ47
  obtain ⟨Xr47, hS47, hZ47, hown47⟩ := rebS hS0 (by rw [e41]; exact (Nat.le_trans (Nat.le_trans hk0 Kq36.1) Kq41.1)) X47 hs47 gr47 hZ hown
  have hk47 : T47.heap.size ≤ T47.heap.size := Nat.le_refl _
  have C47 := C43.trans CH47
  have N47 := Fr.app N41 Nq47
  have KK3 : Keep h0 T47.heap ([] : List Addr) := KK2.trans Kq47 all0
  have Zs3 : n0 ≤ T47.heap.size := Nat.le_trans Zs2 Kq47.1
  have e47 : T47.heap = T47.heap := rfl
  have cc48 : Steps p.tables e below S0' (T47.setTop (mkF m 185 #[.val (.int p1), .val (.int p2), .val (.int p3), .val (.int p4), .val (.int p5), .val (.int wa), .val (.int wb), .val (.int ta), .val (.int tc), .val (.int ca0), .val (.int ca1), .val (.int d0), .val (.int d1), .val (.ref x), .val (.ref y), .val (.int ex)] [(.int 1)])) := Steps.trans (Steps.trans cc46 st47) (by
    refine XS.iload Xr47.here hx rfl (own_d hby at_175) rfl ?_
    refine XS.icmpNo Xr47.here hx rfl (own_d hby at_177) rfl (ii_ne_f (by rcases hr with ⟨rfl, q⟩ | ⟨rfl, q⟩ <;> rcases hex with ⟨rfl, q'⟩ | ⟨rfl, q'⟩ <;> first | rfl | exact absurd q q' | exact absurd q' q)) ?_
    refine iconstV Xr47.here hx rfl 1 (own_d hby at_180) (by decide) ?_
    refine XS.goto Xr47.here hx rfl (pc0 := 181) rfl (own_d hby at_181) (by decide) rfl ?_
    exact Steps.refl _)
  have cE := cc48
  rw [hS0'] at cE
  obtain ⟨fs, hr_, hrun, hended, hE⟩ := Xr47.leaveW hS47 (by rw [e47]; exact hk47) (v := some (.int 1)) (fun h => by rw [Bd.returns] at h; cases h)
  have CE := C47.trans (CHv.at Xr47 hZ47 hEL C47.1)
  refine ⟨_, _, cE.trans (Xr47.ireturnOut hx Bd.returns (rfl) (by simp) (own_d hby at_185) hr_), hrun, hended, _, _, rfl, ?_, ?_, hE.1, hE.2.1, hE.2.2.1, hE.2.2.2.mono (by first | decide | omega) (by first | decide | omega)⟩
  · show Q_own_law Z p1 p2 p3 p4 p5 z f h0 n0 _ T47.heap _
    rw [e47]
    exact ⟨rfl, N47⟩
  · rw [hh]
    show CHr Z EL s.vm h0 T47.vm T47.heap
    rw [e47]
    exact CE
theorem own_eqS {args : Array Value} {s : State} {C n d : String} {k : Int32} (h : (Jvm.Cond.eq (Term.static C n d) (Term.int k)).before args s = true) : (Term.static C n d).eval args s none [] s = some (.int k) := by
  have hv := Cond.before_iff.mp h
  obtain ⟨a, b, ha, hb, -, hk⟩ := cmp_v (Or.inl hv)
  obtain rfl : b = .int k := Option.some.inj (hb.symm.trans (Term.int_eval k))
  obtain ⟨z, rfl⟩ := hk
  have e : z = k := gotT (Cond.eq_ints ha (Term.int_eval k)) hv
  rw [ha, e]
set_option maxRecDepth 65536 in
set_option maxHeartbeats 40000000 in
theorem comes_1 {Post : Tables → Env → Array Value → State → Outcome → State → Prop} (hpost : ∀ tb e args s v u, (limb_1_1.after args s (.returned v) u = true ∧ limb_1_2.after args s (.returned v) u = true ∧ True) → ReturnedEndW s (.returned v) u (Jvm.fieldLocs frame_1_writes args s ++ Jvm.arrayLocs frame_1_arrays args s ++ Jvm.staticLocs frame_1_statics s) 32 1216 → Post tb e args s (.returned v) u) :
    ArmFor flags0 classFile x code maxLocals ret World_1 tables_1 room_1 Calls_1 rest_1 Pre_1 Post := by
  intro l hfl _ _ p e ha hc hk s m args below hf hA hF happ hP
  obtain ⟨hcalls, hrest, hpre⟩ := hP
  obtain ⟨-, -, -, hnamed, -, -, -, hat⟩ := (Spec.applies_iff hf).mp happ
  obtain ⟨hg, hn⟩ := and_e (Cond.before_iff.mp (show (Jvm.Cond.and given_1 narrow_1).before args s = true from hpre))
  obtain ⟨hcnt, g0⟩ := and_e hg
  obtain ⟨hi0, g1⟩ := and_e g0
  obtain ⟨hi1, g2⟩ := and_e g1
  obtain ⟨hi2, g3⟩ := and_e g2
  obtain ⟨hi3, g4⟩ := and_e g3
  obtain ⟨w0, w1, w2, w3, w4, rfl⟩ : ∃ w0 w1 w2 w3 w4 : Value, args = #[w0, w1, w2, w3, w4] := by
    have hs : args.size = 5 := by simpa [Cond.value, given_1] using hcnt
    obtain ⟨L⟩ := args
    match L, hs with
    | [w0, w1, w2, w3, w4], _ => exact ⟨w0, w1, w2, w3, w4, rfl⟩
  have hw := fun d (hd : d ∈ tables_1) => atoms_spec (ws := Jvm.Cond.code x code maxLocals ret :: tables_1) hat d (List.mem_cons_of_mem _ hd)
  obtain ⟨hsets, hown0⟩ := atoms_of _ (rest_1_c_eq ▸ (show rest_1_c.before _ s = true from hrest))
  obtain ⟨i0, e0⟩ := is_v hi0
  obtain rfl : w0 = (.int i0) := Option.some.inj e0
  obtain ⟨i1, e1⟩ := is_v hi1
  obtain rfl : w1 = (.int i1) := Option.some.inj e1
  obtain ⟨i2, e2⟩ := is_v hi2
  obtain rfl : w2 = (.int i2) := Option.some.inj e2
  obtain ⟨i3, e3⟩ := is_v hi3
  obtain rfl : w3 = (.int i3) := Option.some.inj e3
  obtain ⟨i4, e4⟩ := is_v g4
  obtain rfl : w4 = (.int i4) := Option.some.inj e4
  have n5 := not_v (Cond.before_iff.mp (hsets _ (List.mem_of_getElem? (i := 2) rfl)))
  obtain ⟨z, ez⟩ := is_v (Cond.before_iff.mp (hsets _ (List.mem_of_getElem? (i := 1) rfl)))
  have S12 : Sta s s.heap "java/lang/String" "COMPACT_STRINGS" "Z" (.int z) := Sta.start ez (Or.inl (hsets _ (List.mem_of_getElem? (i := 0) rfl)))
  have c17 : ¬ (z = (0 : Int32)) := gotF (Cond.eq_ints ez (Term.int_eval (0))) n5
  obtain ⟨G3, e14, rG3⟩ := isR_v (Cond.before_iff.mp (hsets _ (List.mem_of_getElem? (i := 8) rfl)))
  have O4 : Sta s s.heap "jdk/internal/util/Preconditions" "SIOOBE_FORMATTER" "Ljava/util/function/BiFunction;" G3 := Sta.start e14 (Or.inl (hsets _ (List.mem_of_getElem? (i := 7) rfl)))
  have hCH0 : CHv s EL s.vm s.heap := CHv.start (own_EW hw) (fun p hp => hcalls.1 p hp) (hsets _ (List.mem_of_getElem? (i := 2) rfl)) (hw _ (List.mem_of_getElem? (i := 26) rfl)) (hw _ (List.mem_of_getElem? (i := 8) rfl))
  obtain ⟨n, o, h1, h2, h3, _, L, rfl, ⟨rfl, N⟩, -, hq⟩ := own_law l s _ hw tables_1 i0 i1 i2 i3 i4 z G3 s.heap s.heap.size (Nat.le_refl _) (Old.start s) S12 c17 O4 rG3 p e ha hc hk s m _ below hf ((Spec.applies_iff_loose hf).mp happ).1 ⟨rfl, State.Warmed39.refl s, rfl, hCH0⟩ trivial
  refine ⟨n, _, h1, h2, h3, hpost _ _ _ _ _ _ ⟨Cond.after_iff.mpr rfl, Cond.after_iff.mpr (eq_i res_at (Term.int_eval (1)) rfl), trivial⟩ ⟨hq.1, hq.2.1, hq.2.2.1, (hq.2.2.2.sift fun y hy => Or.inr (N y hy)).mono (by decide) (by decide)⟩⟩
theorem main_1_1 : Claimed_1_1 := comes_1 fun _ _ _ _ _ _ h hF => ⟨h.1, hF⟩
theorem main_1_2 : Claimed_1_2 := comes_1 fun _ _ _ _ _ _ h hF => ⟨h.2.1, hF⟩
end Jvm.Pilot.@@N@@
namespace Jvm.Pilot.@@N@@
open Jvm Jvm.ClassFile Sem Op Lib Jvm.Free Jvm.Stand Jvm.Pilot.@@N@@.Jvm.D
/-! MADE BY PROGRAM (witnessworld.py) out of the Statement's table words and the real class files: 23 classes; the members and pool entries that the words name. The judged class is class 1, her method 1. -/
namespace start1
open Jvm.ClassFile
def u (s : String) : CpInfo := .utf8 (stringToUtf16 s)
/-- a pool by its gaps: so many unusable entries, then the entry; so many at the end -/
def gap : Nat → List CpInfo → List CpInfo
  | 0, r => r
  | n + 1, r => .unusable :: gap n r
def poolList (es : List (Nat × CpInfo)) (last : Nat) : List CpInfo := es.foldr (fun e r => gap e.1 (e.2 :: r)) (gap last [])
def pool (es : List (Nat × CpInfo)) (last : Nat) : Array CpInfo := ⟨poolList es last⟩
def fileOf (pool : Array CpInfo) (this : Nat) (attrs : Array Attribute := #[]) (ms : Array MethodInfo := #[]) (fl : Nat := 33) (sup : Nat := 0) (ifs : Array Nat := #[]) (fds : Array FieldInfo := #[]) : ClassFile where
  minorVersion := 0
  majorVersion := 65
  constantPool := pool
  accessFlags := fl
  thisClass := this
  superClass := sup
  interfaces := ifs
  fields := fds
  methods := ms
  attributes := attrs
def plain (name : String) (sup : Option ClassId) : Class where
  name := name
  kind := .ordinary
  loader := none
  accessFlags := 33
  super := sup
  interfaces := #[]
  cf := none
  fields := #[]
  methods := #[]
  instanceTypes := #[]
  staticTypes := #[]
  resolved := #[]
  callSites := []
  init := .initialized
  statics := none
  mirror := none

def pool0 : Array CpInfo := pool [(5, u "<init>"), (0, u "()V"), (1, .class_ 10), (1, u "java/lang/Object")] 113

def k0c0 : Code := { maxStack := 0, maxLocals := 1, code := object_method_1_code, exceptionTable := #[], attributes := #[] }
def k0m0 : Method := { name := "<init>", desc := "()V", sig := { parameters := [], returnType := none }, accessFlags := 1, code := some k0c0 }
/-- java/lang/Object -/
def k0 : Class := { plain "java/lang/Object" none with
  accessFlags := 33
  interfaces := #[]
  cf := some (fileOf pool0 8 #[] #[{ accessFlags := 1, nameIndex := 5, descriptorIndex := 6, attributes := #[] }] 33 0 #[] #[])
  fields := #[]
  methods := #[k0m0]
  instanceTypes := #[]
  staticTypes := #[]
  resolved := Array.replicate 124 none
  statics := none }

def pool1 : Array CpInfo := pool [(2, .class_ 4), (1, u "java/lang/Object"), (0, u "<init>"), (0, u "()V"), (0, .methodref 8 9), (0, .class_ 10), (0, .nameAndType 11 12), (0, u "com/example/feedwright/feedwright/http/EntityTagsMatchWeaklyPinLaw"), (0, u "ch"), (0, u "(I)C"), (0, .methodref 8 14), (0, .nameAndType 15 16), (0, u "tag"), (0, u "(ZZCC)Ljava/lang/String;"), (0, .methodref 18 19), (0, .class_ 20), (0, .nameAndType 21 22), (0, u "com/example/feedwright/feedwright/http/EntityTags"), (0, u "matchWeakly"), (0, u "(Ljava/lang/String;Ljava/lang/String;)Z"), (0, .class_ 24), (0, u "java/lang/String"), (0, .methodref 23 26), (0, .nameAndType 5 27), (0, u "([C)V"), (2, u "law"), (0, u "(IIIII)Z")] 3

def k1m0 : Method := { name := "<init>", desc := "()V", sig := { parameters := [], returnType := none }, accessFlags := 2, code := none }
def k1c1 : Code := { maxStack := 4, maxLocals := 16, code := code, exceptionTable := #[], attributes := #[] }
def k1m1 : Method := { name := "law", desc := "(IIIII)Z", sig := { parameters := [.int, .int, .int, .int, .int], returnType := some .boolean }, accessFlags := 9, code := some k1c1 }
def k1c2 : Code := { maxStack := 2, maxLocals := 2, code := method_3_code, exceptionTable := #[], attributes := #[] }
def k1m2 : Method := { name := "ch", desc := "(I)C", sig := { parameters := [.int], returnType := some .char }, accessFlags := 10, code := some k1c2 }
def k1c3 : Code := { maxStack := 6, maxLocals := 4, code := method_4_code, exceptionTable := #[], attributes := #[] }
def k1m3 : Method := { name := "tag", desc := "(ZZCC)Ljava/lang/String;", sig := { parameters := [.boolean, .boolean, .char, .char], returnType := some (.object "java/lang/String") }, accessFlags := 10, code := some k1c3 }
/-- com/example/feedwright/feedwright/http/EntityTagsMatchWeaklyPinLaw -/
def k1 : Class := { plain "com/example/feedwright/feedwright/http/EntityTagsMatchWeaklyPinLaw" (some 0) with
  accessFlags := 49
  interfaces := #[]
  cf := some (fileOf pool1 8 #[] #[{ accessFlags := 2, nameIndex := 5, descriptorIndex := 6, attributes := #[] }, { accessFlags := 9, nameIndex := 30, descriptorIndex := 31, attributes := #[] }, { accessFlags := 10, nameIndex := 11, descriptorIndex := 12, attributes := #[] }, { accessFlags := 10, nameIndex := 15, descriptorIndex := 16, attributes := #[] }] 49 2 #[] #[])
  fields := #[]
  methods := #[k1m0, k1m1, k1m2, k1m3]
  instanceTypes := #[]
  staticTypes := #[]
  resolved := Array.replicate 35 none
  statics := none }

def pool2 : Array CpInfo := pool [(1, .class_ 2), (0, u "java/io/Serializable"), (0, .class_ 4), (0, u "java/lang/Object")] 2

/-- java/io/Serializable -/
def k2 : Class := { plain "java/io/Serializable" (some 0) with
  accessFlags := 1537
  interfaces := #[]
  cf := some (fileOf pool2 1 #[] #[] 1537 3 #[] #[])
  fields := #[]
  methods := #[]
  instanceTypes := #[]
  staticTypes := #[]
  resolved := Array.replicate 7 none
  statics := none }

def pool3 : Array CpInfo := pool [(1, .class_ 2), (0, u "java/lang/Comparable"), (0, .class_ 4), (0, u "java/lang/Object")] 7

/-- java/lang/Comparable -/
def k3 : Class := { plain "java/lang/Comparable" (some 0) with
  accessFlags := 1537
  interfaces := #[]
  cf := some (fileOf pool3 1 #[] #[] 1537 3 #[] #[])
  fields := #[]
  methods := #[]
  instanceTypes := #[]
  staticTypes := #[]
  resolved := Array.replicate 12 none
  statics := none }

def pool4 : Array CpInfo := pool [(2, .class_ 4), (1, u "java/lang/CharSequence"), (42, .class_ 48), (0, u "java/lang/CharSequence$1CodePointIterator"), (10, .class_ 60), (0, u "java/lang/CharSequence$1CharIterator"), (5, .class_ 67), (0, u "java/lang/Object")] 63

/-- java/lang/CharSequence -/
def k4 : Class := { plain "java/lang/CharSequence" (some 0) with
  accessFlags := 1537
  interfaces := #[]
  cf := some (fileOf pool4 2 #[.nestMembers #[47, 59]] #[] 1537 66 #[] #[])
  fields := #[]
  methods := #[]
  instanceTypes := #[]
  staticTypes := #[]
  resolved := Array.replicate 131 none
  statics := none }

def pool5 : Array CpInfo := pool [(1, .class_ 2), (0, u "java/lang/constant/Constable"), (0, .class_ 4), (0, u "java/lang/Object")] 6

/-- java/lang/constant/Constable -/
def k5 : Class := { plain "java/lang/constant/Constable" (some 0) with
  accessFlags := 1537
  interfaces := #[]
  cf := some (fileOf pool5 1 #[] #[] 1537 3 #[] #[])
  fields := #[]
  methods := #[]
  instanceTypes := #[]
  staticTypes := #[]
  resolved := Array.replicate 11 none
  statics := none }

def pool6 : Array CpInfo := pool [(1, .class_ 2), (0, u "java/lang/constant/ConstantDesc"), (0, .class_ 4), (0, u "java/lang/Object")] 32

/-- java/lang/constant/ConstantDesc -/
def k6 : Class := { plain "java/lang/constant/ConstantDesc" (some 0) with
  accessFlags := 1537
  interfaces := #[]
  cf := some (fileOf pool6 1 #[] #[] 1537 3 #[] #[])
  fields := #[]
  methods := #[]
  instanceTypes := #[]
  staticTypes := #[]
  resolved := Array.replicate 37 none
  statics := none }

def pool7 : Array CpInfo := pool [(1, .methodref 2 3), (0, .class_ 4), (0, .nameAndType 5 6), (0, u "java/lang/Object"), (0, u "<init>"), (0, u "()V"), (2, .fieldref 10 11), (0, .class_ 12), (0, .nameAndType 13 14), (0, u "java/lang/String"), (0, u "value"), (0, u "[B"), (0, .fieldref 10 16), (0, .nameAndType 17 18), (0, u "coder"), (0, u "B"), (2, u "hash"), (0, u "I"), (2, u "hashIsZero"), (0, u "Z"), (0, .methodref 10 28), (0, .nameAndType 5 29), (0, u "([CIILjava/lang/Void;)V"), (8, .fieldref 10 39), (0, .nameAndType 40 26), (0, u "COMPACT_STRINGS"), (1, .class_ 44), (1, u "java/lang/StringUTF16"), (0, u "compress"), (1, .methodref 42 48), (0, .nameAndType 49 50), (0, u "coderFromArrayLen"), (0, u "([BI)B"), (56, .class_ 109), (1, u "java/lang/StringLatin1"), (32, u "()Z"), (34, .methodref 42 178), (0, .nameAndType 45 179), (0, u "([CII)[B"), (31, u "([BB)V"), (122, u "()I"), (0, .methodref 10 336), (0, .nameAndType 17 337), (0, u "()B"), (38, u "([BI[BII)I"), (115, .methodref 10 493), (0, .nameAndType 494 142), (0, u "isLatin1"), (10, .methodref 10 506), (0, .nameAndType 507 334), (0, u "length"), (5, u "checkFromToIndex"), (7, .methodref 10 522), (0, .nameAndType 523 524), (0, u "checkBoundsBeginEnd"), (0, u "(III)V"), (16, .methodref 107 542), (0, .nameAndType 543 544), (0, u "equals"), (0, u "([B[B)Z"), (14, .class_ 561), (1, u "jdk/internal/util/ArraysSupport"), (0, u "mismatch"), (10, u "(Ljava/lang/Object;)Z"), (1, .class_ 576), (0, u "java/lang/CharSequence"), (22, u "CASE_INSENSITIVE_ORDER"), (0, u "Ljava/util/Comparator;"), (6, .methodref 559 608), (0, .nameAndType 562 376), (15, .methodref 10 625), (0, .nameAndType 626 627), (0, u "startsWith"), (0, u "(Ljava/lang/String;I)Z"), (53, .methodref 10 682), (0, .nameAndType 683 684), (0, u "substring"), (0, u "(II)Ljava/lang/String;"), (0, .methodref 107 686), (0, .nameAndType 687 688), (0, u "newString"), (0, u "([BII)Ljava/lang/String;"), (203, u "(I)Ljava/lang/String;"), (117, u "([C)V"), (42, .fieldref 1054 1055), (0, .class_ 1056), (0, .nameAndType 1057 1058), (0, u "jdk/internal/util/Preconditions"), (0, u "SIOOBE_FORMATTER"), (0, u "Ljava/util/function/BiFunction;"), (3, .methodref 1054 1063), (0, .nameAndType 513 1064), (0, u "(IIILjava/util/function/BiFunction;)I"), (36, u "serialPersistentFields"), (0, u "[Ljava/io/ObjectStreamField;"), (0, .class_ 1104), (0, u "java/lang/String$CaseInsensitiveComparator"), (1, .class_ 1107), (0, u "java/io/Serializable"), (0, .class_ 1109), (0, u "java/lang/Comparable"), (0, .class_ 1111), (0, u "java/lang/constant/Constable"), (0, .class_ 1113), (0, u "java/lang/constant/ConstantDesc"), (2, u "serialVersionUID"), (0, u "J"), (3, u "REPL"), (0, u "C"), (2, u "LATIN1"), (1, u "UTF16"), (129, u "(Ljava/lang/String;)Z")] 193

def k7m0 : Method := { name := "<init>", desc := "()V", sig := { parameters := [], returnType := none }, accessFlags := 1, code := none }
def k7c1 : Code := { maxStack := 5, maxLocals := 2, code := jdk_42_method_3_code, exceptionTable := #[], attributes := #[] }
def k7m1 : Method := { name := "<init>", desc := "([C)V", sig := { parameters := [(.array .char)], returnType := none }, accessFlags := 1, code := some k7c1 }
def k7c2 : Code := { maxStack := 2, maxLocals := 1, code := jdk_42_method_54_code, exceptionTable := #[], attributes := #[] }
def k7m2 : Method := { name := "length", desc := "()I", sig := { parameters := [], returnType := some .int }, accessFlags := 1, code := some k7c2 }
def k7c3 : Code := { maxStack := 2, maxLocals := 3, code := jdk_42_method_66_code, exceptionTable := #[], attributes := #[] }
def k7m3 : Method := { name := "equals", desc := "(Ljava/lang/Object;)Z", sig := { parameters := [(.object "java/lang/Object")], returnType := some .boolean }, accessFlags := 1, code := some k7c3 }
def k7c4 : Code := { maxStack := 5, maxLocals := 8, code := jdk_42_method_75_code, exceptionTable := #[], attributes := #[] }
def k7m4 : Method := { name := "startsWith", desc := "(Ljava/lang/String;I)Z", sig := { parameters := [(.object "java/lang/String"), .int], returnType := some .boolean }, accessFlags := 1, code := some k7c4 }
def k7c5 : Code := { maxStack := 3, maxLocals := 2, code := jdk_42_method_76_code, exceptionTable := #[], attributes := #[] }
def k7m5 : Method := { name := "startsWith", desc := "(Ljava/lang/String;)Z", sig := { parameters := [(.object "java/lang/String")], returnType := some .boolean }, accessFlags := 1, code := some k7c5 }
def k7c6 : Code := { maxStack := 3, maxLocals := 2, code := jdk_42_method_91_code, exceptionTable := #[], attributes := #[] }
def k7m6 : Method := { name := "substring", desc := "(I)Ljava/lang/String;", sig := { parameters := [.int], returnType := some (.object "java/lang/String") }, accessFlags := 1, code := some k7c6 }
def k7c7 : Code := { maxStack := 3, maxLocals := 5, code := jdk_42_method_92_code, exceptionTable := #[], attributes := #[] }
def k7m7 : Method := { name := "substring", desc := "(II)Ljava/lang/String;", sig := { parameters := [.int, .int], returnType := some (.object "java/lang/String") }, accessFlags := 1, code := some k7c7 }
def k7c8 : Code := { maxStack := 4, maxLocals := 6, code := jdk_42_method_149_code, exceptionTable := #[], attributes := #[] }
def k7m8 : Method := { name := "<init>", desc := "([CIILjava/lang/Void;)V", sig := { parameters := [(.array .char), .int, .int, (.object "java/lang/Void")], returnType := none }, accessFlags := 2, code := some k7c8 }
def k7c9 : Code := { maxStack := 2, maxLocals := 3, code := jdk_42_method_151_code, exceptionTable := #[], attributes := #[] }
def k7m9 : Method := { name := "<init>", desc := "([BB)V", sig := { parameters := [(.array .byte), .byte], returnType := none }, accessFlags := 0, code := some k7c9 }
def k7c10 : Code := { maxStack := 1, maxLocals := 1, code := jdk_42_method_152_code, exceptionTable := #[], attributes := #[] }
def k7m10 : Method := { name := "coder", desc := "()B", sig := { parameters := [], returnType := some .byte }, accessFlags := 0, code := some k7c10 }
def k7c11 : Code := { maxStack := 1, maxLocals := 1, code := jdk_42_method_154_code, exceptionTable := #[], attributes := #[] }
def k7m11 : Method := { name := "isLatin1", desc := "()Z", sig := { parameters := [], returnType := some .boolean }, accessFlags := 0, code := some k7c11 }
def k7c12 : Code := { maxStack := 4, maxLocals := 3, code := jdk_42_method_158_code, exceptionTable := #[], attributes := #[] }
def k7m12 : Method := { name := "checkBoundsBeginEnd", desc := "(III)V", sig := { parameters := [.int, .int, .int], returnType := none }, accessFlags := 8, code := some k7c12 }
/-- java/lang/String -/
def k7 : Class := { plain "java/lang/String" (some 0) with
  accessFlags := 49
  interfaces := #[2, 3, 4, 5, 6]
  cf := some (fileOf pool7 10 #[.nestMembers #[1103]] #[{ accessFlags := 1, nameIndex := 5, descriptorIndex := 6, attributes := #[] }, { accessFlags := 1, nameIndex := 5, descriptorIndex := 1010, attributes := #[] }, { accessFlags := 1, nameIndex := 507, descriptorIndex := 334, attributes := #[] }, { accessFlags := 1, nameIndex := 543, descriptorIndex := 573, attributes := #[] }, { accessFlags := 1, nameIndex := 626, descriptorIndex := 627, attributes := #[] }, { accessFlags := 1, nameIndex := 626, descriptorIndex := 1257, attributes := #[] }, { accessFlags := 1, nameIndex := 683, descriptorIndex := 892, attributes := #[] }, { accessFlags := 1, nameIndex := 683, descriptorIndex := 684, attributes := #[] }, { accessFlags := 2, nameIndex := 5, descriptorIndex := 29, attributes := #[] }, { accessFlags := 0, nameIndex := 5, descriptorIndex := 211, attributes := #[] }, { accessFlags := 0, nameIndex := 17, descriptorIndex := 337, attributes := #[] }, { accessFlags := 0, nameIndex := 494, descriptorIndex := 142, attributes := #[] }, { accessFlags := 8, nameIndex := 523, descriptorIndex := 524, attributes := #[] }] 49 2 #[1106, 1108, 575, 1110, 1112] #[{ accessFlags := 18, nameIndex := 13, descriptorIndex := 14, attributes := #[] }, { accessFlags := 18, nameIndex := 17, descriptorIndex := 18, attributes := #[] }, { accessFlags := 2, nameIndex := 21, descriptorIndex := 22, attributes := #[] }, { accessFlags := 2, nameIndex := 25, descriptorIndex := 26, attributes := #[] }, { accessFlags := 26, nameIndex := 1116, descriptorIndex := 1117, attributes := #[] }, { accessFlags := 24, nameIndex := 40, descriptorIndex := 26, attributes := #[] }, { accessFlags := 26, nameIndex := 1101, descriptorIndex := 1102, attributes := #[] }, { accessFlags := 26, nameIndex := 1121, descriptorIndex := 1122, attributes := #[] }, { accessFlags := 25, nameIndex := 599, descriptorIndex := 600, attributes := #[] }, { accessFlags := 24, nameIndex := 1125, descriptorIndex := 18, attributes := #[] }, { accessFlags := 24, nameIndex := 1127, descriptorIndex := 18, attributes := #[] }])
  fields := #[{ name := "value", type := (.array .byte), accessFlags := 18, slot := 0, constantValue := 0 }, { name := "coder", type := .byte, accessFlags := 18, slot := 1, constantValue := 0 }, { name := "hash", type := .int, accessFlags := 2, slot := 2, constantValue := 0 }, { name := "hashIsZero", type := .boolean, accessFlags := 2, slot := 3, constantValue := 0 }, { name := "serialVersionUID", type := .long, accessFlags := 26, slot := 0, constantValue := 0 }, { name := "COMPACT_STRINGS", type := .boolean, accessFlags := 24, slot := 1, constantValue := 0 }, { name := "serialPersistentFields", type := (.array (.object "java/io/ObjectStreamField")), accessFlags := 26, slot := 2, constantValue := 0 }, { name := "REPL", type := .char, accessFlags := 26, slot := 3, constantValue := 0 }, { name := "CASE_INSENSITIVE_ORDER", type := (.object "java/util/Comparator"), accessFlags := 25, slot := 4, constantValue := 0 }, { name := "LATIN1", type := .byte, accessFlags := 24, slot := 5, constantValue := 0 }, { name := "UTF16", type := .byte, accessFlags := 24, slot := 6, constantValue := 0 }]
  methods := #[k7m0, k7m1, k7m2, k7m3, k7m4, k7m5, k7m6, k7m7, k7m8, k7m9, k7m10, k7m11, k7m12]
  instanceTypes := #[(.array .byte), .byte, .int, .boolean]
  staticTypes := #[.long, .boolean, (.array (.object "java/io/ObjectStreamField")), .char, (.object "java/util/Comparator"), .byte, .byte]
  resolved := Array.replicate 1451 none
  statics := some 0 }

def pool8 : Array CpInfo := pool [(6, .class_ 8), (1, u "java/lang/Object"), (0, u "<init>"), (0, u "()V"), (1, .class_ 14), (1, u "java/lang/StringUTF16"), (31, u "$assertionsDisabled"), (0, u "Z"), (13, u "HI_BYTE_SHIFT"), (0, u "I"), (2, u "LO_BYTE_SHIFT"), (49, .methodref 12 116), (0, .nameAndType 117 118), (0, u "compress"), (0, u "([CI[BII)I"), (3, u "([CII)[B"), (138, u "coderFromArrayLen"), (0, u "([BI)B"), (106, .class_ 371), (1, u "java/lang/StringUTF16$LinesSpliterator"), (58, u "MAX_LENGTH"), (196, .class_ 628), (0, u "java/lang/StringUTF16$CodePointsSpliterator"), (0, .class_ 630), (0, u "java/lang/StringUTF16$CharsSpliterator")] 4

def k8m0 : Method := { name := "<init>", desc := "()V", sig := { parameters := [], returnType := none }, accessFlags := 0, code := none }
def k8c1 : Code := { maxStack := 2, maxLocals := 2, code := jdk_52_method_15_code, exceptionTable := #[], attributes := #[] }
def k8m1 : Method := { name := "coderFromArrayLen", desc := "([BI)B", sig := { parameters := [(.array .byte), .int], returnType := some .byte }, accessFlags := 8, code := some k8c1 }
def k8c2 : Code := { maxStack := 5, maxLocals := 6, code := jdk_52_method_16_code, exceptionTable := #[], attributes := #[] }
def k8m2 : Method := { name := "compress", desc := "([CII)[B", sig := { parameters := [(.array .char), .int, .int], returnType := some (.array .byte) }, accessFlags := 9, code := some k8c2 }
def k8c3 : Code := { maxStack := 3, maxLocals := 7, code := jdk_52_method_21_code, exceptionTable := #[], attributes := #[] }
def k8m3 : Method := { name := "compress", desc := "([CI[BII)I", sig := { parameters := [(.array .char), .int, (.array .byte), .int, .int], returnType := some .int }, accessFlags := 9, code := some k8c3 }
/-- java/lang/StringUTF16 -/
def k8 : Class := { plain "java/lang/StringUTF16" (some 0) with
  accessFlags := 48
  interfaces := #[]
  cf := some (fileOf pool8 12 #[.nestMembers #[627, 629, 369]] #[{ accessFlags := 0, nameIndex := 9, descriptorIndex := 10, attributes := #[] }, { accessFlags := 8, nameIndex := 261, descriptorIndex := 262, attributes := #[] }, { accessFlags := 9, nameIndex := 117, descriptorIndex := 122, attributes := #[] }, { accessFlags := 9, nameIndex := 117, descriptorIndex := 118, attributes := #[] }] 48 6 #[] #[{ accessFlags := 26, nameIndex := 61, descriptorIndex := 62, attributes := #[] }, { accessFlags := 26, nameIndex := 65, descriptorIndex := 62, attributes := #[] }, { accessFlags := 24, nameIndex := 430, descriptorIndex := 62, attributes := #[] }, { accessFlags := 4120, nameIndex := 46, descriptorIndex := 47, attributes := #[] }])
  fields := #[{ name := "HI_BYTE_SHIFT", type := .int, accessFlags := 26, slot := 0, constantValue := 0 }, { name := "LO_BYTE_SHIFT", type := .int, accessFlags := 26, slot := 1, constantValue := 0 }, { name := "MAX_LENGTH", type := .int, accessFlags := 24, slot := 2, constantValue := 0 }, { name := "$assertionsDisabled", type := .boolean, accessFlags := 4120, slot := 3, constantValue := 0 }]
  methods := #[k8m0, k8m1, k8m2, k8m3]
  instanceTypes := #[]
  staticTypes := #[.int, .int, .int, .boolean]
  resolved := Array.replicate 635 none
  statics := none }

def pool9 : Array CpInfo := pool [(1, .class_ 2), (0, u "com/example/feedwright/feedwright/http/EntityTags"), (1, .class_ 6), (1, u "java/lang/Object"), (0, u "<init>"), (0, u "()V"), (2, u "ONE"), (0, u "Ljava/util/regex/Pattern;"), (12, .string 26), (0, u "W/"), (0, .methodref 28 29), (0, .class_ 30), (0, .nameAndType 31 32), (0, u "java/lang/String"), (0, u "startsWith"), (0, u "(Ljava/lang/String;)Z"), (0, .methodref 1 34), (0, .nameAndType 35 36), (0, u "opaque"), (0, u "(Ljava/lang/String;)Ljava/lang/String;"), (0, .methodref 28 38), (0, .nameAndType 39 40), (0, u "equals"), (0, u "(Ljava/lang/Object;)Z"), (0, .methodref 1 42), (0, .nameAndType 43 32), (0, u "isWeak"), (0, .methodref 28 45), (0, .nameAndType 46 47), (0, u "substring"), (0, u "(I)Ljava/lang/String;"), (2, u "ANY_ALONE"), (10, u "LIST"), (23, u "ANY"), (0, u "Ljava/lang/String;"), (1, u "TAG"), (0, u "ELEMENT"), (5, u "matchWeakly"), (0, u "(Ljava/lang/String;Ljava/lang/String;)Z")] 8

def k9m0 : Method := { name := "<init>", desc := "()V", sig := { parameters := [], returnType := none }, accessFlags := 2, code := none }
def k9c1 : Code := { maxStack := 2, maxLocals := 1, code := prog_34_method_3_code, exceptionTable := #[], attributes := #[] }
def k9m1 : Method := { name := "isWeak", desc := "(Ljava/lang/String;)Z", sig := { parameters := [(.object "java/lang/String")], returnType := some .boolean }, accessFlags := 9, code := some k9c1 }
def k9c2 : Code := { maxStack := 2, maxLocals := 2, code := prog_34_method_4_code, exceptionTable := #[], attributes := #[] }
def k9m2 : Method := { name := "matchWeakly", desc := "(Ljava/lang/String;Ljava/lang/String;)Z", sig := { parameters := [(.object "java/lang/String"), (.object "java/lang/String")], returnType := some .boolean }, accessFlags := 8, code := some k9c2 }
def k9c3 : Code := { maxStack := 2, maxLocals := 1, code := prog_34_method_5_code, exceptionTable := #[], attributes := #[] }
def k9m3 : Method := { name := "opaque", desc := "(Ljava/lang/String;)Ljava/lang/String;", sig := { parameters := [(.object "java/lang/String")], returnType := some (.object "java/lang/String") }, accessFlags := 10, code := some k9c3 }
/-- com/example/feedwright/feedwright/http/EntityTags -/
def k9 : Class := { plain "com/example/feedwright/feedwright/http/EntityTags" (some 0) with
  accessFlags := 49
  interfaces := #[]
  cf := some (fileOf pool9 1 #[] #[{ accessFlags := 2, nameIndex := 7, descriptorIndex := 8, attributes := #[] }, { accessFlags := 9, nameIndex := 43, descriptorIndex := 32, attributes := #[] }, { accessFlags := 8, nameIndex := 95, descriptorIndex := 96, attributes := #[] }, { accessFlags := 10, nameIndex := 35, descriptorIndex := 36, attributes := #[] }] 49 4 #[] #[{ accessFlags := 25, nameIndex := 85, descriptorIndex := 86, attributes := #[] }, { accessFlags := 26, nameIndex := 88, descriptorIndex := 86, attributes := #[] }, { accessFlags := 26, nameIndex := 11, descriptorIndex := 12, attributes := #[] }, { accessFlags := 26, nameIndex := 89, descriptorIndex := 86, attributes := #[] }, { accessFlags := 26, nameIndex := 61, descriptorIndex := 12, attributes := #[] }, { accessFlags := 26, nameIndex := 50, descriptorIndex := 12, attributes := #[] }])
  fields := #[{ name := "ANY", type := (.object "java/lang/String"), accessFlags := 25, slot := 0, constantValue := 0 }, { name := "TAG", type := (.object "java/lang/String"), accessFlags := 26, slot := 1, constantValue := 0 }, { name := "ONE", type := (.object "java/util/regex/Pattern"), accessFlags := 26, slot := 2, constantValue := 0 }, { name := "ELEMENT", type := (.object "java/lang/String"), accessFlags := 26, slot := 3, constantValue := 0 }, { name := "LIST", type := (.object "java/util/regex/Pattern"), accessFlags := 26, slot := 4, constantValue := 0 }, { name := "ANY_ALONE", type := (.object "java/util/regex/Pattern"), accessFlags := 26, slot := 5, constantValue := 0 }]
  methods := #[k9m0, k9m1, k9m2, k9m3]
  instanceTypes := #[]
  staticTypes := #[(.object "java/lang/String"), (.object "java/lang/String"), (.object "java/util/regex/Pattern"), (.object "java/lang/String"), (.object "java/util/regex/Pattern"), (.object "java/util/regex/Pattern")]
  resolved := Array.replicate 105 none
  statics := none }

def pool10 : Array CpInfo := pool [(9, u "<init>"), (6, .class_ 18), (1, u "java/lang/Object"), (0, u "()V"), (1, .class_ 23), (1, u "jdk/internal/util/ArraysSupport"), (0, u "LOG2_ARRAY_LONG_INDEX_SCALE"), (0, u "I"), (2, u "U"), (0, u "Ljdk/internal/misc/Unsafe;"), (8, u "BIG_ENDIAN"), (0, u "Z"), (8, u "LOG2_BYTE_BIT_SIZE"), (4, u "LOG2_ARRAY_INT_INDEX_SCALE"), (54, u "JLA"), (0, u "Ljdk/internal/access/JavaLangAccess;"), (11, u "LOG2_ARRAY_BOOLEAN_INDEX_SCALE"), (9, u "LOG2_ARRAY_BYTE_INDEX_SCALE"), (5, u "LOG2_ARRAY_CHAR_INDEX_SCALE"), (5, u "LOG2_ARRAY_SHORT_INDEX_SCALE"), (5, u "mismatch"), (12, u "LOG2_ARRAY_FLOAT_INDEX_SCALE"), (24, u "LOG2_ARRAY_DOUBLE_INDEX_SCALE"), (89, u "T_BOOLEAN"), (2, u "T_CHAR"), (1, u "T_FLOAT"), (1, u "T_DOUBLE"), (1, u "T_BYTE"), (1, u "T_SHORT"), (1, u "T_INT"), (1, u "T_LONG"), (1, u "SOFT_MAX_ARRAY_LENGTH"), (42, u "([BI[BII)I")] 40

def k10m0 : Method := { name := "<init>", desc := "()V", sig := { parameters := [], returnType := none }, accessFlags := 2, code := none }
def k10c1 : Code := { maxStack := 8, maxLocals := 8, code := jdk_48_method_14_code, exceptionTable := #[], attributes := #[] }
def k10m1 : Method := { name := "mismatch", desc := "([BI[BII)I", sig := { parameters := [(.array .byte), .int, (.array .byte), .int, .int], returnType := some .int }, accessFlags := 9, code := some k10c1 }
/-- jdk/internal/util/ArraysSupport -/
def k10 : Class := { plain "jdk/internal/util/ArraysSupport" (some 0) with
  accessFlags := 33
  interfaces := #[]
  cf := some (fileOf pool10 21 #[] #[{ accessFlags := 2, nameIndex := 9, descriptorIndex := 19, attributes := #[] }, { accessFlags := 9, nameIndex := 149, descriptorIndex := 337, attributes := #[] }] 33 16 #[] #[{ accessFlags := 24, nameIndex := 28, descriptorIndex := 29, attributes := #[] }, { accessFlags := 26, nameIndex := 38, descriptorIndex := 39, attributes := #[] }, { accessFlags := 25, nameIndex := 121, descriptorIndex := 25, attributes := #[] }, { accessFlags := 25, nameIndex := 131, descriptorIndex := 25, attributes := #[] }, { accessFlags := 25, nameIndex := 137, descriptorIndex := 25, attributes := #[] }, { accessFlags := 25, nameIndex := 143, descriptorIndex := 25, attributes := #[] }, { accessFlags := 25, nameIndex := 53, descriptorIndex := 25, attributes := #[] }, { accessFlags := 25, nameIndex := 24, descriptorIndex := 25, attributes := #[] }, { accessFlags := 25, nameIndex := 162, descriptorIndex := 25, attributes := #[] }, { accessFlags := 25, nameIndex := 187, descriptorIndex := 25, attributes := #[] }, { accessFlags := 26, nameIndex := 48, descriptorIndex := 25, attributes := #[] }, { accessFlags := 25, nameIndex := 277, descriptorIndex := 25, attributes := #[] }, { accessFlags := 25, nameIndex := 280, descriptorIndex := 25, attributes := #[] }, { accessFlags := 25, nameIndex := 282, descriptorIndex := 25, attributes := #[] }, { accessFlags := 25, nameIndex := 284, descriptorIndex := 25, attributes := #[] }, { accessFlags := 25, nameIndex := 286, descriptorIndex := 25, attributes := #[] }, { accessFlags := 25, nameIndex := 288, descriptorIndex := 25, attributes := #[] }, { accessFlags := 25, nameIndex := 290, descriptorIndex := 25, attributes := #[] }, { accessFlags := 25, nameIndex := 292, descriptorIndex := 25, attributes := #[] }, { accessFlags := 26, nameIndex := 108, descriptorIndex := 109, attributes := #[] }, { accessFlags := 25, nameIndex := 294, descriptorIndex := 25, attributes := #[] }])
  fields := #[{ name := "U", type := (.object "jdk/internal/misc/Unsafe"), accessFlags := 24, slot := 0, constantValue := 0 }, { name := "BIG_ENDIAN", type := .boolean, accessFlags := 26, slot := 1, constantValue := 0 }, { name := "LOG2_ARRAY_BOOLEAN_INDEX_SCALE", type := .int, accessFlags := 25, slot := 2, constantValue := 0 }, { name := "LOG2_ARRAY_BYTE_INDEX_SCALE", type := .int, accessFlags := 25, slot := 3, constantValue := 0 }, { name := "LOG2_ARRAY_CHAR_INDEX_SCALE", type := .int, accessFlags := 25, slot := 4, constantValue := 0 }, { name := "LOG2_ARRAY_SHORT_INDEX_SCALE", type := .int, accessFlags := 25, slot := 5, constantValue := 0 }, { name := "LOG2_ARRAY_INT_INDEX_SCALE", type := .int, accessFlags := 25, slot := 6, constantValue := 0 }, { name := "LOG2_ARRAY_LONG_INDEX_SCALE", type := .int, accessFlags := 25, slot := 7, constantValue := 0 }, { name := "LOG2_ARRAY_FLOAT_INDEX_SCALE", type := .int, accessFlags := 25, slot := 8, constantValue := 0 }, { name := "LOG2_ARRAY_DOUBLE_INDEX_SCALE", type := .int, accessFlags := 25, slot := 9, constantValue := 0 }, { name := "LOG2_BYTE_BIT_SIZE", type := .int, accessFlags := 26, slot := 10, constantValue := 0 }, { name := "T_BOOLEAN", type := .int, accessFlags := 25, slot := 11, constantValue := 0 }, { name := "T_CHAR", type := .int, accessFlags := 25, slot := 12, constantValue := 0 }, { name := "T_FLOAT", type := .int, accessFlags := 25, slot := 13, constantValue := 0 }, { name := "T_DOUBLE", type := .int, accessFlags := 25, slot := 14, constantValue := 0 }, { name := "T_BYTE", type := .int, accessFlags := 25, slot := 15, constantValue := 0 }, { name := "T_SHORT", type := .int, accessFlags := 25, slot := 16, constantValue := 0 }, { name := "T_INT", type := .int, accessFlags := 25, slot := 17, constantValue := 0 }, { name := "T_LONG", type := .int, accessFlags := 25, slot := 18, constantValue := 0 }, { name := "JLA", type := (.object "jdk/internal/access/JavaLangAccess"), accessFlags := 26, slot := 19, constantValue := 0 }, { name := "SOFT_MAX_ARRAY_LENGTH", type := .int, accessFlags := 25, slot := 20, constantValue := 0 }]
  methods := #[k10m0, k10m1]
  instanceTypes := #[]
  staticTypes := #[(.object "jdk/internal/misc/Unsafe"), .boolean, .int, .int, .int, .int, .int, .int, .int, .int, .int, .int, .int, .int, .int, .int, .int, .int, .int, (.object "jdk/internal/access/JavaLangAccess"), .int]
  resolved := Array.replicate 378 none
  statics := none }

def pool11 : Array CpInfo := pool [(1, .class_ 2), (0, u "java/lang/String"), (1, .class_ 6), (1, u "java/lang/Object"), (0, u "<init>"), (0, u "()V"), (5, .class_ 16), (1, u "java/lang/StringLatin1"), (95, .methodref 1 113), (0, .nameAndType 7 114), (0, u "([BB)V"), (6, u "$assertionsDisabled"), (0, u "Z"), (8, .class_ 133), (1, u "java/util/Arrays"), (62, u "newString"), (0, u "([BII)Ljava/lang/String;"), (23, .class_ 223), (1, u "java/lang/StringLatin1$LinesSpliterator"), (8, .methodref 131 233), (0, .nameAndType 234 235), (0, u "copyOfRange"), (0, u "([BII)[B"), (45, u "equals"), (0, u "([B[B)Z"), (107, .class_ 391), (0, u "java/lang/StringLatin1$CharsSpliterator")] 3

def k11m0 : Method := { name := "<init>", desc := "()V", sig := { parameters := [], returnType := none }, accessFlags := 0, code := none }
def k11c1 : Code := { maxStack := 3, maxLocals := 3, code := jdk_43_method_13_code, exceptionTable := #[], attributes := #[] }
def k11m1 : Method := { name := "equals", desc := "([B[B)Z", sig := { parameters := [(.array .byte), (.array .byte)], returnType := some .boolean }, accessFlags := 9, code := some k11c1 }
def k11c2 : Code := { maxStack := 6, maxLocals := 3, code := jdk_43_method_47_code, exceptionTable := #[], attributes := #[] }
def k11m2 : Method := { name := "newString", desc := "([BII)Ljava/lang/String;", sig := { parameters := [(.array .byte), .int, .int], returnType := some (.object "java/lang/String") }, accessFlags := 9, code := some k11c2 }
/-- java/lang/StringLatin1 -/
def k11 : Class := { plain "java/lang/StringLatin1" (some 0) with
  accessFlags := 48
  interfaces := #[]
  cf := some (fileOf pool11 14 #[.nestMembers #[390, 221]] #[{ accessFlags := 0, nameIndex := 7, descriptorIndex := 8, attributes := #[] }, { accessFlags := 9, nameIndex := 281, descriptorIndex := 282, attributes := #[] }, { accessFlags := 9, nameIndex := 196, descriptorIndex := 197, attributes := #[] }] 48 4 #[] #[{ accessFlags := 4120, nameIndex := 121, descriptorIndex := 122, attributes := #[] }])
  fields := #[{ name := "$assertionsDisabled", type := .boolean, accessFlags := 4120, slot := 0, constantValue := 0 }]
  methods := #[k11m0, k11m1, k11m2]
  instanceTypes := #[]
  staticTypes := #[.boolean]
  resolved := Array.replicate 395 none
  statics := none }

def pool12 : Array CpInfo := pool [(2, .class_ 4), (1, u "java/lang/Object"), (0, u "<init>"), (0, u "()V"), (17, .class_ 26), (1, u "jdk/internal/util/Preconditions"), (20, u "checkFromToIndex"), (7, .class_ 56), (0, u "jdk/internal/util/Preconditions$4"), (57, .class_ 115), (0, u "jdk/internal/util/Preconditions$1"), (7, u "SIOOBE_FORMATTER"), (0, u "Ljava/util/function/BiFunction;"), (0, .class_ 126), (0, u "jdk/internal/util/Preconditions$2"), (3, u "AIOOBE_FORMATTER"), (0, .class_ 132), (0, u "jdk/internal/util/Preconditions$3"), (3, u "IOOBE_FORMATTER"), (46, u "(IIILjava/util/function/BiFunction;)I")] 10

def k12m0 : Method := { name := "<init>", desc := "()V", sig := { parameters := [], returnType := none }, accessFlags := 1, code := none }
def k12c1 : Code := { maxStack := 4, maxLocals := 4, code := jdk_41_method_12_code, exceptionTable := #[], attributes := #[] }
def k12m1 : Method := { name := "checkFromToIndex", desc := "(IIILjava/util/function/BiFunction;)I", sig := { parameters := [.int, .int, .int, (.object "java/util/function/BiFunction")], returnType := some .int }, accessFlags := 9, code := some k12c1 }
/-- jdk/internal/util/Preconditions -/
def k12 : Class := { plain "jdk/internal/util/Preconditions" (some 0) with
  accessFlags := 33
  interfaces := #[]
  cf := some (fileOf pool12 24 #[.nestMembers #[55, 131, 125, 114]] #[{ accessFlags := 1, nameIndex := 5, descriptorIndex := 6, attributes := #[] }, { accessFlags := 9, nameIndex := 47, descriptorIndex := 183, attributes := #[] }] 33 2 #[] #[{ accessFlags := 25, nameIndex := 123, descriptorIndex := 124, attributes := #[] }, { accessFlags := 25, nameIndex := 130, descriptorIndex := 124, attributes := #[] }, { accessFlags := 25, nameIndex := 136, descriptorIndex := 124, attributes := #[] }])
  fields := #[{ name := "SIOOBE_FORMATTER", type := (.object "java/util/function/BiFunction"), accessFlags := 25, slot := 0, constantValue := 0 }, { name := "AIOOBE_FORMATTER", type := (.object "java/util/function/BiFunction"), accessFlags := 25, slot := 1, constantValue := 0 }, { name := "IOOBE_FORMATTER", type := (.object "java/util/function/BiFunction"), accessFlags := 25, slot := 2, constantValue := 0 }]
  methods := #[k12m0, k12m1]
  instanceTypes := #[]
  staticTypes := #[(.object "java/util/function/BiFunction"), (.object "java/util/function/BiFunction"), (.object "java/util/function/BiFunction")]
  resolved := Array.replicate 194 none
  statics := some 1 }

def pool13 : Array CpInfo := pool [(2, .class_ 4), (1, u "java/lang/Object"), (0, u "<init>"), (0, u "()V"), (7, .class_ 16), (1, u "java/util/Arrays"), (57, .class_ 76), (1, u "java/util/Arrays$NaturalOrder"), (36, .class_ 115), (1, u "java/util/Arrays$LegacyMergeSort"), (1, u "Z"), (21, u "copyOfRange"), (10, .methodref 151 152), (0, .class_ 153), (0, .nameAndType 154 155), (0, u "java/lang/System"), (0, u "arraycopy"), (0, u "(Ljava/lang/Object;ILjava/lang/Object;II)V"), (148, .methodref 305 306), (0, .class_ 307), (0, .nameAndType 308 309), (0, u "java/lang/Math"), (0, u "min"), (0, u "(II)I"), (29, .methodref 14 340), (0, .nameAndType 341 342), (0, u "copyOfRangeByte"), (0, u "([BII)[B"), (0, .methodref 14 344), (0, .nameAndType 345 346), (0, u "checkLength"), (0, u "(II)V"), (28, .class_ 376), (0, u "java/util/Arrays$ArrayList"), (68, u "$assertionsDisabled"), (269, u "MIN_ARRAY_SORT_GRAN"), (0, u "I"), (2, u "INSERTIONSORT_THRESHOLD"), (255, .class_ 976), (0, u "java/util/Arrays$ArrayItr")] 52

def k13m0 : Method := { name := "<init>", desc := "()V", sig := { parameters := [], returnType := none }, accessFlags := 2, code := none }
def k13c1 : Code := { maxStack := 4, maxLocals := 2, code := jdk_65_method_131_code, exceptionTable := #[], attributes := #[] }
def k13m1 : Method := { name := "checkLength", desc := "(II)V", sig := { parameters := [.int, .int], returnType := none }, accessFlags := 10, code := some k13c1 }
def k13c2 : Code := { maxStack := 3, maxLocals := 3, code := jdk_65_method_132_code, exceptionTable := #[], attributes := #[] }
def k13m2 : Method := { name := "copyOfRange", desc := "([BII)[B", sig := { parameters := [(.array .byte), .int, .int], returnType := some (.array .byte) }, accessFlags := 9, code := some k13c2 }
def k13c3 : Code := { maxStack := 6, maxLocals := 5, code := jdk_65_method_133_code, exceptionTable := #[], attributes := #[] }
def k13m3 : Method := { name := "copyOfRangeByte", desc := "([BII)[B", sig := { parameters := [(.array .byte), .int, .int], returnType := some (.array .byte) }, accessFlags := 10, code := some k13c3 }
/-- java/util/Arrays -/
def k13 : Class := { plain "java/util/Arrays" (some 0) with
  accessFlags := 49
  interfaces := #[]
  cf := some (fileOf pool13 14 #[.nestMembers #[975, 375, 113, 74]] #[{ accessFlags := 2, nameIndex := 5, descriptorIndex := 6, attributes := #[] }, { accessFlags := 10, nameIndex := 345, descriptorIndex := 346, attributes := #[] }, { accessFlags := 9, nameIndex := 139, descriptorIndex := 342, attributes := #[] }, { accessFlags := 10, nameIndex := 341, descriptorIndex := 342, attributes := #[] }] 49 2 #[] #[{ accessFlags := 26, nameIndex := 715, descriptorIndex := 716, attributes := #[] }, { accessFlags := 26, nameIndex := 719, descriptorIndex := 716, attributes := #[] }, { accessFlags := 4120, nameIndex := 445, descriptorIndex := 117, attributes := #[] }])
  fields := #[{ name := "MIN_ARRAY_SORT_GRAN", type := .int, accessFlags := 26, slot := 0, constantValue := 0 }, { name := "INSERTIONSORT_THRESHOLD", type := .int, accessFlags := 26, slot := 1, constantValue := 0 }, { name := "$assertionsDisabled", type := .boolean, accessFlags := 4120, slot := 2, constantValue := 0 }]
  methods := #[k13m0, k13m1, k13m2, k13m3]
  instanceTypes := #[]
  staticTypes := #[.int, .int, .boolean]
  resolved := Array.replicate 1029 none
  statics := none }

def pool14 : Array CpInfo := pool [(1, .class_ 2), (0, u "java/lang/Math"), (1, .class_ 6), (1, u "java/lang/Object"), (0, u "<init>"), (0, u "()V"), (89, .class_ 100), (1, u "java/lang/Math$RandomNumberGeneratorHolder"), (71, u "negativeZeroFloatBits"), (0, u "J"), (2, u "negativeZeroDoubleBits"), (24, u "min"), (43, u "$assertionsDisabled"), (0, u "Z"), (88, u "(II)I"), (2, u "twoToTheDoubleScaleDown"), (0, u "D"), (4, u "twoToTheDoubleScaleUp"), (9, u "E"), (3, u "PI"), (2, u "TAU"), (2, u "DEGREES_TO_RADIANS"), (0, u "RADIANS_TO_DEGREES")] 94

def k14m0 : Method := { name := "<init>", desc := "()V", sig := { parameters := [], returnType := none }, accessFlags := 2, code := none }
def k14c1 : Code := { maxStack := 2, maxLocals := 2, code := jdk_29_method_69_code, exceptionTable := #[], attributes := #[] }
def k14m1 : Method := { name := "min", desc := "(II)I", sig := { parameters := [.int, .int], returnType := some .int }, accessFlags := 9, code := some k14c1 }
/-- java/lang/Math -/
def k14 : Class := { plain "java/lang/Math" (some 0) with
  accessFlags := 49
  interfaces := #[]
  cf := some (fileOf pool14 1 #[.nestMembers #[98]] #[{ accessFlags := 2, nameIndex := 7, descriptorIndex := 8, attributes := #[] }, { accessFlags := 9, nameIndex := 201, descriptorIndex := 335, attributes := #[] }] 49 4 #[] #[{ accessFlags := 25, nameIndex := 354, descriptorIndex := 339, attributes := #[] }, { accessFlags := 25, nameIndex := 358, descriptorIndex := 339, attributes := #[] }, { accessFlags := 25, nameIndex := 361, descriptorIndex := 339, attributes := #[] }, { accessFlags := 26, nameIndex := 364, descriptorIndex := 339, attributes := #[] }, { accessFlags := 26, nameIndex := 365, descriptorIndex := 339, attributes := #[] }, { accessFlags := 26, nameIndex := 172, descriptorIndex := 173, attributes := #[] }, { accessFlags := 26, nameIndex := 176, descriptorIndex := 173, attributes := #[] }, { accessFlags := 8, nameIndex := 344, descriptorIndex := 339, attributes := #[] }, { accessFlags := 8, nameIndex := 338, descriptorIndex := 339, attributes := #[] }, { accessFlags := 4120, nameIndex := 245, descriptorIndex := 246, attributes := #[] }])
  fields := #[{ name := "E", type := .double, accessFlags := 25, slot := 0, constantValue := 0 }, { name := "PI", type := .double, accessFlags := 25, slot := 1, constantValue := 0 }, { name := "TAU", type := .double, accessFlags := 25, slot := 2, constantValue := 0 }, { name := "DEGREES_TO_RADIANS", type := .double, accessFlags := 26, slot := 3, constantValue := 0 }, { name := "RADIANS_TO_DEGREES", type := .double, accessFlags := 26, slot := 4, constantValue := 0 }, { name := "negativeZeroFloatBits", type := .long, accessFlags := 26, slot := 5, constantValue := 0 }, { name := "negativeZeroDoubleBits", type := .long, accessFlags := 26, slot := 6, constantValue := 0 }, { name := "twoToTheDoubleScaleUp", type := .double, accessFlags := 8, slot := 7, constantValue := 0 }, { name := "twoToTheDoubleScaleDown", type := .double, accessFlags := 8, slot := 8, constantValue := 0 }, { name := "$assertionsDisabled", type := .boolean, accessFlags := 4120, slot := 9, constantValue := 0 }]
  methods := #[k14m0, k14m1]
  instanceTypes := #[]
  staticTypes := #[.double, .double, .double, .double, .double, .long, .long, .double, .double, .boolean]
  resolved := Array.replicate 460 none
  statics := none }

def pool15 : Array CpInfo := pool [(2, .class_ 4), (1, u "java/lang/Object"), (0, u "<init>"), (0, u "()V"), (1, .class_ 10), (1, u "java/lang/System"), (0, u "allowSecurityManager"), (0, u "I"), (16, u "cons"), (0, u "Ljava/io/Console;"), (77, .class_ 110), (1, u "java/lang/System$CallersHolder"), (43, u "initialErrStream"), (0, u "Ljava/io/PrintStream;"), (19, u "security"), (0, u "Ljava/lang/SecurityManager;"), (31, .class_ 209), (0, u "java/lang/System$1"), (7, u "props"), (0, u "Ljava/util/Properties;"), (2, u "lineSeparator"), (0, u "Ljava/lang/String;"), (96, .class_ 321), (1, u "java/lang/System$LoggerFinder"), (5, .class_ 328), (0, u "java/lang/System$Logger"), (67, u "err"), (2, u "out"), (91, u "notSupportedJnuEncoding"), (15, u "in"), (17, u "initialIn"), (0, u "Ljava/io/InputStream;"), (35, u "bootLayer"), (0, u "Ljava/lang/ModuleLayer;"), (99, .class_ 664), (0, u "java/lang/System$2"), (9, u "NEVER"), (2, u "MAYBE"), (49, u "arraycopy"), (0, u "(Ljava/lang/Object;ILjava/lang/Object;II)V"), (72, .class_ 802), (0, u "java/lang/System$Logger$Level")] 31

def k15m0 : Method := { name := "<init>", desc := "()V", sig := { parameters := [], returnType := none }, accessFlags := 2, code := none }
def k15m1 : Method := { name := "arraycopy", desc := "(Ljava/lang/Object;ILjava/lang/Object;II)V", sig := { parameters := [(.object "java/lang/Object"), .int, (.object "java/lang/Object"), .int, .int], returnType := none }, accessFlags := 265, code := none }
/-- java/lang/System -/
def k15 : Class := { plain "java/lang/System" (some 0) with
  accessFlags := 49
  interfaces := #[]
  cf := some (fileOf pool15 8 #[.nestMembers #[319, 327, 801, 108, 663, 208]] #[{ accessFlags := 2, nameIndex := 5, descriptorIndex := 6, attributes := #[] }, { accessFlags := 265, nameIndex := 727, descriptorIndex := 728, attributes := #[] }] 49 2 #[] #[{ accessFlags := 25, nameIndex := 507, descriptorIndex := 526, attributes := #[] }, { accessFlags := 25, nameIndex := 399, descriptorIndex := 155, attributes := #[] }, { accessFlags := 25, nameIndex := 396, descriptorIndex := 155, attributes := #[] }, { accessFlags := 10, nameIndex := 525, descriptorIndex := 526, attributes := #[] }, { accessFlags := 26, nameIndex := 674, descriptorIndex := 12, attributes := #[] }, { accessFlags := 26, nameIndex := 677, descriptorIndex := 12, attributes := #[] }, { accessFlags := 10, nameIndex := 11, descriptorIndex := 12, attributes := #[] }, { accessFlags := 74, nameIndex := 175, descriptorIndex := 176, attributes := #[] }, { accessFlags := 10, nameIndex := 491, descriptorIndex := 222, attributes := #[] }, { accessFlags := 74, nameIndex := 29, descriptorIndex := 30, attributes := #[] }, { accessFlags := 74, nameIndex := 154, descriptorIndex := 155, attributes := #[] }, { accessFlags := 10, nameIndex := 217, descriptorIndex := 218, attributes := #[] }, { accessFlags := 10, nameIndex := 221, descriptorIndex := 222, attributes := #[] }, { accessFlags := 8, nameIndex := 562, descriptorIndex := 563, attributes := #[] }])
  fields := #[{ name := "in", type := (.object "java/io/InputStream"), accessFlags := 25, slot := 0, constantValue := 0 }, { name := "out", type := (.object "java/io/PrintStream"), accessFlags := 25, slot := 1, constantValue := 0 }, { name := "err", type := (.object "java/io/PrintStream"), accessFlags := 25, slot := 2, constantValue := 0 }, { name := "initialIn", type := (.object "java/io/InputStream"), accessFlags := 10, slot := 3, constantValue := 0 }, { name := "NEVER", type := .int, accessFlags := 26, slot := 4, constantValue := 0 }, { name := "MAYBE", type := .int, accessFlags := 26, slot := 5, constantValue := 0 }, { name := "allowSecurityManager", type := .int, accessFlags := 10, slot := 6, constantValue := 0 }, { name := "security", type := (.object "java/lang/SecurityManager"), accessFlags := 74, slot := 7, constantValue := 0 }, { name := "notSupportedJnuEncoding", type := (.object "java/lang/String"), accessFlags := 10, slot := 8, constantValue := 0 }, { name := "cons", type := (.object "java/io/Console"), accessFlags := 74, slot := 9, constantValue := 0 }, { name := "initialErrStream", type := (.object "java/io/PrintStream"), accessFlags := 74, slot := 10, constantValue := 0 }, { name := "props", type := (.object "java/util/Properties"), accessFlags := 10, slot := 11, constantValue := 0 }, { name := "lineSeparator", type := (.object "java/lang/String"), accessFlags := 10, slot := 12, constantValue := 0 }, { name := "bootLayer", type := (.object "java/lang/ModuleLayer"), accessFlags := 8, slot := 13, constantValue := 0 }]
  methods := #[k15m0, k15m1]
  instanceTypes := #[]
  staticTypes := #[(.object "java/io/InputStream"), (.object "java/io/PrintStream"), (.object "java/io/PrintStream"), (.object "java/io/InputStream"), .int, .int, .int, (.object "java/lang/SecurityManager"), (.object "java/lang/String"), (.object "java/io/Console"), (.object "java/io/PrintStream"), (.object "java/util/Properties"), (.object "java/lang/String"), (.object "java/lang/ModuleLayer")]
  resolved := Array.replicate 834 none
  statics := none }

def pool16 : Array CpInfo := pool [(1, u "java/lang/Cloneable"), (0, .class_ 1), (0, u "java/lang/Object"), (0, .class_ 3)] 3

/-- java/lang/Cloneable -/
def k16 : Class := { plain "java/lang/Cloneable" (some 0) with
  accessFlags := 1537
  interfaces := #[]
  cf := some (fileOf pool16 2 #[] #[] 1537 4 #[] #[])
  fields := #[]
  methods := #[]
  instanceTypes := #[]
  staticTypes := #[]
  resolved := Array.replicate 8 none
  statics := none }

/-- the primitive byte -/
def k17 : Class := { plain "byte" none with kind := .primitive 'B', accessFlags := 0x411 }
/-- [B -/
def k18 : Class := { plain "[B" (some 0) with kind := .array 17 .byte, interfaces := #[16, 2], accessFlags := 1041 }

/-- the primitive char -/
def k19 : Class := { plain "char" none with kind := .primitive 'C', accessFlags := 0x411 }
/-- [C -/
def k20 : Class := { plain "[C" (some 0) with kind := .array 19 .char, interfaces := #[16, 2], accessFlags := 1041 }

/-- the primitive int -/
def k21 : Class := { plain "int" none with kind := .primitive 'I', accessFlags := 0x411 }
/-- [I -/
def k22 : Class := { plain "[I" (some 0) with kind := .array 21 .int, interfaces := #[16, 2], accessFlags := 1041 }

def heap : Heap := #[{ cls := 7, slots := #[.long 0, .int 1, .null, .int 0, .null, .int 0, .int 0], vm := .statics 7 },
  { cls := 12, slots := #[.null, .null, .null], vm := .statics 12 }]
def classes : Array Class := #[k0, k1, k2, k3, k4, k5, k6, k7, k8, k9, k10, k11, k12, k13, k14, k15, k16, k17, k18, k19, k20, k21, k22]
def interned : List (Array UInt16 × Addr) := []
def slotsUsed : Nat := 10
def theMethod : MethodId := ⟨1, 1⟩
def args0 : Array Value := #[.int 5, .int 5, .int 5, .int 5, .int 5]
def aboutOver (below : List Frame) : State where
  vm := { classes := classes, interned := interned.toArray }
  heap := heap
  slotsUsed := slotsUsed
  threads := #[{ frames := .invoking theMethod args0 :: below }]
def below0 : List Frame := [.native { method := ⟨0, 0⟩, args := #[] }]
def about1 : State := aboutOver below0
def p0 : Program := .bare "" "" ""
def e0 : Env := launch0.env 0 0 0
theorem w_frames : about1.frames = Frame.invoking theMethod args0 :: below0 := rfl
set_option maxRecDepth 65536 in
theorem w_args : argsFit about1.vm theMethod args0 = true := by decide +kernel
set_option maxRecDepth 65536 in
theorem w_heap : heapFits about1 = true := by decide +kernel
set_option maxRecDepth 65536 in
theorem w_runnable : about1.curStatus? = some .runnable := by decide +kernel
set_option maxRecDepth 65536 in
theorem w_alone : about1.alone = true := by decide +kernel
set_option maxRecDepth 65536 in
theorem w_named : about1.methodNamed? x = some theMethod := by decide +kernel
set_option maxRecDepth 65536 in
theorem w_hears : about1.hears theMethod below0 = true := by decide +kernel
set_option maxRecDepth 65536 in
theorem w_ripe : about1.ripe theMethod args0 below0 = true := by decide +kernel
theorem w_running : about1.status = .running := rfl
set_option maxRecDepth 65536 in
theorem w_room : about1.hasRoom e0.platform room_1 = true :=
  launch0.hasRoom_least _ room_1 (by decide +kernel) (by decide +kernel) (by decide +kernel) (by decide +kernel) (by decide +kernel) (by decide +kernel)
theorem allAtoms_all (ts : List Jvm.Cond) (a : Array Jvm.Value) (st : Jvm.State) : (allAtoms ts).before a st = ts.all (fun c => c.before a st) := by
  induction ts with
  | nil => rfl
  | cons c t ih =>
    show (Jvm.Cond.and c (allAtoms t)).before a st = _
    rw [Jvm.Cond.before_and, ih, List.all_cons]
def words1 : List Jvm.Cond := Jvm.Cond.code x code maxLocals ret :: tables_1
/-- a 'code' word, met by the world's own term for the bytes: nothing is compared byte by byte -/
theorem code_word {y : MethodName} {bytes : ByteArray} {mx : Nat} {rt : Option FieldType} {a : Array Value} {s : State} {m : MethodId} {meth : Method} {c : Code} (h1 : s.methodNamed? y = some m) (h2 : s.vm.method? m = some meth) (h3 : meth.code = some c) (h4 : c.code = bytes)
    (h5 : (c.maxLocals == mx && c.exceptionTable.isEmpty && decide (c.maxStack ≤ mostOperands) && decide (meth.sig.returnType = rt) && !meth.locks && decide (parseMethodDescriptor y.desc = some meth.sig)) = true) : (Jvm.Cond.code y bytes mx rt).before a s = true := by
  simp only [Bool.and_eq_true, beq_iff_eq, Bool.not_eq_true', decide_eq_true_eq] at h5
  obtain ⟨⟨⟨⟨⟨g1, g2⟩, g3⟩, g4⟩, g5⟩, g6⟩ := h5
  simp [Cond.before, Cond.holds, Cond.value, h1, h2, h3, h4, g1, g2, g3, g4, g5, g6]
def isCode : Jvm.Cond → Bool
  | .code _ _ _ _ => true
  | _ => false
theorem all_split {L : List Jvm.Cond} {P : Jvm.Cond → Bool} (h1 : L.all (fun c => isCode c || P c) = true) (h2 : ∀ c ∈ L.filter isCode, P c = true) : L.all P = true := by
  refine List.all_eq_true.mpr fun c hc => ?_
  have h := List.all_eq_true.mp h1 c hc
  rcases Bool.eq_false_or_eq_true (isCode c) with hi | hi
  · exact h2 c (List.mem_filter.mpr ⟨hc, hi⟩)
  · simpa [hi] using h
set_option maxRecDepth 65536 in
theorem w_c0 : (Jvm.Cond.code x code maxLocals ret).before args0 about1 = true := code_word (m := ⟨1, 1⟩) (meth := k1m1) (c := k1c1) (by decide +kernel) rfl rfl rfl (by decide +kernel)
set_option maxRecDepth 65536 in
theorem w_c1 : (Jvm.Cond.code ({ cls := "com/example/feedwright/feedwright/http/EntityTagsMatchWeaklyPinLaw", name := "ch", desc := "(I)C" } : Jvm.MethodName) method_3_code (2 : Nat) (Option.some Jvm.ClassFile.FieldType.char)).before args0 about1 = true := code_word (m := ⟨1, 2⟩) (meth := k1m2) (c := k1c2) (by decide +kernel) rfl rfl rfl (by decide +kernel)
set_option maxRecDepth 65536 in
theorem w_c2 : (Jvm.Cond.code ({ cls := "com/example/feedwright/feedwright/http/EntityTagsMatchWeaklyPinLaw", name := "tag", desc := "(ZZCC)Ljava/lang/String;" } : Jvm.MethodName) method_4_code (4 : Nat) (Option.some (Jvm.ClassFile.FieldType.object "java/lang/String"))).before args0 about1 = true := code_word (m := ⟨1, 3⟩) (meth := k1m3) (c := k1c3) (by decide +kernel) rfl rfl rfl (by decide +kernel)
set_option maxRecDepth 65536 in
theorem w_c3 : (Jvm.Cond.code ({ cls := "java/lang/String", name := "<init>", desc := "([C)V" } : Jvm.MethodName) jdk_42_method_3_code (2 : Nat) (Option.none : Option Jvm.ClassFile.FieldType)).before args0 about1 = true := code_word (m := ⟨7, 1⟩) (meth := k7m1) (c := k7c1) (by decide +kernel) rfl rfl rfl (by decide +kernel)
set_option maxRecDepth 65536 in
theorem w_c4 : (Jvm.Cond.code ({ cls := "java/lang/String", name := "<init>", desc := "([CIILjava/lang/Void;)V" } : Jvm.MethodName) jdk_42_method_149_code (6 : Nat) (Option.none : Option Jvm.ClassFile.FieldType)).before args0 about1 = true := code_word (m := ⟨7, 8⟩) (meth := k7m8) (c := k7c8) (by decide +kernel) rfl rfl rfl (by decide +kernel)
set_option maxRecDepth 65536 in
theorem w_c5 : (Jvm.Cond.code ({ cls := "java/lang/Object", name := "<init>", desc := "()V" } : Jvm.MethodName) object_method_1_code (1 : Nat) (Option.none : Option Jvm.ClassFile.FieldType)).before args0 about1 = true := code_word (m := ⟨0, 0⟩) (meth := k0m0) (c := k0c0) (by decide +kernel) rfl rfl rfl (by decide +kernel)
set_option maxRecDepth 65536 in
theorem w_c6 : (Jvm.Cond.code ({ cls := "java/lang/StringUTF16", name := "compress", desc := "([CII)[B" } : Jvm.MethodName) jdk_52_method_16_code (6 : Nat) (Option.some (Jvm.ClassFile.FieldType.array Jvm.ClassFile.FieldType.byte))).before args0 about1 = true := code_word (m := ⟨8, 2⟩) (meth := k8m2) (c := k8c2) (by decide +kernel) rfl rfl rfl (by decide +kernel)
set_option maxRecDepth 65536 in
theorem w_c7 : (Jvm.Cond.code ({ cls := "java/lang/StringUTF16", name := "compress", desc := "([CI[BII)I" } : Jvm.MethodName) jdk_52_method_21_code (7 : Nat) (Option.some Jvm.ClassFile.FieldType.int)).before args0 about1 = true := code_word (m := ⟨8, 3⟩) (meth := k8m3) (c := k8c3) (by decide +kernel) rfl rfl rfl (by decide +kernel)
set_option maxRecDepth 65536 in
theorem w_c8 : (Jvm.Cond.code ({ cls := "java/lang/StringUTF16", name := "coderFromArrayLen", desc := "([BI)B" } : Jvm.MethodName) jdk_52_method_15_code (2 : Nat) (Option.some Jvm.ClassFile.FieldType.byte)).before args0 about1 = true := code_word (m := ⟨8, 1⟩) (meth := k8m1) (c := k8c1) (by decide +kernel) rfl rfl rfl (by decide +kernel)
set_option maxRecDepth 65536 in
theorem w_c9 : (Jvm.Cond.code ({ cls := "com/example/feedwright/feedwright/http/EntityTags", name := "matchWeakly", desc := "(Ljava/lang/String;Ljava/lang/String;)Z" } : Jvm.MethodName) prog_34_method_4_code (2 : Nat) (Option.some Jvm.ClassFile.FieldType.boolean)).before args0 about1 = true := code_word (m := ⟨9, 2⟩) (meth := k9m2) (c := k9c2) (by decide +kernel) rfl rfl rfl (by decide +kernel)
set_option maxRecDepth 65536 in
theorem w_c10 : (Jvm.Cond.code ({ cls := "com/example/feedwright/feedwright/http/EntityTags", name := "opaque", desc := "(Ljava/lang/String;)Ljava/lang/String;" } : Jvm.MethodName) prog_34_method_5_code (1 : Nat) (Option.some (Jvm.ClassFile.FieldType.object "java/lang/String"))).before args0 about1 = true := code_word (m := ⟨9, 3⟩) (meth := k9m3) (c := k9c3) (by decide +kernel) rfl rfl rfl (by decide +kernel)
set_option maxRecDepth 65536 in
theorem w_c11 : (Jvm.Cond.code ({ cls := "com/example/feedwright/feedwright/http/EntityTags", name := "isWeak", desc := "(Ljava/lang/String;)Z" } : Jvm.MethodName) prog_34_method_3_code (1 : Nat) (Option.some Jvm.ClassFile.FieldType.boolean)).before args0 about1 = true := code_word (m := ⟨9, 1⟩) (meth := k9m1) (c := k9c1) (by decide +kernel) rfl rfl rfl (by decide +kernel)
set_option maxRecDepth 65536 in
theorem w_c12 : (Jvm.Cond.code ({ cls := "java/lang/String", name := "startsWith", desc := "(Ljava/lang/String;)Z" } : Jvm.MethodName) jdk_42_method_76_code (2 : Nat) (Option.some Jvm.ClassFile.FieldType.boolean)).before args0 about1 = true := code_word (m := ⟨7, 5⟩) (meth := k7m5) (c := k7c5) (by decide +kernel) rfl rfl rfl (by decide +kernel)
set_option maxRecDepth 65536 in
theorem w_c13 : (Jvm.Cond.code ({ cls := "java/lang/String", name := "startsWith", desc := "(Ljava/lang/String;I)Z" } : Jvm.MethodName) jdk_42_method_75_code (8 : Nat) (Option.some Jvm.ClassFile.FieldType.boolean)).before args0 about1 = true := code_word (m := ⟨7, 4⟩) (meth := k7m4) (c := k7c4) (by decide +kernel) rfl rfl rfl (by decide +kernel)
set_option maxRecDepth 65536 in
theorem w_c14 : (Jvm.Cond.code ({ cls := "java/lang/String", name := "length", desc := "()I" } : Jvm.MethodName) jdk_42_method_54_code (1 : Nat) (Option.some Jvm.ClassFile.FieldType.int)).before args0 about1 = true := code_word (m := ⟨7, 2⟩) (meth := k7m2) (c := k7c2) (by decide +kernel) rfl rfl rfl (by decide +kernel)
set_option maxRecDepth 65536 in
theorem w_c15 : (Jvm.Cond.code ({ cls := "java/lang/String", name := "coder", desc := "()B" } : Jvm.MethodName) jdk_42_method_152_code (1 : Nat) (Option.some Jvm.ClassFile.FieldType.byte)).before args0 about1 = true := code_word (m := ⟨7, 10⟩) (meth := k7m10) (c := k7c10) (by decide +kernel) rfl rfl rfl (by decide +kernel)
set_option maxRecDepth 65536 in
theorem w_c16 : (Jvm.Cond.code ({ cls := "jdk/internal/util/ArraysSupport", name := "mismatch", desc := "([BI[BII)I" } : Jvm.MethodName) jdk_48_method_14_code (8 : Nat) (Option.some Jvm.ClassFile.FieldType.int)).before args0 about1 = true := code_word (m := ⟨10, 1⟩) (meth := k10m1) (c := k10c1) (by decide +kernel) rfl rfl rfl (by decide +kernel)
set_option maxRecDepth 65536 in
theorem w_c17 : (Jvm.Cond.code ({ cls := "java/lang/String", name := "equals", desc := "(Ljava/lang/Object;)Z" } : Jvm.MethodName) jdk_42_method_66_code (3 : Nat) (Option.some Jvm.ClassFile.FieldType.boolean)).before args0 about1 = true := code_word (m := ⟨7, 3⟩) (meth := k7m3) (c := k7c3) (by decide +kernel) rfl rfl rfl (by decide +kernel)
set_option maxRecDepth 65536 in
theorem w_c18 : (Jvm.Cond.code ({ cls := "java/lang/StringLatin1", name := "equals", desc := "([B[B)Z" } : Jvm.MethodName) jdk_43_method_13_code (3 : Nat) (Option.some Jvm.ClassFile.FieldType.boolean)).before args0 about1 = true := code_word (m := ⟨11, 1⟩) (meth := k11m1) (c := k11c1) (by decide +kernel) rfl rfl rfl (by decide +kernel)
set_option maxRecDepth 65536 in
theorem w_c19 : (Jvm.Cond.code ({ cls := "java/lang/String", name := "substring", desc := "(I)Ljava/lang/String;" } : Jvm.MethodName) jdk_42_method_91_code (2 : Nat) (Option.some (Jvm.ClassFile.FieldType.object "java/lang/String"))).before args0 about1 = true := code_word (m := ⟨7, 6⟩) (meth := k7m6) (c := k7c6) (by decide +kernel) rfl rfl rfl (by decide +kernel)
set_option maxRecDepth 65536 in
theorem w_c20 : (Jvm.Cond.code ({ cls := "java/lang/String", name := "substring", desc := "(II)Ljava/lang/String;" } : Jvm.MethodName) jdk_42_method_92_code (5 : Nat) (Option.some (Jvm.ClassFile.FieldType.object "java/lang/String"))).before args0 about1 = true := code_word (m := ⟨7, 7⟩) (meth := k7m7) (c := k7c7) (by decide +kernel) rfl rfl rfl (by decide +kernel)
set_option maxRecDepth 65536 in
theorem w_c21 : (Jvm.Cond.code ({ cls := "java/lang/String", name := "checkBoundsBeginEnd", desc := "(III)V" } : Jvm.MethodName) jdk_42_method_158_code (3 : Nat) (Option.none : Option Jvm.ClassFile.FieldType)).before args0 about1 = true := code_word (m := ⟨7, 12⟩) (meth := k7m12) (c := k7c12) (by decide +kernel) rfl rfl rfl (by decide +kernel)
set_option maxRecDepth 65536 in
theorem w_c22 : (Jvm.Cond.code ({ cls := "jdk/internal/util/Preconditions", name := "checkFromToIndex", desc := "(IIILjava/util/function/BiFunction;)I" } : Jvm.MethodName) jdk_41_method_12_code (4 : Nat) (Option.some Jvm.ClassFile.FieldType.int)).before args0 about1 = true := code_word (m := ⟨12, 1⟩) (meth := k12m1) (c := k12c1) (by decide +kernel) rfl rfl rfl (by decide +kernel)
set_option maxRecDepth 65536 in
theorem w_c23 : (Jvm.Cond.code ({ cls := "java/lang/String", name := "isLatin1", desc := "()Z" } : Jvm.MethodName) jdk_42_method_154_code (1 : Nat) (Option.some Jvm.ClassFile.FieldType.boolean)).before args0 about1 = true := code_word (m := ⟨7, 11⟩) (meth := k7m11) (c := k7c11) (by decide +kernel) rfl rfl rfl (by decide +kernel)
set_option maxRecDepth 65536 in
theorem w_c24 : (Jvm.Cond.code ({ cls := "java/lang/StringLatin1", name := "newString", desc := "([BII)Ljava/lang/String;" } : Jvm.MethodName) jdk_43_method_47_code (3 : Nat) (Option.some (Jvm.ClassFile.FieldType.object "java/lang/String"))).before args0 about1 = true := code_word (m := ⟨11, 2⟩) (meth := k11m2) (c := k11c2) (by decide +kernel) rfl rfl rfl (by decide +kernel)
set_option maxRecDepth 65536 in
theorem w_c25 : (Jvm.Cond.code ({ cls := "java/util/Arrays", name := "copyOfRange", desc := "([BII)[B" } : Jvm.MethodName) jdk_65_method_132_code (3 : Nat) (Option.some (Jvm.ClassFile.FieldType.array Jvm.ClassFile.FieldType.byte))).before args0 about1 = true := code_word (m := ⟨13, 2⟩) (meth := k13m2) (c := k13c2) (by decide +kernel) rfl rfl rfl (by decide +kernel)
set_option maxRecDepth 65536 in
theorem w_c26 : (Jvm.Cond.code ({ cls := "java/util/Arrays", name := "copyOfRangeByte", desc := "([BII)[B" } : Jvm.MethodName) jdk_65_method_133_code (5 : Nat) (Option.some (Jvm.ClassFile.FieldType.array Jvm.ClassFile.FieldType.byte))).before args0 about1 = true := code_word (m := ⟨13, 3⟩) (meth := k13m3) (c := k13c3) (by decide +kernel) rfl rfl rfl (by decide +kernel)
set_option maxRecDepth 65536 in
theorem w_c27 : (Jvm.Cond.code ({ cls := "java/util/Arrays", name := "checkLength", desc := "(II)V" } : Jvm.MethodName) jdk_65_method_131_code (2 : Nat) (Option.none : Option Jvm.ClassFile.FieldType)).before args0 about1 = true := code_word (m := ⟨13, 1⟩) (meth := k13m1) (c := k13c1) (by decide +kernel) rfl rfl rfl (by decide +kernel)
set_option maxRecDepth 65536 in
theorem w_c28 : (Jvm.Cond.code ({ cls := "java/lang/Math", name := "min", desc := "(II)I" } : Jvm.MethodName) jdk_29_method_69_code (2 : Nat) (Option.some Jvm.ClassFile.FieldType.int)).before args0 about1 = true := code_word (m := ⟨14, 1⟩) (meth := k14m1) (c := k14c1) (by decide +kernel) rfl rfl rfl (by decide +kernel)
set_option maxRecDepth 65536 in
theorem w_c29 : (Jvm.Cond.code ({ cls := "java/lang/String", name := "<init>", desc := "([BB)V" } : Jvm.MethodName) jdk_42_method_151_code (3 : Nat) (Option.none : Option Jvm.ClassFile.FieldType)).before args0 about1 = true := code_word (m := ⟨7, 9⟩) (meth := k7m9) (c := k7c9) (by decide +kernel) rfl rfl rfl (by decide +kernel)
def codes1 : List Jvm.Cond := [Jvm.Cond.code x code maxLocals ret, Jvm.Cond.code ({ cls := "com/example/feedwright/feedwright/http/EntityTagsMatchWeaklyPinLaw", name := "ch", desc := "(I)C" } : Jvm.MethodName) method_3_code (2 : Nat) (Option.some Jvm.ClassFile.FieldType.char), Jvm.Cond.code ({ cls := "com/example/feedwright/feedwright/http/EntityTagsMatchWeaklyPinLaw", name := "tag", desc := "(ZZCC)Ljava/lang/String;" } : Jvm.MethodName) method_4_code (4 : Nat) (Option.some (Jvm.ClassFile.FieldType.object "java/lang/String")), Jvm.Cond.code ({ cls := "java/lang/String", name := "<init>", desc := "([C)V" } : Jvm.MethodName) jdk_42_method_3_code (2 : Nat) (Option.none : Option Jvm.ClassFile.FieldType), Jvm.Cond.code ({ cls := "java/lang/String", name := "<init>", desc := "([CIILjava/lang/Void;)V" } : Jvm.MethodName) jdk_42_method_149_code (6 : Nat) (Option.none : Option Jvm.ClassFile.FieldType), Jvm.Cond.code ({ cls := "java/lang/Object", name := "<init>", desc := "()V" } : Jvm.MethodName) object_method_1_code (1 : Nat) (Option.none : Option Jvm.ClassFile.FieldType), Jvm.Cond.code ({ cls := "java/lang/StringUTF16", name := "compress", desc := "([CII)[B" } : Jvm.MethodName) jdk_52_method_16_code (6 : Nat) (Option.some (Jvm.ClassFile.FieldType.array Jvm.ClassFile.FieldType.byte)), Jvm.Cond.code ({ cls := "java/lang/StringUTF16", name := "compress", desc := "([CI[BII)I" } : Jvm.MethodName) jdk_52_method_21_code (7 : Nat) (Option.some Jvm.ClassFile.FieldType.int), Jvm.Cond.code ({ cls := "java/lang/StringUTF16", name := "coderFromArrayLen", desc := "([BI)B" } : Jvm.MethodName) jdk_52_method_15_code (2 : Nat) (Option.some Jvm.ClassFile.FieldType.byte), Jvm.Cond.code ({ cls := "com/example/feedwright/feedwright/http/EntityTags", name := "matchWeakly", desc := "(Ljava/lang/String;Ljava/lang/String;)Z" } : Jvm.MethodName) prog_34_method_4_code (2 : Nat) (Option.some Jvm.ClassFile.FieldType.boolean), Jvm.Cond.code ({ cls := "com/example/feedwright/feedwright/http/EntityTags", name := "opaque", desc := "(Ljava/lang/String;)Ljava/lang/String;" } : Jvm.MethodName) prog_34_method_5_code (1 : Nat) (Option.some (Jvm.ClassFile.FieldType.object "java/lang/String")), Jvm.Cond.code ({ cls := "com/example/feedwright/feedwright/http/EntityTags", name := "isWeak", desc := "(Ljava/lang/String;)Z" } : Jvm.MethodName) prog_34_method_3_code (1 : Nat) (Option.some Jvm.ClassFile.FieldType.boolean), Jvm.Cond.code ({ cls := "java/lang/String", name := "startsWith", desc := "(Ljava/lang/String;)Z" } : Jvm.MethodName) jdk_42_method_76_code (2 : Nat) (Option.some Jvm.ClassFile.FieldType.boolean), Jvm.Cond.code ({ cls := "java/lang/String", name := "startsWith", desc := "(Ljava/lang/String;I)Z" } : Jvm.MethodName) jdk_42_method_75_code (8 : Nat) (Option.some Jvm.ClassFile.FieldType.boolean), Jvm.Cond.code ({ cls := "java/lang/String", name := "length", desc := "()I" } : Jvm.MethodName) jdk_42_method_54_code (1 : Nat) (Option.some Jvm.ClassFile.FieldType.int), Jvm.Cond.code ({ cls := "java/lang/String", name := "coder", desc := "()B" } : Jvm.MethodName) jdk_42_method_152_code (1 : Nat) (Option.some Jvm.ClassFile.FieldType.byte), Jvm.Cond.code ({ cls := "jdk/internal/util/ArraysSupport", name := "mismatch", desc := "([BI[BII)I" } : Jvm.MethodName) jdk_48_method_14_code (8 : Nat) (Option.some Jvm.ClassFile.FieldType.int), Jvm.Cond.code ({ cls := "java/lang/String", name := "equals", desc := "(Ljava/lang/Object;)Z" } : Jvm.MethodName) jdk_42_method_66_code (3 : Nat) (Option.some Jvm.ClassFile.FieldType.boolean), Jvm.Cond.code ({ cls := "java/lang/StringLatin1", name := "equals", desc := "([B[B)Z" } : Jvm.MethodName) jdk_43_method_13_code (3 : Nat) (Option.some Jvm.ClassFile.FieldType.boolean), Jvm.Cond.code ({ cls := "java/lang/String", name := "substring", desc := "(I)Ljava/lang/String;" } : Jvm.MethodName) jdk_42_method_91_code (2 : Nat) (Option.some (Jvm.ClassFile.FieldType.object "java/lang/String")), Jvm.Cond.code ({ cls := "java/lang/String", name := "substring", desc := "(II)Ljava/lang/String;" } : Jvm.MethodName) jdk_42_method_92_code (5 : Nat) (Option.some (Jvm.ClassFile.FieldType.object "java/lang/String")), Jvm.Cond.code ({ cls := "java/lang/String", name := "checkBoundsBeginEnd", desc := "(III)V" } : Jvm.MethodName) jdk_42_method_158_code (3 : Nat) (Option.none : Option Jvm.ClassFile.FieldType), Jvm.Cond.code ({ cls := "jdk/internal/util/Preconditions", name := "checkFromToIndex", desc := "(IIILjava/util/function/BiFunction;)I" } : Jvm.MethodName) jdk_41_method_12_code (4 : Nat) (Option.some Jvm.ClassFile.FieldType.int), Jvm.Cond.code ({ cls := "java/lang/String", name := "isLatin1", desc := "()Z" } : Jvm.MethodName) jdk_42_method_154_code (1 : Nat) (Option.some Jvm.ClassFile.FieldType.boolean), Jvm.Cond.code ({ cls := "java/lang/StringLatin1", name := "newString", desc := "([BII)Ljava/lang/String;" } : Jvm.MethodName) jdk_43_method_47_code (3 : Nat) (Option.some (Jvm.ClassFile.FieldType.object "java/lang/String")), Jvm.Cond.code ({ cls := "java/util/Arrays", name := "copyOfRange", desc := "([BII)[B" } : Jvm.MethodName) jdk_65_method_132_code (3 : Nat) (Option.some (Jvm.ClassFile.FieldType.array Jvm.ClassFile.FieldType.byte)), Jvm.Cond.code ({ cls := "java/util/Arrays", name := "copyOfRangeByte", desc := "([BII)[B" } : Jvm.MethodName) jdk_65_method_133_code (5 : Nat) (Option.some (Jvm.ClassFile.FieldType.array Jvm.ClassFile.FieldType.byte)), Jvm.Cond.code ({ cls := "java/util/Arrays", name := "checkLength", desc := "(II)V" } : Jvm.MethodName) jdk_65_method_131_code (2 : Nat) (Option.none : Option Jvm.ClassFile.FieldType), Jvm.Cond.code ({ cls := "java/lang/Math", name := "min", desc := "(II)I" } : Jvm.MethodName) jdk_29_method_69_code (2 : Nat) (Option.some Jvm.ClassFile.FieldType.int), Jvm.Cond.code ({ cls := "java/lang/String", name := "<init>", desc := "([BB)V" } : Jvm.MethodName) jdk_42_method_151_code (3 : Nat) (Option.none : Option Jvm.ClassFile.FieldType)]
set_option maxRecDepth 65536 in
theorem codes_eq : words1.filter isCode = codes1 := rfl
theorem w_codes : ∀ c ∈ words1.filter isCode, c.before args0 about1 = true := by
  rw [codes_eq]
  intro c hc
  simp only [codes1, List.mem_cons, List.not_mem_nil, or_false] at hc
  rcases hc with rfl | rfl | rfl | rfl | rfl | rfl | rfl | rfl | rfl | rfl | rfl | rfl | rfl | rfl | rfl | rfl | rfl | rfl | rfl | rfl | rfl | rfl | rfl | rfl | rfl | rfl | rfl | rfl | rfl | rfl
  · exact w_c0
  · exact w_c1
  · exact w_c2
  · exact w_c3
  · exact w_c4
  · exact w_c5
  · exact w_c6
  · exact w_c7
  · exact w_c8
  · exact w_c9
  · exact w_c10
  · exact w_c11
  · exact w_c12
  · exact w_c13
  · exact w_c14
  · exact w_c15
  · exact w_c16
  · exact w_c17
  · exact w_c18
  · exact w_c19
  · exact w_c20
  · exact w_c21
  · exact w_c22
  · exact w_c23
  · exact w_c24
  · exact w_c25
  · exact w_c26
  · exact w_c27
  · exact w_c28
  · exact w_c29
set_option maxRecDepth 65536 in
theorem w_t1 : (words1.take 24).all (fun c => isCode c || c.before args0 about1) = true := by decide +kernel
set_option maxRecDepth 65536 in
theorem w_t2 : ((words1.drop 24).take 24).all (fun c => isCode c || c.before args0 about1) = true := by decide +kernel
set_option maxRecDepth 65536 in
theorem w_t3 : (((words1.drop 24).drop 24).take 24).all (fun c => isCode c || c.before args0 about1) = true := by decide +kernel
set_option maxRecDepth 65536 in
theorem w_t4 : ((((words1.drop 24).drop 24).drop 24).take 24).all (fun c => isCode c || c.before args0 about1) = true := by decide +kernel
set_option maxRecDepth 65536 in
theorem w_t5 : (((((words1.drop 24).drop 24).drop 24).drop 24).take 24).all (fun c => isCode c || c.before args0 about1) = true := by decide +kernel
set_option maxRecDepth 65536 in
theorem w_t6 : (((((words1.drop 24).drop 24).drop 24).drop 24).drop 24).all (fun c => isCode c || c.before args0 about1) = true := by decide +kernel
theorem w_tables : (allAtoms (Jvm.Cond.code x code maxLocals ret :: tables_1)).before args0 about1 = true := by
  rw [allAtoms_all]
  show words1.all (fun c => c.before args0 about1) = true
  refine all_split ?_ w_codes
  rw [← List.take_append_drop 24 words1, List.all_append, w_t1, ← List.take_append_drop 24 (words1.drop 24), List.all_append, w_t2, ← List.take_append_drop 24 ((words1.drop 24).drop 24), List.all_append, w_t3, ← List.take_append_drop 24 (((words1.drop 24).drop 24).drop 24), List.all_append, w_t4, ← List.take_append_drop 24 ((((words1.drop 24).drop 24).drop 24).drop 24), List.all_append, w_t5, w_t6]
  rfl
set_option maxRecDepth 65536 in
theorem w_rest : rest_1_c.before args0 about1 = true := by decide +kernel
set_option maxRecDepth 65536 in
theorem w_case : (Jvm.Cond.and given_1 narrow_1).before args0 about1 = true := by decide +kernel
set_option maxRecDepth 65536 in
theorem w_consts : constsHeld consts_1 about1 := Jvm.Lit.constsHeldB_iff.mp (by decide +kernel)
theorem w_applies : (headSpec (Jvm.Cond.code x code maxLocals ret :: tables_1) room_1).applies x e0.platform about1 = true :=
  (Spec.applies_iff w_frames).mpr ⟨w_running, w_runnable, w_alone, w_named, w_hears, w_ripe, w_room, w_tables⟩
theorem atStart : AtStart classFile x code maxLocals ret World_1 tables_1 room_1 Calls_1 rest_1 Pre_1 launch0 p0 e0 about1 theMethod args0 below0 :=
  ⟨lists_1, trivial, launch0.admits_env _ _ _, launch0.least_env, fairChoices_fair.cas, fairChoices_fair.clock, w_frames, w_args, w_heap, w_applies, ⟨w_consts, trivial⟩, w_rest, w_case⟩
end start1
theorem witness_1 : WitnessClaimed_1 := ⟨start1.p0, start1.e0, start1.about1, start1.theMethod, start1.args0, start1.below0, start1.atStart⟩
end Jvm.Pilot.@@N@@
