import JvmDerived
import JvmDerived.Pilot.@@N@@Statement
import JvmDerived.Pilot.@@N@@Code
set_option linter.unusedVariables false
set_option linter.unusedSimpArgs false
/- laws to paste: Road.backV (cut by pick.py; bodies as the Statement names them) -/
namespace Jvm.Pilot.@@N@@
namespace StrChars
open Jvm Sem ClassFile Op Lib Jvm.Stand Jvm.Free.XT Jvm.Free.ALB Jvm.Free.JM Jvm.Free
open Jvm.Lib.Cold (StaticIs)
/-- a char array whose places are chars -/
def Ch (a : Addr) (A : Cell) (U : State) : Prop := Arr .char a A U ∧ Typed .char A
theorem Ch.mv {a : Addr} {A : Cell} {U U' : State} (h : Ch a A U) (hal : U.vm.Alike U'.vm) (hh : U'.heap = U.heap) : Ch a A U' := ⟨h.1.mv hal hh, h.2⟩
theorem Ch.keep {a : Addr} {A : Cell} {U U' : State} (h : Ch a A U) (hal : U.vm.Alike U'.vm) (hk : U'.heap[a]? = some A) : Ch a A U' := ⟨h.1.keep hal hk, h.2⟩
/-- what place i of a char[]'s cell holds -/
def cv (A : Cell) (i : Nat) : Int32 := match A.slots[i]? with | some (.int x) => x | _ => 0
theorem Ch.get {a : Addr} {A : Cell} {U : State} (h : Ch a A U) {i : Nat} (hi : i < A.slots.size) : A.slots[i]? = some (.int (cv A i)) := by
  have e := Array.getElem?_eq_getElem hi
  have f := h.2 i _ e
  unfold cv; rw [e]
  generalize A.slots[i] = v at f
  cases v <;> simp [fits] at f ⊢
/-- the byte that i2b leaves of a char -/
def lo8 (x : Int32) : Int32 := x.toInt8.toInt32
theorem fits_lo8 (y : Int32) : fits .byte (.int (lo8 y)) = true := by
  have h1 := y.toInt8.le_toInt
  have h2 := y.toInt8.toInt_lt
  simp only [lo8, fits, Bool.and_eq_true, decide_eq_true_eq, Int32.le_iff_toInt_le, Int8.toInt_toInt32, show (-128 : Int32).toInt = -128 from by decide, show (127 : Int32).toInt = 127 from by decide]
  omega
/-- A' is A but that each place j of lo .. hi - 1 holds f j -/
def Laid (A A' : Cell) (lo hi : Nat) (f : Nat → Value) : Prop := A'.cls = A.cls ∧ A'.vm = A.vm ∧ A'.slots.size = A.slots.size ∧ ∀ i, A'.slots[i]? = if lo ≤ i ∧ i < hi then some (f i) else A.slots[i]?
theorem Laid.zero (A : Cell) (lo : Nat) (f : Nat → Value) : Laid A A lo (lo + 0) f := ⟨rfl, rfl, rfl, fun i => by rw [if_neg (by omega)]⟩
theorem Laid.step {A Ak : Cell} {lo k : Nat} {f : Nat → Value} {v : Value} (h : Laid A Ak lo k f) (hlo : lo ≤ k) (hk : k < Ak.slots.size) (hv : v = f k) : Laid A (Ak.setSlot k v) lo (k + 1) f := by
  refine ⟨h.1, h.2.1, by simpa [Cell.setSlot] using h.2.2.1, fun i => ?_⟩
  by_cases e : k = i
  · subst e; rw [Cell.slots_setSlot_self v hk, if_pos (by omega), hv]
  · rw [Cell.slots_setSlot_ne v e, h.2.2.2 i]
    by_cases q : lo ≤ i ∧ i < k
    · rw [if_pos q, if_pos (by omega)]
    · rw [if_neg q, if_neg (by omega)]
def U16 : String := "java/lang/StringUTF16"
namespace Cmp5
def yN : MethodName := ⟨"java/lang/StringUTF16", "compress", "([CI[BII)I"⟩
abbrev yB : ByteArray := jdk_52_method_21_code
theorem d0 : decode yB 0 = .ok (.iconst 0, 1) := by decide +kernel
theorem d1 : decode yB 1 = .ok (.istore 5, 2) := by decide +kernel
theorem d3 : decode yB 3 = .ok (.iload 5, 2) := by decide +kernel
theorem d5 : decode yB 5 = .ok (.iload 4, 2) := by decide +kernel
theorem d7 : decode yB 7 = .ok (.if_icmp (.ge) 37, 3) := by decide +kernel
theorem d10 : decode yB 10 = .ok (.aload_n 0, 1) := by decide +kernel
theorem d11 : decode yB 11 = .ok (.iload_n 1, 1) := by decide +kernel
theorem d12 : decode yB 12 = .ok (.caload, 1) := by decide +kernel
theorem d13 : decode yB 13 = .ok (.istore 6, 2) := by decide +kernel
theorem d15 : decode yB 15 = .ok (.iload 6, 2) := by decide +kernel
theorem d17 : decode yB 17 = .ok (.sipush 255, 3) := by decide +kernel
theorem d20 : decode yB 20 = .ok (.if_icmp (.le) 6, 3) := by decide +kernel
theorem d26 : decode yB 26 = .ok (.aload_n 2, 1) := by decide +kernel
theorem d27 : decode yB 27 = .ok (.iload_n 3, 1) := by decide +kernel
theorem d28 : decode yB 28 = .ok (.iload 6, 2) := by decide +kernel
theorem d30 : decode yB 30 = .ok (.i2b, 1) := by decide +kernel
theorem d31 : decode yB 31 = .ok (.bastore, 1) := by decide +kernel
theorem d32 : decode yB 32 = .ok (.iinc 1 1, 3) := by decide +kernel
theorem d35 : decode yB 35 = .ok (.iinc 3 1, 3) := by decide +kernel
theorem d38 : decode yB 38 = .ok (.iinc 5 1, 3) := by decide +kernel
theorem d41 : decode yB 41 = .ok (.goto (-38), 3) := by decide +kernel
theorem d44 : decode yB 44 = .ok (.iload 4, 2) := by decide +kernel
theorem d46 : decode yB 46 = .ok (.ireturn, 1) := by decide +kernel
def site : List Cond := []
def tab : Cond := tabOf yN yB 7 (some .int) site
def P (b : Addr) (A : Cell) (d : Addr) (B : Cell) (o q len : Nat) (args : Array Value) (s : State) : Prop := args = #[.ref b, .int (Int32.ofNat o), .ref d, .int (Int32.ofNat q), .int (Int32.ofNat len)] ∧ Ch b A s ∧ Arr .byte d B s ∧ b ≠ d ∧ o + len ≤ A.slots.size ∧ q + len ≤ B.slots.size ∧ ∀ i, i < len → ¬ 255 < cv A (o + i)
def E (b : Addr) (A : Cell) (d : Addr) (B : Cell) (o q len : Nat) (r : Option Value) (s u : State) : Prop := r = some (.int (Int32.ofNat len)) ∧ ∃ B', Put d B' s u ∧ Laid B B' q (q + len) (fun j => Value.int (lo8 (cv A (o + (j - q)))))
/-- no char of the range above 255: len; the places written hold each char's low byte -/
theorem law (l : Launch) (b : Addr) (A : Cell) (d : Addr) (B : Cell) (o q len : Nat) : Law l yN 5 5 0 0 yB 7 (some .int) site (P b A d B o q len) (E b A d B o q len) (copyLocs d q len) 0 0 := by
  refine Law.of_walk (plainFor_of_name (by decide +kernel)) (by decide +kernel) (by decide +kernel) (by decide) (fun _ _ h => by rw [h.1]; rfl) (fun _ U U' hal hh h => ⟨h.1, h.2.1.mv hal hh, h.2.2.1.mv hal hh, h.2.2.2⟩) (fun r U U' V V' h1 hal h2 h => ⟨h.1, h.2.elim fun B' q => ⟨B', q.1.mv h1 h2, q.2⟩⟩) ?_
  intro p e s m args below meth c s₁ X0 hexec hbytes hml hret hlk hnm hown hh0 W hP
  obtain ⟨rfl, hA, hB, hne, l1, l2, hp⟩ := hP
  have c1 : Steps p.tables e below (s₁.setTop (entryFrame m #[.ref b, .int (Int32.ofNat o), .ref d, .int (Int32.ofNat q), .int (Int32.ofNat len)] 7)) (s₁.setTop (mkF m 0 #[.val (.ref b), .val (.int (Int32.ofNat o)), .val (.ref d), .val (.int (Int32.ofNat q)), .val (.int (Int32.ofNat len)), .unset, .unset] [])) := entry rfl
  have hA0 := hA.1.mv X0.warmed.alike hh0
  have hB0 := hB.mv X0.warmed.alike hh0
  have a31 := hA.1.2.2.2
  have c2 : Steps p.tables e below (s₁.setTop (entryFrame m #[.ref b, .int (Int32.ofNat o), .ref d, .int (Int32.ofNat q), .int (Int32.ofNat len)] 7)) (s₁.setTop (mkF m 3 #[.val (.ref b), .val (.int (Int32.ofNat o)), .val (.ref d), .val (.int (Int32.ofNat q)), .val (.int (Int32.ofNat len)), .val (.int 0), .unset] [])) := c1.trans (by
    refine iconstV X0.here hexec rfl 0 (hb hbytes d0) (by decide) ?_
    refine XS.istore X0.here hexec rfl (hb hbytes d1) rfl rfl ?_
    exact Steps.refl _)
  have loop : ∀ (r i : Nat), i + r = len → ∀ (z : Slot), (z = .unset ∨ ∃ w, z = .val w ∧ w.category = 1) → ∀ (Tl : State) (Bk : Cell), Stand p l e { frames := 0, locals := 0, cells := 0, slots := 0 } s m #[.ref b, .int (Int32.ofNat o), .ref d, .int (Int32.ofNat q), .int (Int32.ofNat len)] below meth c Tl ([] ++ copyLocs d q i) 0 0 → Put d Bk s₁ Tl → Laid B Bk q (q + i) (fun j => Value.int (lo8 (cv A (o + (j - q))))) →
      Steps p.tables e below (s₁.setTop (entryFrame m #[.ref b, .int (Int32.ofNat o), .ref d, .int (Int32.ofNat q), .int (Int32.ofNat len)] 7)) (Tl.setTop (mkF m 3 #[.val (.ref b), .val (.int (Int32.ofNat (o + i))), .val (.ref d), .val (.int (Int32.ofNat (q + i))), .val (.int (Int32.ofNat len)), .val (.int (Int32.ofNat i)), z] [])) → ∃ (T' : State) (B' : Cell) (z' : Slot), Stand p l e { frames := 0, locals := 0, cells := 0, slots := 0 } s m #[.ref b, .int (Int32.ofNat o), .ref d, .int (Int32.ofNat q), .int (Int32.ofNat len)] below meth c T' ([] ++ copyLocs d q len) 0 0 ∧ Put d B' s₁ T' ∧ Laid B B' q (q + len) (fun j => Value.int (lo8 (cv A (o + (j - q))))) ∧
      Steps p.tables e below (s₁.setTop (entryFrame m #[.ref b, .int (Int32.ofNat o), .ref d, .int (Int32.ofNat q), .int (Int32.ofNat len)] 7)) (T'.setTop (mkF m 3 #[.val (.ref b), .val (.int (Int32.ofNat (o + len))), .val (.ref d), .val (.int (Int32.ofNat (q + len))), .val (.int (Int32.ofNat len)), .val (.int (Int32.ofNat len)), z'] [])) := by
    intro r
    induction r with
    | zero =>
      intro i hi z hz Tl Bk Xl pl fl cl
      have hil : i = len := by omega
      rw [hil] at Xl fl cl
      exact ⟨Tl, Bk, z, Xl, pl, fl, cl⟩
    | succ r ih =>
      intro i hi z hz Tl Bk Xl pl fl cl
      have all := X0.warmed.alike.symm.trans Xl.warmed.alike
      have hAl := hA0.keep all (pl.other hne hA0.1)
      have hBk := hB0.like all pl.1 fl.1 fl.2.1 fl.2.2.1
      have hlt : q + i < Bk.slots.size := by rw [fl.2.2.1]; omega
      have c3 : Steps p.tables e below (s₁.setTop (entryFrame m #[.ref b, .int (Int32.ofNat o), .ref d, .int (Int32.ofNat q), .int (Int32.ofNat len)] 7)) (Tl.setTop (mkF m 12 #[.val (.ref b), .val (.int (Int32.ofNat (o + i))), .val (.ref d), .val (.int (Int32.ofNat (q + i))), .val (.int (Int32.ofNat len)), .val (.int (Int32.ofNat i)), z] [.int (Int32.ofNat (o + i)), .ref b])) := cl.trans (by
        refine XS.iload Xl.here hexec rfl (hb hbytes d3) rfl ?_
        refine XS.iload Xl.here hexec rfl (hb hbytes d5) rfl ?_
        refine XS.icmpNo Xl.here hexec rfl (hb hbytes d7) rfl (ii_ge_f (lt32 (by omega) (by omega))) ?_
        refine XS.aloadN Xl.here hexec rfl (hb hbytes d10) rfl rfl ?_
        refine XS.iloadN Xl.here hexec rfl (hb hbytes d11) rfl ?_
        exact Steps.refl _)
      have c4 : Steps p.tables e below (s₁.setTop (entryFrame m #[.ref b, .int (Int32.ofNat o), .ref d, .int (Int32.ofNat q), .int (Int32.ofNat len)] 7)) (Tl.setTop (mkF m 13 #[.val (.ref b), .val (.int (Int32.ofNat (o + i))), .val (.ref d), .val (.int (Int32.ofNat (q + i))), .val (.int (Int32.ofNat len)), .val (.int (Int32.ofNat i)), z] [.int (cv A (o + i))])) := c3.trans (by
        refine Xl.aget hexec hAl rfl (hA.get (i := o + i) (by omega)) rfl rfl (hb hbytes d12) ?_
        exact Steps.refl _)
      have c5 : Steps p.tables e below (s₁.setTop (entryFrame m #[.ref b, .int (Int32.ofNat o), .ref d, .int (Int32.ofNat q), .int (Int32.ofNat len)] 7)) (Tl.setTop (mkF m 15 #[.val (.ref b), .val (.int (Int32.ofNat (o + i))), .val (.ref d), .val (.int (Int32.ofNat (q + i))), .val (.int (Int32.ofNat len)), .val (.int (Int32.ofNat i)), .val (.int (cv A (o + i)))] [])) := c4.trans (by
        refine XS.istoreS Xl.here hexec rfl (hb hbytes d13) rfl rfl hz ?_
        exact Steps.refl _)
      have c6 : Steps p.tables e below (s₁.setTop (entryFrame m #[.ref b, .int (Int32.ofNat o), .ref d, .int (Int32.ofNat q), .int (Int32.ofNat len)] 7)) (Tl.setTop (mkF m 31 #[.val (.ref b), .val (.int (Int32.ofNat (o + i))), .val (.ref d), .val (.int (Int32.ofNat (q + i))), .val (.int (Int32.ofNat len)), .val (.int (Int32.ofNat i)), .val (.int (cv A (o + i)))] [.int (lo8 (cv A (o + i))), .int (Int32.ofNat (q + i)), .ref d])) := c5.trans (by
        refine XS.iload Xl.here hexec rfl (hb hbytes d15) rfl ?_
        refine sipushV Xl.here hexec rfl 255 (hb hbytes d17) (by decide) ?_
        refine XS.icmpYes Xl.here hexec rfl (pc0 := 20) rfl (hb hbytes d20) rfl (ii_le_t (hp i (by omega))) (by decide) rfl ?_
        refine XS.aloadN Xl.here hexec rfl (hb hbytes d26) rfl rfl ?_
        refine XS.iloadN Xl.here hexec rfl (hb hbytes d27) rfl ?_
        refine XS.iload Xl.here hexec rfl (hb hbytes d28) rfl ?_
        refine i2b Xl.here hexec rfl (hb hbytes d30) rfl ?_
        exact Steps.refl _)
      obtain ⟨T7, X7, p7, st7⟩ := Xl.aput hexec hBk rfl hlt rfl (fits_lo8 (cv A (o + i))) (g := (mkF m 31 #[.val (.ref b), .val (.int (Int32.ofNat (o + i))), .val (.ref d), .val (.int (Int32.ofNat (q + i))), .val (.int (Int32.ofNat len)), .val (.int (Int32.ofNat i)), .val (.int (cv A (o + i)))] [.int (lo8 (cv A (o + i))), .int (Int32.ofNat (q + i)), .ref d])) rfl (rest := []) rfl (hb hbytes d31)
      have c8 : Steps p.tables e below (s₁.setTop (entryFrame m #[.ref b, .int (Int32.ofNat o), .ref d, .int (Int32.ofNat q), .int (Int32.ofNat len)] 7)) (T7.setTop (mkF m 32 #[.val (.ref b), .val (.int (Int32.ofNat (o + i))), .val (.ref d), .val (.int (Int32.ofNat (q + i))), .val (.int (Int32.ofNat len)), .val (.int (Int32.ofNat i)), .val (.int (cv A (o + i)))] [])) := c6.trans (st7 _ (Steps.refl _))
      have c9 : Steps p.tables e below (s₁.setTop (entryFrame m #[.ref b, .int (Int32.ofNat o), .ref d, .int (Int32.ofNat q), .int (Int32.ofNat len)] 7)) (T7.setTop (mkF m 3 #[.val (.ref b), .val (.int (Int32.ofNat (o + i) + 1)), .val (.ref d), .val (.int (Int32.ofNat (q + i) + 1)), .val (.int (Int32.ofNat len)), .val (.int (Int32.ofNat i + 1)), .val (.int (cv A (o + i)))] [])) := c8.trans (by
        refine iincV X7.here hexec rfl 1 (hb hbytes d32) (by decide) rfl rfl ?_
        refine iincV X7.here hexec rfl 1 (hb hbytes d35) (by decide) rfl rfl ?_
        refine iincV X7.here hexec rfl 1 (hb hbytes d38) (by decide) rfl rfl ?_
        refine XS.goto X7.here hexec rfl (pc0 := 41) rfl (hb hbytes d41) (by decide) rfl ?_
        exact Steps.refl _)
      have c10 : Steps p.tables e below (s₁.setTop (entryFrame m #[.ref b, .int (Int32.ofNat o), .ref d, .int (Int32.ofNat q), .int (Int32.ofNat len)] 7)) (T7.setTop (mkF m 3 #[.val (.ref b), .val (.int (Int32.ofNat (o + (i + 1)))), .val (.ref d), .val (.int (Int32.ofNat (q + (i + 1)))), .val (.int (Int32.ofNat len)), .val (.int (Int32.ofNat (i + 1))), .val (.int (cv A (o + i)))] [])) := by
        have := c9
        rw [succ32, succ32, succ32] at this
        exact this
      exact ih (i + 1) (by omega) _ (Or.inr ⟨_, rfl, rfl⟩) T7 _ (by rw [copyLocs_step, ← List.append_assoc]; exact X7) (pl.trans p7) (fl.step (by omega) hlt (by simp)) c10
  obtain ⟨T9, B9, z9, X9, p9, f9, g9⟩ := loop len 0 (by omega) .unset (Or.inl rfl) s₁ B (by simpa [copyLocs] using X0) ⟨hB0.1, fun _ _ => rfl, rfl⟩ (Laid.zero _ _ _) c2
  have c11 : Steps p.tables e below (s₁.setTop (entryFrame m #[.ref b, .int (Int32.ofNat o), .ref d, .int (Int32.ofNat q), .int (Int32.ofNat len)] 7)) (T9.setTop (mkF m 46 #[.val (.ref b), .val (.int (Int32.ofNat (o + len))), .val (.ref d), .val (.int (Int32.ofNat (q + len))), .val (.int (Int32.ofNat len)), .val (.int (Int32.ofNat len)), z9] [.int (Int32.ofNat len)])) := g9.trans (by
    refine XS.iload X9.here hexec rfl (hb hbytes d3) rfl ?_
    refine XS.iload X9.here hexec rfl (hb hbytes d5) rfl ?_
    refine XS.icmpYes X9.here hexec rfl (pc0 := 7) rfl (hb hbytes d7) rfl (ii_ge_t (nlt32 (by omega) (Nat.le_refl _))) (by decide) rfl ?_
    refine XS.iload X9.here hexec rfl (hb hbytes d44) rfl ?_
    exact Steps.refl _)
  exact ⟨T9, some (.int (Int32.ofNat len)), _, _, _, X9, by simp, rfl, rfl, (fun h => by cases h), ⟨rfl, B9, p9.from hh0, f9⟩, fun fs hl => c11.trans (X9.ireturnOut hexec hret rfl (Or.inl rfl) (hb hbytes d46) hl)⟩
end Cmp5
namespace Cmp3
def yN : MethodName := ⟨"java/lang/StringUTF16", "compress", "([CII)[B"⟩
abbrev yB : ByteArray := jdk_52_method_16_code
theorem d0 : decode yB 0 = .ok (.iload_n 2, 1) := by decide +kernel
theorem d1 : decode yB 1 = .ok (.newarray .byte, 2) := by decide +kernel
theorem d3 : decode yB 3 = .ok (.astore_n 3, 1) := by decide +kernel
theorem d4 : decode yB 4 = .ok (.aload_n 0, 1) := by decide +kernel
theorem d5 : decode yB 5 = .ok (.iload_n 1, 1) := by decide +kernel
theorem d6 : decode yB 6 = .ok (.aload_n 3, 1) := by decide +kernel
theorem d7 : decode yB 7 = .ok (.iconst 0, 1) := by decide +kernel
theorem d8 : decode yB 8 = .ok (.iload_n 2, 1) := by decide +kernel
theorem d9 : decode yB 9 = .ok (.invokestatic 115, 3) := by decide +kernel
theorem d12 : decode yB 12 = .ok (.istore 4, 2) := by decide +kernel
theorem d14 : decode yB 14 = .ok (.iload 4, 2) := by decide +kernel
theorem d16 : decode yB 16 = .ok (.iload_n 2, 1) := by decide +kernel
theorem d17 : decode yB 17 = .ok (.if_icmp (.eq) 40, 3) := by decide +kernel
theorem d57 : decode yB 57 = .ok (.aload_n 3, 1) := by decide +kernel
theorem d58 : decode yB 58 = .ok (.areturn, 1) := by decide +kernel
def site : List Cond := [.arrayClass .byte, Cmp5.tab] ++ staticW U16 115 Cmp5.yN
def tab : Cond := tabOf yN yB 6 (some (.array .byte)) site
def P (b : Addr) (A : Cell) (o len : Nat) (args : Array Value) (s : State) : Prop := args = #[.ref b, .int (Int32.ofNat o), .int (Int32.ofNat len)] ∧ Ch b A s ∧ o + len ≤ A.slots.size ∧ len ≤ 536870912 ∧ ∀ i, i < len → ¬ 255 < cv A (o + i)
def E (b : Addr) (A : Cell) (o len : Nat) (r : Option Value) (s u : State) : Prop := NewArr .byte "[B" len (fun j => .int (lo8 (cv A (o + j)))) r s u ∧ u.heap.size = s.heap.size + 1
/-- no char of the range above 255: a new byte[] of their low bytes -/
theorem law (l : Launch) (b : Addr) (A : Cell) (o len : Nat) : Law l yN 3 3 1 18 yB 6 (some (.array .byte)) site (P b A o len) (E b A o len) [] 1 len := by
  refine Law.of_walk (plainFor_of_name (by decide +kernel)) (by decide +kernel) (by decide +kernel) (by decide) (fun _ _ h => by rw [h.1]; rfl) (fun _ U U' hal hh h => ⟨h.1, h.2.1.mv hal hh, h.2.2⟩) (fun r U U' V V' h1 hal h2 h => ⟨NewArr.mv r U U' V V' h1 hal h2 h.1, by rw [h1, h2]; exact h.2⟩) ?_
  intro p e s m args below meth c s₁ X0 hexec hbytes hml hret hlk hnm hown hh0 W hP
  obtain ⟨rfl, hA, l1, l2, hp⟩ := hP
  have a31 := hA.1.2.2.2
  have c1 : Steps p.tables e below (s₁.setTop (entryFrame m #[.ref b, .int (Int32.ofNat o), .int (Int32.ofNat len)] 6)) (s₁.setTop (mkF m 0 #[.val (.ref b), .val (.int (Int32.ofNat o)), .val (.int (Int32.ofNat len)), .unset, .unset, .unset] [])) := entry rfl
  have c2 : Steps p.tables e below (s₁.setTop (entryFrame m #[.ref b, .int (Int32.ofNat o), .int (Int32.ofNat len)] 6)) (s₁.setTop (mkF m 1 #[.val (.ref b), .val (.int (Int32.ofNat o)), .val (.int (Int32.ofNat len)), .unset, .unset, .unset] [.int (Int32.ofNat len)])) := c1.trans (by
    refine XS.iloadN X0.here hexec rfl (hb hbytes d0) rfl ?_
    exact Steps.refl _)
  obtain ⟨T3, B3, X3, ba3, bs3, bv3, bh3, bf3, st3⟩ := X0.anew hexec (atype := .byte) (wk W (.arrayClass .byte)) rfl (by show len * 1 ≤ _; omega) (by omega) (g := (mkF m 1 #[.val (.ref b), .val (.int (Int32.ofNat o)), .val (.int (Int32.ofNat len)), .unset, .unset, .unset] [.int (Int32.ofNat len)])) rfl (hb hbytes d1) (rest := []) rfl (Nat.le_refl _) (by show 0 + len ≤ len; omega)
  rw [hh0] at ba3 st3
  have kp3 : XT.Kept s T3 := (XT.Kept.of_eq hh0).push bh3
  have hA3 := hA.keep X3.warmed.alike (kp3 _ _ hA.1.1)
  have hne : b ≠ s.heap.size := hA.1.ne
  have c4 : Steps p.tables e below (s₁.setTop (entryFrame m #[.ref b, .int (Int32.ofNat o), .int (Int32.ofNat len)] 6)) (T3.setTop (mkF m 3 #[.val (.ref b), .val (.int (Int32.ofNat o)), .val (.int (Int32.ofNat len)), .unset, .unset, .unset] [.ref s.heap.size])) := c2.trans (st3 _ (Steps.refl _))
  have c5 : Steps p.tables e below (s₁.setTop (entryFrame m #[.ref b, .int (Int32.ofNat o), .int (Int32.ofNat len)] 6)) (T3.setTop (mkF m 9 #[.val (.ref b), .val (.int (Int32.ofNat o)), .val (.int (Int32.ofNat len)), .val (.ref s.heap.size), .unset, .unset] [.int (Int32.ofNat len), .int 0, .ref s.heap.size, .int (Int32.ofNat o), .ref b])) := c4.trans (by
    refine XS.astoreN X3.here hexec rfl (hb hbytes d3) rfl rfl rfl ?_
    refine XS.aloadN X3.here hexec rfl (hb hbytes d4) rfl rfl ?_
    refine XS.iloadN X3.here hexec rfl (hb hbytes d5) rfl ?_
    refine XS.aloadN X3.here hexec rfl (hb hbytes d6) rfl rfl ?_
    refine iconstV X3.here hexec rfl 0 (hb hbytes d7) (by decide) ?_
    refine XS.iloadN X3.here hexec rfl (hb hbytes d8) rfl ?_
    exact Steps.refl _)
  obtain ⟨v6, T6, X6, E6, g6⟩ := X3.callS hexec (Cmp5.law l b A s.heap.size B3 o 0 len) hown (wks W (staticW U16 115 Cmp5.yN)) (wk W Cmp5.tab) (W := 0) (Nat.le_of_ble_eq_true rfl) (Nat.le_of_ble_eq_true rfl) (Nat.le_refl _) (by show 0 + len + 0 ≤ len; omega) (g := (mkF m 9 #[.val (.ref b), .val (.int (Int32.ofNat o)), .val (.int (Int32.ofNat len)), .val (.ref s.heap.size), .unset, .unset] [.int (Int32.ofNat len), .int (Int32.ofNat 0), .ref s.heap.size, .int (Int32.ofNat o), .ref b])) rfl (by rw [hml]; rfl) c5 (argsL := [.ref b, .int (Int32.ofNat o), .ref s.heap.size, .int (Int32.ofNat 0), .int (Int32.ofNat len)]) (rest := []) rfl rfl (by show 2 * 0 + 0 ≤ _; decide) (hb hbytes d9) (⟨rfl, hA3, ba3, hne, l1, by rw [bs3]; simp, hp⟩)
  obtain ⟨rfl, B6, p6, f6⟩ := E6
  have c7 : Steps p.tables e below (s₁.setTop (entryFrame m #[.ref b, .int (Int32.ofNat o), .int (Int32.ofNat len)] 6)) (T6.setTop (mkF m 12 #[.val (.ref b), .val (.int (Int32.ofNat o)), .val (.int (Int32.ofNat len)), .val (.ref s.heap.size), .unset, .unset] [.int (Int32.ofNat len)])) := g6
  have c8 : Steps p.tables e below (s₁.setTop (entryFrame m #[.ref b, .int (Int32.ofNat o), .int (Int32.ofNat len)] 6)) (T6.setTop (mkF m 58 #[.val (.ref b), .val (.int (Int32.ofNat o)), .val (.int (Int32.ofNat len)), .val (.ref s.heap.size), .val (.int (Int32.ofNat len)), .unset] [.ref s.heap.size])) := c7.trans (by
    refine XS.istore X6.here hexec rfl (hb hbytes d12) rfl rfl ?_
    refine XS.iload X6.here hexec rfl (hb hbytes d14) rfl ?_
    refine XS.iloadN X6.here hexec rfl (hb hbytes d16) rfl ?_
    refine XS.icmpYes X6.here hexec rfl (pc0 := 17) rfl (hb hbytes d17) rfl (ii_eq_t rfl) (by decide) rfl ?_
    refine XS.aloadN X6.here hexec rfl (hb hbytes d57) rfl rfl ?_
    exact Steps.refl _)
  have X8 := X6.wide (L' := []) (cells' := 1) (slots' := len) (fun x hx hlt => by
    simp only [List.nil_append, copyLocs, List.mem_map, List.mem_range] at hx
    obtain ⟨i, -, rfl⟩ := hx
    exact absurd hlt (Nat.lt_irrefl _)) (Nat.le_refl _) (by omega)
  exact ⟨T6, some (.ref s.heap.size), _, _, _, X8, rfl, rfl, rfl, (fun h => by cases h), ⟨⟨rfl, B6, ba3.like (X3.warmed.alike.symm.trans X6.warmed.alike) p6.1 f6.1 f6.2.1 f6.2.2.1, f6.2.1.trans bv3, by rw [X6.warmed.alike.findClass, f6.1]; exact bf3, by rw [f6.2.2.1, bs3]; simp, fun j hj => by rw [f6.2.2.2 j, if_pos (by omega)]; rfl, kp3.put p6 (Nat.le_refl _)⟩, by rw [p6.2.2, bh3, hh0]; simp⟩, fun fs hl => c8.trans (X8.areturnOut hexec rfl hret rfl (hb hbytes d58) hl)⟩
end Cmp3
namespace CodL
def yN : MethodName := ⟨"java/lang/StringUTF16", "coderFromArrayLen", "([BI)B"⟩
abbrev yB : ByteArray := jdk_52_method_15_code
theorem d0 : decode yB 0 = .ok (.iload_n 1, 1) := by decide +kernel
theorem d1 : decode yB 1 = .ok (.aload_n 0, 1) := by decide +kernel
theorem d2 : decode yB 2 = .ok (.arraylength, 1) := by decide +kernel
theorem d3 : decode yB 3 = .ok (.isub, 1) := by decide +kernel
theorem d4 : decode yB 4 = .ok (.bipush 31, 2) := by decide +kernel
theorem d6 : decode yB 6 = .ok (.iushr, 1) := by decide +kernel
theorem d7 : decode yB 7 = .ok (.i2b, 1) := by decide +kernel
theorem d8 : decode yB 8 = .ok (.ireturn, 1) := by decide +kernel
def site : List Cond := []
def tab : Cond := tabOf yN yB 2 (some .byte) site
def P (d : Addr) (B : Cell) (args : Array Value) (s : State) : Prop := args = #[.ref d, .int (Int32.ofNat B.slots.size)] ∧ Arr .byte d B s
def E (r : Option Value) (s u : State) : Prop := XT.PureE (some (.int 0)) r s u
/-- an array as long as the number of chars: LATIN1 -/
theorem law (l : Launch) (d : Addr) (B : Cell) : Law l yN 2 2 0 0 yB 2 (some .byte) site (P d B) E [] 0 0 := by
  refine Law.of_walk (plainFor_of_name (by decide +kernel)) (by decide +kernel) (by decide +kernel) (by decide) (fun _ _ h => by rw [h.1]; rfl) (fun _ U U' hal hh h => ⟨h.1, h.2.mv hal hh⟩) (fun r U U' V V' h1 hal h2 h => XT.PureE.mv r U U' V V' h1 hal h2 h) ?_
  intro p e s m args below meth c s₁ X0 hexec hbytes hml hret hlk hnm hown hh0 W hP
  obtain ⟨rfl, hB⟩ := hP
  have hB0 := hB.mv X0.warmed.alike hh0
  have c1 : Steps p.tables e below (s₁.setTop (entryFrame m #[.ref d, .int (Int32.ofNat B.slots.size)] 2)) (s₁.setTop (mkF m 0 #[.val (.ref d), .val (.int (Int32.ofNat B.slots.size))] [])) := entry rfl
  have c2 : Steps p.tables e below (s₁.setTop (entryFrame m #[.ref d, .int (Int32.ofNat B.slots.size)] 2)) (s₁.setTop (mkF m 2 #[.val (.ref d), .val (.int (Int32.ofNat B.slots.size))] [.ref d, .int (Int32.ofNat B.slots.size)])) := c1.trans (by
    refine XS.iloadN X0.here hexec rfl (hb hbytes d0) rfl ?_
    refine XS.aloadN X0.here hexec rfl (hb hbytes d1) rfl rfl ?_
    exact Steps.refl _)
  have c3 : Steps p.tables e below (s₁.setTop (entryFrame m #[.ref d, .int (Int32.ofNat B.slots.size)] 2)) (s₁.setTop (mkF m 8 #[.val (.ref d), .val (.int (Int32.ofNat B.slots.size))] [.int (lo8 (ushr (Int32.ofNat B.slots.size - Int32.ofNat B.slots.size) 31))])) := c2.trans (by
    refine X0.alen hexec hB0 rfl rfl (hb hbytes d2) ?_
    refine XS.isub X0.here hexec rfl (hb hbytes d3) rfl ?_
    refine bipushV X0.here hexec rfl 31 (hb hbytes d4) (by decide) ?_
    refine iushr X0.here hexec rfl (hb hbytes d6) rfl ?_
    refine i2b X0.here hexec rfl (hb hbytes d7) rfl ?_
    exact Steps.refl _)
  have e0 : lo8 (ushr (Int32.ofNat B.slots.size - Int32.ofNat B.slots.size) 31) = 0 := by rw [Int32.sub_self]; decide
  rw [e0] at c3
  exact ⟨s₁, some (.int 0), _, _, _, X0, rfl, rfl, rfl, (fun h => by cases h), ⟨rfl, hh0⟩, fun fs hl => c3.trans (X0.ireturnOut hexec hret rfl (Or.inr (Or.inr (Or.inl rfl))) (hb hbytes d8) hl)⟩
end CodL
/-- the String at a is Latin-1 over a new byte[] (the heap's one new cell): the low bytes of the len chars of A from o on; every cell but a is kept -/
def Got (a : Addr) (D : Cell) (fV fC : Field) (A : Cell) (o len : Nat) (r : Option Value) (s u : State) : Prop := r = none ∧ ∃ D' V : Cell, Blank "java/lang/String" a D' u ∧ Same D D' [fV.slot, fC.slot] ∧ D'.slots[fV.slot]? = some (.ref s.heap.size) ∧ D'.slots[fC.slot]? = some (.int 0) ∧ Arr .byte s.heap.size V u ∧ V.vm = .none ∧ u.vm.findClass "[B" = some V.cls ∧ V.slots.size = len ∧ (∀ j, j < len → V.slots[j]? = some (.int (lo8 (cv A (o + j))))) ∧ (∀ (y : Addr) (c : Cell), y ≠ a → s.heap[y]? = some c → u.heap[y]? = some c) ∧ u.heap.size = s.heap.size + 1
theorem Got.mv {a : Addr} {D A : Cell} {fV fC : Field} {o len : Nat} : ∀ r (U U' V V' : State), U'.heap = U.heap → V.vm.Alike V'.vm → V'.heap = V.heap → Got a D fV fC A o len r U V → Got a D fV fC A o len r U' V' :=
  fun r U U' V V' h1 hal h2 ⟨e0, D', X, a1, a2, a3, a4, a5, a6, a7, a8, a9, a10, a11⟩ => ⟨e0, D', X, a1.mv hal h2, a2, by rw [h1]; exact a3, a4, by rw [h1]; exact a5.mv hal h2, a6, by rw [hal.findClass]; exact a7, a8, a9, by rw [h1, h2]; exact a10, by rw [h1, h2]; exact a11⟩
namespace New4
def yN : MethodName := ⟨"java/lang/String", "<init>", "([CIILjava/lang/Void;)V"⟩
abbrev yB : ByteArray := jdk_42_method_149_code
theorem d0 : decode yB 0 = .ok (.aload_n 0, 1) := by decide +kernel
theorem d1 : decode yB 1 = .ok (.invokespecial 1, 3) := by decide +kernel
theorem d4 : decode yB 4 = .ok (.iload_n 3, 1) := by decide +kernel
theorem d5 : decode yB 5 = .ok (.ifCond (.ne) 22, 3) := by decide +kernel
theorem d27 : decode yB 27 = .ok (.getstatic 38, 3) := by decide +kernel
theorem d30 : decode yB 30 = .ok (.ifCond (.eq) 28, 3) := by decide +kernel
theorem d33 : decode yB 33 = .ok (.aload_n 1, 1) := by decide +kernel
theorem d34 : decode yB 34 = .ok (.iload_n 2, 1) := by decide +kernel
theorem d35 : decode yB 35 = .ok (.iload_n 3, 1) := by decide +kernel
theorem d36 : decode yB 36 = .ok (.invokestatic 177, 3) := by decide +kernel
theorem d39 : decode yB 39 = .ok (.astore 5, 2) := by decide +kernel
theorem d41 : decode yB 41 = .ok (.aload_n 0, 1) := by decide +kernel
theorem d42 : decode yB 42 = .ok (.aload 5, 2) := by decide +kernel
theorem d44 : decode yB 44 = .ok (.iload_n 3, 1) := by decide +kernel
theorem d45 : decode yB 45 = .ok (.invokestatic 47, 3) := by decide +kernel
theorem d48 : decode yB 48 = .ok (.putfield 15, 3) := by decide +kernel
theorem d51 : decode yB 51 = .ok (.aload_n 0, 1) := by decide +kernel
theorem d52 : decode yB 52 = .ok (.aload 5, 2) := by decide +kernel
theorem d54 : decode yB 54 = .ok (.putfield 9, 3) := by decide +kernel
theorem d57 : decode yB 57 = .ok (.return_, 1) := by decide +kernel
def site : List Cond := [.fieldLink "java/lang/String" 38 "java/lang/String" "COMPACT_STRINGS" "Z", Cmp3.tab, CodL.tab, .laysFinal "java/lang/String" "java/lang/String" "value" "[B", .fieldLink "java/lang/String" 9 "java/lang/String" "value" "[B", .laysFinal "java/lang/String" "java/lang/String" "coder" "B", .fieldLink "java/lang/String" 15 "java/lang/String" "coder" "B"] ++ objW "java/lang/String" 1 ++ staticW "java/lang/String" 177 Cmp3.yN ++ staticW "java/lang/String" 47 CodL.yN
def tab : Cond := tabOf yN yB 6 none site
def P (a : Addr) (D : Cell) (fV fC : Field) (b : Addr) (A : Cell) (z : Int32) (o len : Nat) (args : Array Value) (s : State) : Prop := args = #[.ref a, .ref b, .int (Int32.ofNat o), .int (Int32.ofNat len), .null] ∧ Blank "java/lang/String" a D s ∧ Found "java/lang/String" "value" "[B" fV s ∧ Found "java/lang/String" "coder" "B" fC s ∧ Ch b A s ∧ StaticIs s "java/lang/String" "COMPACT_STRINGS" "Z" (.int z) ∧ ¬ z = 0 ∧ 0 < len ∧ o + len ≤ A.slots.size ∧ len ≤ 536870912 ∧ ∀ i, i < len → ¬ 255 < cv A (o + i)
def E (a : Addr) (D : Cell) (fV fC : Field) (A : Cell) (o len : Nat) (r : Option Value) (s u : State) : Prop := Got a D fV fC A o len r s u
/-- len > 0, no char of the range above 255: a Latin-1 String of their low bytes -/
theorem law (l : Launch) (a : Addr) (D : Cell) (fV fC : Field) (b : Addr) (A : Cell) (z : Int32) (o len : Nat) : Law l yN 5 4 2 35 yB 6 none site (P a D fV fC b A z o len) (E a D fV fC A o len) [⟨a, fC.slot⟩, ⟨a, fV.slot⟩] 1 len := by
  refine Law.of_walk (plainFor_of_name (by decide +kernel)) (by decide +kernel) (by decide +kernel) (by decide) (fun _ _ h => by rw [h.1]; rfl) (fun _ U U' hal hh h => ⟨h.1, h.2.1.mv hal hh, h.2.2.1.al hal, h.2.2.2.1.al hal, h.2.2.2.2.1.mv hal hh, h.2.2.2.2.2.1.there hal hh, h.2.2.2.2.2.2⟩) (fun r U U' V V' h1 hal h2 h => Got.mv r U U' V V' h1 hal h2 h) ?_
  intro p e s m args below meth c s₁ X0 hexec hbytes hml hret hlk hnm hown hh0 W hP
  obtain ⟨rfl, hB, f1, f2, hA, s1, hz, l0, l1, l2, hp⟩ := hP
  have a31 := hA.1.2.2.2
  have c1 : Steps p.tables e below (s₁.setTop (entryFrame m #[.ref a, .ref b, .int (Int32.ofNat o), .int (Int32.ofNat len), .null] 6)) (s₁.setTop (mkF m 0 #[.val (.ref a), .val (.ref b), .val (.int (Int32.ofNat o)), .val (.int (Int32.ofNat len)), .val .null, .unset] [])) := entry rfl
  have c2 : Steps p.tables e below (s₁.setTop (entryFrame m #[.ref a, .ref b, .int (Int32.ofNat o), .int (Int32.ofNat len), .null] 6)) (s₁.setTop (mkF m 1 #[.val (.ref a), .val (.ref b), .val (.int (Int32.ofNat o)), .val (.int (Int32.ofNat len)), .val .null, .unset] [.ref a])) := c1.trans (by
    refine XS.aloadN X0.here hexec rfl (hb hbytes d0) rfl rfl ?_
    exact Steps.refl _)
  obtain ⟨T3, X3, q3, st3⟩ := X0.oinit hexec hown (wks W (objW "java/lang/String" 1)) (g := (mkF m 1 #[.val (.ref a), .val (.ref b), .val (.int (Int32.ofNat o)), .val (.int (Int32.ofNat len)), .val .null, .unset] [.ref a])) rfl (by rw [hml]; rfl) (rest := []) rfl (hb hbytes d1) (W := 0) (by show 2 * 0 + 0 ≤ _; decide) (Nat.le_of_ble_eq_true rfl) (Nat.le_of_ble_eq_true rfl)
  have hh3 := q3.trans hh0
  have c4 : Steps p.tables e below (s₁.setTop (entryFrame m #[.ref a, .ref b, .int (Int32.ofNat o), .int (Int32.ofNat len), .null] 6)) (T3.setTop (mkF m 27 #[.val (.ref a), .val (.ref b), .val (.int (Int32.ofNat o)), .val (.int (Int32.ofNat len)), .val .null, .unset] [])) := (c2.trans (st3 _ (Steps.refl _))).trans (by
    refine XS.iloadN X3.here hexec rfl (hb hbytes d4) rfl ?_
    refine XS.ifYes X3.here hexec rfl (pc0 := 5) rfl (hb hbytes d5) rfl (i0_ne_t (nz32 (by omega) l0)) (by decide) rfl ?_
    exact Steps.refl _)
  obtain ⟨T5, X5, q5, st5⟩ := X3.sget hexec hown (wk W (.fieldLink "java/lang/String" 38 "java/lang/String" "COMPACT_STRINGS" "Z")) s1 (fun _ _ h => by rw [hh3]; exact h) (g := (mkF m 27 #[.val (.ref a), .val (.ref b), .val (.int (Int32.ofNat o)), .val (.int (Int32.ofNat len)), .val .null, .unset] [])) rfl (hb hbytes d27)
  have hh5 := q5.trans hh3
  have c6 : Steps p.tables e below (s₁.setTop (entryFrame m #[.ref a, .ref b, .int (Int32.ofNat o), .int (Int32.ofNat len), .null] 6)) (T5.setTop (mkF m 30 #[.val (.ref a), .val (.ref b), .val (.int (Int32.ofNat o)), .val (.int (Int32.ofNat len)), .val .null, .unset] [.int z])) := c4.trans (st5 _ (Steps.refl _))
  have c7 : Steps p.tables e below (s₁.setTop (entryFrame m #[.ref a, .ref b, .int (Int32.ofNat o), .int (Int32.ofNat len), .null] 6)) (T5.setTop (mkF m 36 #[.val (.ref a), .val (.ref b), .val (.int (Int32.ofNat o)), .val (.int (Int32.ofNat len)), .val .null, .unset] [.int (Int32.ofNat len), .int (Int32.ofNat o), .ref b])) := c6.trans (by
    refine XS.ifNo X5.here hexec rfl (hb hbytes d30) rfl (i0_eq_f hz) ?_
    refine XS.aloadN X5.here hexec rfl (hb hbytes d33) rfl rfl ?_
    refine XS.iloadN X5.here hexec rfl (hb hbytes d34) rfl ?_
    refine XS.iloadN X5.here hexec rfl (hb hbytes d35) rfl ?_
    exact Steps.refl _)
  obtain ⟨v8, T8, X8, E8, g8⟩ := X5.callS hexec (Cmp3.law l b A o len) hown (wks W (staticW "java/lang/String" 177 Cmp3.yN)) (wk W Cmp3.tab) (W := 0) (Nat.le_of_ble_eq_true rfl) (Nat.le_of_ble_eq_true rfl) (Nat.le_refl _) (by show 0 + len ≤ len; omega) (g := (mkF m 36 #[.val (.ref a), .val (.ref b), .val (.int (Int32.ofNat o)), .val (.int (Int32.ofNat len)), .val .null, .unset] [.int (Int32.ofNat len), .int (Int32.ofNat o), .ref b])) rfl (by rw [hml]; rfl) c7 (argsL := [.ref b, .int (Int32.ofNat o), .int (Int32.ofNat len)]) (rest := []) rfl rfl (by show 2 * 0 + 0 ≤ _; decide) (hb hbytes d36) (⟨rfl, hA.mv X5.warmed.alike hh5, l1, l2, hp⟩)
  obtain ⟨e8, z8⟩ := E8
  obtain ⟨rfl, N, n1, n2, n3, n4, n5, n6⟩ := NewArr.mv _ T5 s _ _ hh5.symm (Vm.Alike.refl _) rfl e8
  rw [hh5] at z8
  have hB1 := hB.keep X8.warmed.alike (n6 _ _ hB.1)
  have hne : s.heap.size ≠ a := (Nat.ne_of_lt (Array.getElem?_eq_some_iff.mp hB.1).1).symm
  have c9 : Steps p.tables e below (s₁.setTop (entryFrame m #[.ref a, .ref b, .int (Int32.ofNat o), .int (Int32.ofNat len), .null] 6)) (T8.setTop (mkF m 39 #[.val (.ref a), .val (.ref b), .val (.int (Int32.ofNat o)), .val (.int (Int32.ofNat len)), .val .null, .unset] [.ref s.heap.size])) := g8
  have c10 : Steps p.tables e below (s₁.setTop (entryFrame m #[.ref a, .ref b, .int (Int32.ofNat o), .int (Int32.ofNat len), .null] 6)) (T8.setTop (mkF m 45 #[.val (.ref a), .val (.ref b), .val (.int (Int32.ofNat o)), .val (.int (Int32.ofNat len)), .val .null, .val (.ref s.heap.size)] [.int (Int32.ofNat N.slots.size), .ref s.heap.size, .ref a])) := by
    have hc : Steps p.tables e below (s₁.setTop (entryFrame m #[.ref a, .ref b, .int (Int32.ofNat o), .int (Int32.ofNat len), .null] 6)) (T8.setTop (mkF m 45 #[.val (.ref a), .val (.ref b), .val (.int (Int32.ofNat o)), .val (.int (Int32.ofNat len)), .val .null, .val (.ref s.heap.size)] [.int (Int32.ofNat len), .ref s.heap.size, .ref a])) := c9.trans (by
      refine XS.astore X8.here hexec rfl (hb hbytes d39) rfl rfl rfl ?_
      refine XS.aloadN X8.here hexec rfl (hb hbytes d41) rfl rfl ?_
      refine XS.aload X8.here hexec rfl (hb hbytes d42) rfl rfl ?_
      refine XS.iloadN X8.here hexec rfl (hb hbytes d44) rfl ?_
      exact Steps.refl _)
    rw [n4]; exact hc
  obtain ⟨v11, T11, X11, E11, g11⟩ := X8.callS hexec (CodL.law l s.heap.size N) hown (wks W (staticW "java/lang/String" 47 CodL.yN)) (wk W CodL.tab) (W := 1) (Nat.le_of_ble_eq_true rfl) (Nat.le_of_ble_eq_true rfl) (Nat.le_refl _) (by show 0 + len + 0 ≤ len; omega) (g := (mkF m 45 #[.val (.ref a), .val (.ref b), .val (.int (Int32.ofNat o)), .val (.int (Int32.ofNat len)), .val .null, .val (.ref s.heap.size)] [.int (Int32.ofNat N.slots.size), .ref s.heap.size, .ref a])) rfl (by rw [hml]; rfl) c10 (argsL := [.ref s.heap.size, .int (Int32.ofNat N.slots.size)]) (rest := [.ref a]) rfl rfl (by show 2 * 0 + (1 + 0) ≤ _; decide) (hb hbytes d45) (⟨rfl, n1⟩)
  obtain ⟨rfl, q11⟩ := E11
  have hB11 := hB1.mv (X8.warmed.alike.symm.trans X11.warmed.alike) q11
  have c12 : Steps p.tables e below (s₁.setTop (entryFrame m #[.ref a, .ref b, .int (Int32.ofNat o), .int (Int32.ofNat len), .null] 6)) (T11.setTop (mkF m 48 #[.val (.ref a), .val (.ref b), .val (.int (Int32.ofNat o)), .val (.int (Int32.ofNat len)), .val .null, .val (.ref s.heap.size)] [.int 0, .ref a])) := g11
  obtain ⟨T13, X13, p13, bl13, sl13, st13⟩ := X11.finit hexec hown (wk W (.fieldLink "java/lang/String" 15 "java/lang/String" "coder" "B")) (Or.inr ⟨_, (wk W (.laysFinal "java/lang/String" "java/lang/String" "coder" "B"))⟩) (Or.inl ⟨rfl, hnm⟩) f2 (Or.inl rfl) hB11 (t := .byte) (by decide +kernel) rfl (g := (mkF m 48 #[.val (.ref a), .val (.ref b), .val (.int (Int32.ofNat o)), .val (.int (Int32.ofNat len)), .val .null, .val (.ref s.heap.size)] [.int 0, .ref a])) rfl (rest := []) rfl (hb hbytes d48)
  have c14 : Steps p.tables e below (s₁.setTop (entryFrame m #[.ref a, .ref b, .int (Int32.ofNat o), .int (Int32.ofNat len), .null] 6)) (T13.setTop (mkF m 54 #[.val (.ref a), .val (.ref b), .val (.int (Int32.ofNat o)), .val (.int (Int32.ofNat len)), .val .null, .val (.ref s.heap.size)] [.ref s.heap.size, .ref a])) := (c12.trans (st13 _ (Steps.refl _))).trans (by
    refine XS.aloadN X13.here hexec rfl (hb hbytes d51) rfl rfl ?_
    refine XS.aload X13.here hexec rfl (hb hbytes d52) rfl rfl ?_
    exact Steps.refl _)
  obtain ⟨T15, X15, p15, bl15, sl15, st15⟩ := X13.finit hexec hown (wk W (.fieldLink "java/lang/String" 9 "java/lang/String" "value" "[B")) (Or.inr ⟨_, (wk W (.laysFinal "java/lang/String" "java/lang/String" "value" "[B"))⟩) (Or.inl ⟨rfl, hnm⟩) f1 (Or.inl rfl) bl13 (t := (.array .byte)) (by decide +kernel) rfl (g := (mkF m 54 #[.val (.ref a), .val (.ref b), .val (.int (Int32.ofNat o)), .val (.int (Int32.ofNat len)), .val .null, .val (.ref s.heap.size)] [.ref s.heap.size, .ref a])) rfl (rest := []) rfl (hb hbytes d54)
  have c16 : Steps p.tables e below (s₁.setTop (entryFrame m #[.ref a, .ref b, .int (Int32.ofNat o), .int (Int32.ofNat len), .null] 6)) (T15.setTop (mkF m 57 #[.val (.ref a), .val (.ref b), .val (.int (Int32.ofNat o)), .val (.int (Int32.ofNat len)), .val .null, .val (.ref s.heap.size)] [])) := c14.trans (st15 _ (Steps.refl _))
  have ap := apart (Or.inr ⟨_, (wk W (.laysFinal "java/lang/String" "java/lang/String" "value" "[B"))⟩) (Or.inr ⟨_, (wk W (.laysFinal "java/lang/String" "java/lang/String" "coder" "B"))⟩) f1 f2 (t₁ := .array .byte) (t₂ := .byte) (by decide +kernel) (by decide +kernel) (by decide)
  have al := X8.warmed.alike.symm.trans X15.warmed.alike
  have n7 : T11.heap[s.heap.size]? = some N := by rw [q11]; exact n1.1
  exact ⟨T15, none, _, _, _, X15, by simp, rfl, by omega, (fun _ => rfl), ⟨rfl, _, N, bl15, ((Same.refl D _).set _ (by simp)).set _ (by simp), sl15, (Cell.slots_setSlot_ne _ ap).trans sl13, n1.keep al (p15.other hne (p13.other hne n7)), n2, by rw [al.findClass]; exact n3, n4, n5, fun y c h1 h2 => p15.other h1 (p13.other h1 (by rw [q11]; exact n6 y c h2)), by rw [p15.2.2, p13.2.2, q11]; exact z8⟩, fun fs hl => c16.trans (X15.returnOut hexec hret (hb hbytes d57) hl)⟩
end New4
namespace New1
def yN : MethodName := ⟨"java/lang/String", "<init>", "([C)V"⟩
abbrev yB : ByteArray := jdk_42_method_3_code
theorem d0 : decode yB 0 = .ok (.aload_n 0, 1) := by decide +kernel
theorem d1 : decode yB 1 = .ok (.aload_n 1, 1) := by decide +kernel
theorem d2 : decode yB 2 = .ok (.iconst 0, 1) := by decide +kernel
theorem d3 : decode yB 3 = .ok (.aload_n 1, 1) := by decide +kernel
theorem d4 : decode yB 4 = .ok (.arraylength, 1) := by decide +kernel
theorem d5 : decode yB 5 = .ok (.aconst_null, 1) := by decide +kernel
theorem d6 : decode yB 6 = .ok (.invokespecial 27, 3) := by decide +kernel
theorem d9 : decode yB 9 = .ok (.return_, 1) := by decide +kernel
def site : List Cond := [New4.tab] ++ initW "java/lang/String" 27 New4.yN
def tab : Cond := tabOf yN yB 2 none site
def P (a : Addr) (D : Cell) (fV fC : Field) (b : Addr) (A : Cell) (z : Int32) (args : Array Value) (s : State) : Prop := args = #[.ref a, .ref b] ∧ Blank "java/lang/String" a D s ∧ Found "java/lang/String" "value" "[B" fV s ∧ Found "java/lang/String" "coder" "B" fC s ∧ Ch b A s ∧ StaticIs s "java/lang/String" "COMPACT_STRINGS" "Z" (.int z) ∧ ¬ z = 0 ∧ 0 < A.slots.size ∧ A.slots.size ≤ 536870912 ∧ ∀ i, i < A.slots.size → ¬ 255 < cv A i
def E (a : Addr) (D : Cell) (fV fC : Field) (A : Cell) (r : Option Value) (s u : State) : Prop := Got a D fV fC A 0 A.slots.size r s u
/-- new String(chars), not empty, no char above 255: a Latin-1 String of their low bytes -/
theorem law (l : Launch) (a : Addr) (D : Cell) (fV fC : Field) (b : Addr) (A : Cell) (z : Int32) : Law l yN 2 1 3 52 yB 2 none site (P a D fV fC b A z) (E a D fV fC A) [⟨a, fC.slot⟩, ⟨a, fV.slot⟩] 1 A.slots.size := by
  refine Law.of_walk (plainFor_of_name (by decide +kernel)) (by decide +kernel) (by decide +kernel) (by decide) (fun _ _ h => by rw [h.1]; rfl) (fun _ U U' hal hh h => ⟨h.1, h.2.1.mv hal hh, h.2.2.1.al hal, h.2.2.2.1.al hal, h.2.2.2.2.1.mv hal hh, h.2.2.2.2.2.1.there hal hh, h.2.2.2.2.2.2⟩) (fun r U U' V V' h1 hal h2 h => Got.mv r U U' V V' h1 hal h2 h) ?_
  intro p e s m args below meth c s₁ X0 hexec hbytes hml hret hlk hnm hown hh0 W hP
  obtain ⟨rfl, hB, f1, f2, hA, s1, hz, l0, l2, hp⟩ := hP
  have c1 : Steps p.tables e below (s₁.setTop (entryFrame m #[.ref a, .ref b] 2)) (s₁.setTop (mkF m 0 #[.val (.ref a), .val (.ref b)] [])) := entry rfl
  have c2 : Steps p.tables e below (s₁.setTop (entryFrame m #[.ref a, .ref b] 2)) (s₁.setTop (mkF m 6 #[.val (.ref a), .val (.ref b)] [.null, .int (Int32.ofNat A.slots.size), .int 0, .ref b, .ref a])) := c1.trans (by
    refine XS.aloadN X0.here hexec rfl (hb hbytes d0) rfl rfl ?_
    refine XS.aloadN X0.here hexec rfl (hb hbytes d1) rfl rfl ?_
    refine iconstV X0.here hexec rfl 0 (hb hbytes d2) (by decide) ?_
    refine XS.aloadN X0.here hexec rfl (hb hbytes d3) rfl rfl ?_
    refine X0.alen hexec (hA.1.mv X0.warmed.alike hh0) rfl rfl (hb hbytes d4) ?_
    refine XS.aconstNull X0.here hexec rfl (hb hbytes d5) ?_
    exact Steps.refl _)
  obtain ⟨v3, T3, X3, E3, g3⟩ := X0.callN hexec (New4.law l a D fV fC b A z 0 A.slots.size) rfl hown (wks W (initW "java/lang/String" 27 New4.yN)) (W New4.tab (by simp only [site, List.mem_cons, List.mem_append, true_or, or_true])) (W := 0) (Nat.le_of_ble_eq_true rfl) (Nat.le_of_ble_eq_true rfl) (Nat.le_refl _) (by show 0 + A.slots.size ≤ A.slots.size; omega) (g := (mkF m 6 #[.val (.ref a), .val (.ref b)] [.null, .int (Int32.ofNat A.slots.size), .int (Int32.ofNat 0), .ref b, .ref a])) rfl (by rw [hml]; rfl) c2 (argsL := [.ref b, .int (Int32.ofNat 0), .int (Int32.ofNat A.slots.size), .null]) (rest := []) rfl rfl (by show 2 * 0 + 0 ≤ _; decide) (hb hbytes d6) (⟨rfl, hB.mv X0.warmed.alike hh0, f1.al X0.warmed.alike, f2.al X0.warmed.alike, hA.mv X0.warmed.alike hh0, s1.there X0.warmed.alike hh0, hz, l0, by omega, l2, fun i hi => by rw [Nat.zero_add]; exact hp i hi⟩)
  have e0 := Got.mv _ s₁ s _ _ hh0.symm (Vm.Alike.refl _) rfl E3
  obtain rfl := e0.1
  have c4 : Steps p.tables e below (s₁.setTop (entryFrame m #[.ref a, .ref b] 2)) (T3.setTop (mkF m 9 #[.val (.ref a), .val (.ref b)] [])) := g3
  exact ⟨T3, none, _, _, _, X3, by simp, rfl, by omega, (fun _ => rfl), e0, fun fs hl => c4.trans (X3.returnOut hexec hret (hb hbytes d9) hl)⟩
theorem pays {l : Launch} {R : Room} {p : Program} {e : Env} {below : List Frame} {s : State} {sargs : Array Value} {len W : Nat} (a : Addr) (D : Cell) (fV fC : Field) (b : Addr) (A : Cell) (z : Int32) (htab : tab.before sargs s = true) (hfr : 4 ≤ R.frames) (hlo : W + 65 ≤ R.locals) :
    Back l R p e below s sargs yN len W (fun A₁ a₁ => A₁.cells + 1 ≤ R.cells ∧ A₁.slots + A.slots.size ≤ R.slots ∧ P a D fV fC b A z a₁ A₁.U) (fun A₁ _ v₁ B₁ => E a D fV fC A v₁ A₁.U B₁.U ∧ B₁.locs = A₁.locs ++ [⟨a, fC.slot⟩, ⟨a, fV.slot⟩] ∧ B₁.cells = A₁.cells + 1 ∧ B₁.slots = A₁.slots + A.slots.size) :=
  (law l a D fV fC b A z).pays htab hfr (by omega)
end New1
end StrChars
namespace StrChars.Road
open Jvm Sem ClassFile Op Lib Jvm.Stand Jvm.Free Jvm.Free.XT
open Jvm.Lib.Cold (StaticIs)
abbrev ST : String := "java/lang/String"
/-- every table word that New1's law asks, flat -/
abbrev words : List Jvm.Cond := [.code New1.yN New1.yB 2 none, .initialized ST, .methodLink ST 27 New4.yN, .instanceMethod New4.yN,
  .code New4.yN New4.yB 6 none, .fieldLink ST 38 ST "COMPACT_STRINGS" "Z", .laysFinal ST ST "value" "[B", .fieldLink ST 9 ST "value" "[B", .laysFinal ST ST "coder" "B", .fieldLink ST 15 ST "coder" "B",
  .methodLink ST 1 Lib.objectInit, .instanceMethod Lib.objectInit, .code Lib.objectInit ⟨#[0xb1]⟩ 1 none, .methodLink ST 177 Cmp3.yN, .static Cmp3.yN, .methodLink ST 47 CodL.yN, .static CodL.yN,
  .code Cmp3.yN Cmp3.yB 6 (some (.array .byte)), .initialized U16, .arrayClass .byte, .methodLink U16 115 Cmp5.yN, .static Cmp5.yN, .code Cmp5.yN Cmp5.yB 7 (some .int), .code CodL.yN CodL.yB 2 (some .byte)]
theorem tab_of {a : Array Value} {s : State} (h : ∀ w ∈ words, w.before a s = true) : New1.tab.before a s = true := by
  have h5 : Cmp5.tab.before a s = true := unparts (wk h (.code Cmp5.yN Cmp5.yB 7 (some .int))) (wks h (.initialized Cmp5.yN.cls :: Cmp5.site))
  have hc : CodL.tab.before a s = true := unparts (wk h (.code CodL.yN CodL.yB 2 (some .byte))) (wks h (.initialized CodL.yN.cls :: CodL.site))
  have q5 : ∀ w ∈ Cmp5.tab :: words, w.before a s = true := fun w hw => (List.mem_cons.mp hw).elim (fun e => e ▸ h5) (h w)
  have h3 : Cmp3.tab.before a s = true := unparts (wk q5 (.code Cmp3.yN Cmp3.yB 6 (some (.array .byte)))) (wks q5 (.initialized Cmp3.yN.cls :: Cmp3.site))
  have q3 : ∀ w ∈ Cmp3.tab :: CodL.tab :: words, w.before a s = true := fun w hw => (List.mem_cons.mp hw).elim (fun e => e ▸ h3) fun hw => (List.mem_cons.mp hw).elim (fun e => e ▸ hc) (h w)
  have h4 : New4.tab.before a s = true := unparts (wk q3 (.code New4.yN New4.yB 6 none)) (wks q3 (.initialized New4.yN.cls :: New4.site))
  have q4 : ∀ w ∈ New4.tab :: words, w.before a s = true := fun w hw => (List.mem_cons.mp hw).elim (fun e => e ▸ h4) (h w)
  exact unparts (wk q4 (.code New1.yN New1.yB 2 none)) (wks q4 (.initialized New1.yN.cls :: New1.site))
/-- the words ride from the start Z to the walk's own state -/
theorem moved {Z s : State} {a0 args : Array Value} (hZ : Z.Warmed39 s.vm) (hw : ∀ d ∈ words, d.before a0 Z = true) : ∀ d ∈ words, d.before args s = true := fun d hd => by
  have q := hw d hd
  have t : ∀ d ∈ words, d = .arrayClass .byte ∨ (d.onTables && d.keepsFace) = true := by decide +kernel
  rcases t d hd with rfl | t
  · exact RoadKit.mvA hZ q
  · exact RoadKit.mv hZ q t
/-- WHAT COMES BACK, over the tables of the start Z: h the heap at the call, h' behind it -/
def Q (Z : State) (x : Addr) (A : Cell) (h : Heap) (v : Option Value) (h' : Heap) (L : List Loc) : Prop := v = none ∧ (∀ y ∈ L, y.base = x) ∧ RoadKit.Keep h h' [x] ∧ h'.size = h.size + 1 ∧ RoadKit.Exa Z h' x ST ∧ RoadKit.Fld Z h' x ST "value" "[B" (.ref h.size) ∧ RoadKit.Fld Z h' x ST "coder" "B" (.int 0) ∧
  (∃ V : Cell, RoadKit.Arr Z h' h.size V .byte ∧ V.vm = .none ∧ Z.vm.findClass "[B" = some V.cls ∧ V.slots.size = A.slots.size ∧ ∀ j, j < A.slots.size → V.slots[j]? = some (.int (lo8 (cv A j)))) ∧
  ∀ (O n d : String) (w : Value), RoadKit.Fld Z h x O n d w → RoadKit.slotOf Z O n d ≠ RoadKit.slotOf Z ST "value" "[B" → RoadKit.slotOf Z O n d ≠ RoadKit.slotOf Z ST "coder" "B" → RoadKit.Fld Z h' x O n d w
/-- **new String(chars) AT A CALL, IN THE ROAD'S FORM**: for specialBack behind newO: x the fresh String, b the char[] with the cell A -/
theorem back {p : Program} {l : Launch} {e : Env} {R : Room} {s : State} {args : Array Value} {below : List Frame} {len W : Nat} {Z : State} {a0 : Array Value} {h : Heap} (hZ : Z.Warmed39 s.vm) (hw : ∀ d ∈ words, d.before a0 Z = true) {kI : Nat} (wi : (Jvm.Cond.instantiable ST kI).before a0 Z = true)
    {x b : Addr} {A : Cell} {z : Int32} {v0 c0 : Value} (E : RoadKit.Exa Z h x ST) (V : RoadKit.Fld Z h x ST "value" "[B" v0) (C : RoadKit.Fld Z h x ST "coder" "B" c0) (K : RoadKit.Arr Z h b A .char) (hty : Typed .char A) (S : RoadKit.Sta Z h ST "COMPACT_STRINGS" "Z" (.int z)) (hz : ¬ z = 0)
    (l0 : 0 < A.slots.size) (l2 : A.slots.size ≤ 536870912) (hp : ∀ i, i < A.slots.size → ¬ 255 < cv A i) (hfr : 4 ≤ R.frames) (hlo : W + 65 ≤ R.locals) :
    Back l R p e below s args New1.yN len W (fun P a => a = #[.ref x, .ref b] ∧ P.U.heap = h ∧ P.cells + 1 ≤ R.cells ∧ P.slots + A.slots.size ≤ R.slots)
      (fun P _ v B => ∃ L, Q Z x A h v B.U.heap L ∧ B.locs = P.locs ++ L ∧ B.cells = P.cells + 1 ∧ B.slots = P.slots + A.slots.size) := by
  intro m meth c P g ig mk a X hg hsize hdg hW hn hp'
  obtain ⟨rfl, rfl, r1, r2⟩ := hp'
  have al : Z.vm.Alike P.U.vm := hZ.alike.trans X.warmed.alike
  obtain ⟨D, cfV, kV, iV, fV, hD, gV, stV, knV, obV, asV, slV⟩ := id V
  obtain ⟨D', cfC, kC, iC, fC, hD', gC, stC, -, -, asC, slC⟩ := id C
  cases hD.symm.trans hD'
  obtain ⟨D2, kD, e1, e2, e3, e4, e5⟩ := id E
  cases hD.symm.trans e1
  obtain ⟨c2, k2, i1, i2, i3, -⟩ := Cond.instantiable_spec wi
  cases e2.symm.trans i1
  cases e3.symm.trans i2
  obtain ⟨kU, u1, u2⟩ := al.2.2 _ _ e3
  have hB : Blank ST x D P.U := ⟨hD, ⟨knV, fun q hq => by rw [hq] at obV; cases obV⟩, by rw [al.findClass]; exact e2, kU, u1, by rw [u2]; exact i3, by rw [u2]; exact e5 i3⟩
  have F1 : Found ST "value" "[B" fV P.U := ⟨SBG.found_only al ⟨cfV, kV, iV, gV⟩, stV⟩
  have F2 : Found ST "coder" "B" fC P.U := ⟨SBG.found_only al ⟨cfC, kC, iC, gC⟩, stC⟩
  have hA : Ch b A P.U := ⟨⟨K.1, State.isArrayOf_alike al K.2.1, K.2.2, by omega⟩, hty⟩
  have hS : StaticIs P.U ST "COMPACT_STRINGS" "Z" (.int z) := by
    obtain ⟨cfS, iS, kS, fS, st, cS, t1, t2, t3, t4, t5, t6, t7⟩ := S
    exact StaticIs.there (s := { Z with heap := P.U.heap }) ⟨cfS, iS, kS, fS, st, cS, t1, t2, t3, t4, t5, (fun q => by rw [q] at t6; cases t6), t7⟩ al rfl
  obtain ⟨v, B, X', ⟨⟨hv, E', V', q1, q2, q3, q4, q5, q6, q7, q8, q9, q10, q11⟩, hl, hc, hs⟩, st⟩ := New1.pays x D fV fC b A z (tab_of (moved hZ hw)) hfr hlo m meth c P g ig mk _ X hg hsize hdg hW hn ⟨r1, r2, rfl, hB, F1, F2, hA, hS, hz, l0, l2, hp⟩
  have al' : Z.vm.Alike B.U.vm := hZ.alike.trans X'.warmed.alike
  have hsz : E'.slots.size = D.slots.size := by
    obtain ⟨-, -, -, kB, w1, w2, w3⟩ := q1
    obtain ⟨kB', y1, y2⟩ := al'.2.2 _ _ e3
    rw [q2.2.1] at w1
    cases w1.symm.trans y1
    rw [w3, e5 i3, y2]
  refine ⟨v, B, X', ⟨_, ⟨hv, ?_, ⟨by omega, fun y cy hy hn' => q10 y cy (by simpa using hn') hy, fun y cy hy => ?_⟩, q11, ⟨E', _, q1.1, by rw [q2.2.1]; exact e2, by rw [q2.2.1]; exact e3, by rw [q2.1]; exact obV, fun _ => by rw [hsz]; exact e5 i3⟩,
    ⟨E', cfV, kV, iV, fV, q1.1, gV, stV, by rw [q2.1]; exact knV, by rw [q2.1]; exact obV, by rw [q2.2.1]; exact asV, q3⟩, ⟨E', cfC, kC, iC, fC, q1.1, gC, stC, by rw [q2.1]; exact knV, by rw [q2.1]; exact obV, by rw [q2.2.1]; exact asC, q4⟩,
    ⟨V', ⟨q5.1, State.isArrayOf_alike al'.symm q5.2.1, q5.2.2.1⟩, q6, by rw [← al'.findClass]; exact q7, q8, fun j hj => by have := q9 j hj; rwa [Nat.zero_add] at this⟩, fun O n d w F n1 n2 => ?_⟩, hl, hc, hs⟩, st⟩
  · intro y hy
    simp only [List.mem_cons, List.not_mem_nil, or_false] at hy
    rcases hy with rfl | rfl <;> rfl
  · by_cases q : y = x
    · subst q
      cases hD.symm.trans hy
      exact ⟨E', q1.1, q2.2.1, q2.1, hsz⟩
    · exact ⟨cy, q10 y cy q hy, rfl, rfl, rfl⟩
  · obtain ⟨D3, cf, k, i, f, g1, g2, g3, g4, g5, g6, g7⟩ := F
    cases hD.symm.trans g1
    simp only [RoadKit.slotOf, g2, gV, gC, Option.map_some, Option.getD_some] at n1 n2
    exact ⟨E', cf, k, i, f, q1.1, g2, g3, by rw [q2.1]; exact g4, by rw [q2.1]; exact g5, by rw [q2.2.1]; exact g6, by rw [q2.2.2 f.slot (by simp [n1, n2])]; exact g7⟩
end StrChars.Road
namespace StrChars.Road
open Jvm Sem ClassFile Op Lib Jvm.Stand Jvm.Free Jvm.Free.XT
/-- WHAT COMES BACK, the byte[] as a list of values -/
def QA (Z : State) (x : Addr) (zn : Int32) (cs : List Int32) (h : Heap) (v : Option Value) (h' : Heap) (L : List Loc) : Prop := v = none ∧ (∀ y ∈ L, y.base = x) ∧ RoadKit.Keep h h' [x] ∧ h'.size = h.size + 1 ∧ RoadKit.Exa Z h' x ST ∧ RoadKit.Fld Z h' x ST "value" "[B" (.ref h.size) ∧ RoadKit.Fld Z h' x ST "coder" "B" (.int 0) ∧
  (∃ kb, Z.vm.findClass "[B" = some kb ∧ RoadKit.Arv Z h' h.size kb .byte zn (cs.map fun c => .int (lo8 c)) (.int 0)) ∧
  ∀ (O n d : String) (w : Value), RoadKit.Fld Z h x O n d w → RoadKit.slotOf Z O n d ≠ RoadKit.slotOf Z ST "value" "[B" → RoadKit.slotOf Z O n d ≠ RoadKit.slotOf Z ST "coder" "B" → RoadKit.Fld Z h' x O n d w
/-- **new String(chars) AT A CALL, THE ARRAYS AS LISTS**: the char[] at b holds cs, not empty, no char above 255 -/
theorem backArv {p : Program} {l : Launch} {e : Env} {R : Room} {s : State} {args : Array Value} {below : List Frame} {len W : Nat} {Z : State} {a0 : Array Value} {h : Heap} (hZ : Z.Warmed39 s.vm) (hw : ∀ d ∈ words, d.before a0 Z = true) {kI : Nat} (wi : (Jvm.Cond.instantiable ST kI).before a0 Z = true)
    {x b : Addr} {k : ClassId} {zn z : Int32} {cs : List Int32} {dv v0 c0 : Value} (E : RoadKit.Exa Z h x ST) (V : RoadKit.Fld Z h x ST "value" "[B" v0) (C : RoadKit.Fld Z h x ST "coder" "B" c0) (K : RoadKit.Arv Z h b k .char zn (cs.map Value.int) dv) (S : RoadKit.Sta Z h ST "COMPACT_STRINGS" "Z" (.int z)) (hz : ¬ z = 0)
    (hlen : zn.toNatClampNeg = cs.length) (h0 : 0 < cs.length) (hbig : cs.length ≤ 536870912) (hall : ∀ c ∈ cs, ¬ 255 < c) (hfr : 4 ≤ R.frames) (hlo : W + 65 ≤ R.locals) :
    Back l R p e below s args New1.yN len W (fun P a => a = #[.ref x, .ref b] ∧ P.U.heap = h ∧ P.cells + 1 ≤ R.cells ∧ P.slots + cs.length ≤ R.slots)
      (fun P _ v B => ∃ L, QA Z x zn cs h v B.U.heap L ∧ B.locs = P.locs ++ L ∧ B.cells = P.cells + 1 ∧ B.slots = P.slots + cs.length) := by
  obtain ⟨A, K1, K2, K3, K4, K5, K6⟩ := K
  have e : A.slots.size = cs.length := K3.trans hlen
  have hat : ∀ (i : Nat) (hi : i < cs.length), A.slots[i]? = some (.int cs[i]) := fun i hi => by rw [K5 i (by omega)]; simp [List.getD_eq_getElem?_getD, hi]
  have hcv : ∀ (i : Nat) (hi : i < cs.length), cv A i = cs[i] := fun i hi => by unfold cv; rw [hat i hi]
  have hty : Typed .char A := fun i v hv => by
    have hi : i < A.slots.size := (Array.getElem?_eq_some_iff.mp hv).1
    have q := K5 i hi
    rw [hv] at q
    rw [Option.some.inj q]
    exact K6 i hi
  refine Back.mono (back hZ hw wi E V C K1 hty S hz (by omega) (by omega) (fun i hi => by rw [hcv i (by omega)]; exact hall _ (List.getElem_mem _)) hfr hlo) (fun P a hp => ⟨hp.1, hp.2.1, hp.2.2.1, by rw [e]; exact hp.2.2.2⟩) (fun P a v B hp hq => ?_)
  obtain ⟨L, ⟨q1, q2, q3, q4, q5, q6, q7, ⟨V', v1, v2, v3, v4, v5⟩, q9⟩, hl, hc, hs⟩ := hq
  refine ⟨L, ⟨q1, q2, q3, q4, q5, q6, q7, ⟨V'.cls, v3, V', v1, rfl, by rw [v4, e, hlen], K4, fun i hi => ?_, fun i hi => ?_⟩, q9⟩, hl, hc, by rw [hs, e]⟩
  · have hi' : i < cs.length := by omega
    rw [v5 i (by omega), hcv i hi']; simp [List.getD_eq_getElem?_getD, hi']
  · have hi' : i < cs.length := by omega
    simp only [List.getD_eq_getElem?_getD, List.getElem?_map, List.getElem?_eq_getElem hi', Option.map_some, Option.getD_some]
    exact fits_lo8 _
end StrChars.Road
namespace StrChars.Road
open Jvm Sem ClassFile Op Lib Jvm.Stand Jvm.Free Jvm.Free.XT
/-- WHAT COMES BACK, in the writer's own shape -/
def QV (Z : State) (x : Addr) (N : Int32) (bs : List Int32) (h : Heap) (n0 : Nat) (v : Option Value) (h' : Heap) (L : List Loc) : Prop := v = none ∧ RoadKit.Fr n0 L ∧ RoadKit.Keep h h' [x] ∧ RoadKit.Exa Z h' x ST ∧ RoadKit.Fld Z h' x ST "coder" "B" (.int 0) ∧
  ∃ (t : Addr) (kb : ClassId), n0 ≤ t ∧ h.size ≤ t ∧ ¬ t = x ∧ RoadKit.Fld Z h' x ST "value" "[B" (.ref t) ∧ RoadKit.Arv Z h' t kb .byte N (bs.map Value.int) (.int 0)
/-- **new String(chars) AT A CALL, FOR THE WRITER**: a char[] of n known ints, each 0 to 255 -/
theorem backV {p : Program} {l : Launch} {e : Env} {R : Room} {s : State} {args : Array Value} {below : List Frame} {len W : Nat} {Z : State} {a0 : Array Value} {h : Heap} (hZ : Z.Warmed39 s.vm) (hw : ∀ d ∈ words, d.before a0 Z = true) {kI : Nat} (wi : (Jvm.Cond.instantiable ST kI).before a0 Z = true)
    {x b : Addr} {kC : ClassId} {cs bs : List Int32} {d v0 c0 : Value} {z N : Int32} {n n0 : Nat} (hx0 : n0 ≤ x) (hh0 : n0 ≤ h.size) (E : RoadKit.Exa Z h x ST) (V : RoadKit.Fld Z h x ST "value" "[B" v0) (C : RoadKit.Fld Z h x ST "coder" "B" c0) (K : RoadKit.Arv Z h b kC .char N (cs.map Value.int) d) (S : RoadKit.Sta Z h ST "COMPACT_STRINGS" "Z" (.int z)) (hz : ¬ z = 0)
    (hn : cs.length = n) (hN : N = Int32.ofNat n) (l0 : 0 < n) (l2 : n ≤ 4000) (hp : ∀ c ∈ cs, ¬ c < 0 ∧ ¬ (255 : Int32) < c) (hb : bs = cs.map (fun c => c.toInt8.toInt32)) (hfr : 4 ≤ R.frames) (hlo : W + 65 ≤ R.locals) :
    Back l R p e below s args (⟨"java/lang/String", "<init>", "([C)V"⟩ : MethodName) len W (fun P a => a = #[.ref x, .ref b] ∧ P.U.heap = h ∧ P.cells + 1 ≤ R.cells ∧ P.slots + n ≤ R.slots)
      (fun P _ v B => ∃ L, QV Z x N bs h n0 v B.U.heap L ∧ B.locs = P.locs ++ L ∧ B.cells = P.cells + 1 ∧ B.slots = P.slots + n) := by
  subst hn hN hb
  refine Back.mono (backArv hZ hw wi E V C K S hz (n32 (by omega)) l0 (by omega) (fun c hc => (hp c hc).2) hfr hlo) (fun P a hp => hp) (fun P a v B hp hq => ?_)
  obtain ⟨L, ⟨q1, q2, q3, q4, q5, q6, q7, ⟨kb, v1, v2⟩, q9⟩, hl, hc, hs⟩ := hq
  exact ⟨L, ⟨q1, fun y hy => by rw [q2 y hy]; exact hx0, q3, q5, q7, h.size, kb, hh0, Nat.le_refl _, Nat.ne_of_gt E.lt, q6, by rw [List.map_map]; exact v2⟩, hl, hc, hs⟩
end StrChars.Road
end Jvm.Pilot.@@N@@
namespace Jvm.Pilot.@@N@@
open Jvm Jvm.ClassFile Sem Op Lib Jvm.Free Jvm.Free.XT Jvm.Stand Jvm.LawKit Jvm.RoadKit Bundle Jvm.Pilot.@@N@@.Jvm.D
theorem own_d {c : Code} {code : ByteArray} (h : c.code = code) {pc : Nat} {r : Except DecodeError (Instr × Nat)} (h2 : decode code pc = r) : decode c.code pc = r := h ▸ h2
theorem own_pn0 : plainName "java/lang/String" = true := by first | (simp [plainName, overriddenIn]; done) | decide +kernel
theorem own_pd0 : parseMethodDescriptor "([CIILjava/lang/Void;)V" = some ⟨[(.array .char), .int, .int, (.object "java/lang/Void")], none⟩ := by decide +kernel
theorem own_pd1 : parseMethodDescriptor "([C)V" = some ⟨[(.array .char)], none⟩ := by decide +kernel
theorem own_pn1 : plainName "com/example/garmr/garmr/redis/GarmrOptionsRedisUriPinLaw" = true := by first | (simp [plainName, overriddenIn]; done) | decide +kernel
theorem own_pn2 : plainName "com/example/garmr/garmr/redis/GarmrOptions" = true := by first | (simp [plainName, overriddenIn]; done) | decide +kernel
theorem own_pn3 : plainName "java/util/Objects" = true := by first | (simp [plainName, overriddenIn]; done) | decide +kernel
theorem own_pd2 : parseMethodDescriptor "(Ljava/lang/Object;Ljava/lang/String;)Ljava/lang/Object;" = some ⟨[(.object "java/lang/Object"), (.object "java/lang/String")], some (.object "java/lang/Object")⟩ := by decide +kernel
theorem own_pd3 : parseMethodDescriptor "(I)Ljava/lang/String;" = some ⟨[.int], some (.object "java/lang/String")⟩ := by decide +kernel
theorem own_pd4 : parseMethodDescriptor "()V" = some ⟨[], none⟩ := by decide +kernel
theorem own_pd5 : parseMethodDescriptor "()Ljava/lang/String;" = some ⟨[], some (.object "java/lang/String")⟩ := by decide +kernel
theorem own_pd6 : parseMethodDescriptor "(Z)Lcom/example/garmr/garmr/redis/GarmrOptions;" = some ⟨[.boolean], some (.object "com/example/garmr/garmr/redis/GarmrOptions")⟩ := by decide +kernel
theorem own_pd7 : parseMethodDescriptor "(Ljava/lang/String;)Lcom/example/garmr/garmr/redis/GarmrOptions;" = some ⟨[(.object "java/lang/String")], some (.object "com/example/garmr/garmr/redis/GarmrOptions")⟩ := by decide +kernel
theorem own_pd8 : parseMethodDescriptor "(Ljava/lang/Object;)Z" = some ⟨[(.object "java/lang/Object")], some .boolean⟩ := by decide +kernel
theorem own_pd9 : parseMethodDescriptor "()J" = some ⟨[], some .long⟩ := by decide +kernel
theorem own_pd10 : parseMethodDescriptor "()Z" = some ⟨[], some .boolean⟩ := by decide +kernel
abbrev EL : List (String × Nat) := [("com/example/garmr/garmr/redis/GarmrOptions", 15), ("java/lang/String", 7)]
theorem own_EW {Z : State} {a0 : Array Value} (hw : ∀ d ∈ tables_1, d.before a0 Z = true) : EW Z a0 EL := (EW.cons (hw _ (List.mem_of_getElem? (i := 55) rfl)) (by decide +kernel) (EW.cons (hw _ (List.mem_of_getElem? (i := 18) rfl)) (by decide +kernel) EW.nil))
theorem own_safe_null {Z : State} {EL : List (String × Nat)} {vm : Vm} {h : Heap} {x : Addr} {a0 : Array Value} {kI : Nat} (hal : Z.vm.Alike vm) (wi : (Jvm.Cond.instantiable "java/lang/String" kI).before a0 Z = true) (E : Exa Z h x "java/lang/String") (F : Fld Z h x "java/lang/String" "value" "[B" .null) : Safe Z EL vm h x := fun B => by
  obtain ⟨p, -, u, a, -, q, -, G, hx⟩ := B
  obtain ⟨cS, ⟨⟨s1, s2, s3, ⟨cv, kv, iv, s4, s4'⟩, ⟨cc, kc, ic, s5, s5'⟩, s6, s7, s8, s9, s10, s11, s12, -⟩, -⟩, -⟩ := G
  rcases hx with rfl | rfl
  · obtain ⟨cell, cf, k, i, f, h1, h2, -, -, -, -, h7⟩ := F
    cases h1.symm.trans s1
    obtain ⟨k3, e3, -⟩ := State.fieldFound?_setVm (s := Z) hal h2
    have e4 := (show (Wst Z vm h).fieldFound? "java/lang/String" "value" "[B" = _ from e3).symm.trans s4
    simp only [Option.some.injEq, Prod.mk.injEq] at e4
    rw [e4.2.2.2, s8] at h7
    simp at h7
  · obtain ⟨cell, k, h1, h2, h3, -, -⟩ := E
    cases h1.symm.trans s10
    obtain ⟨c2, k2, i1, i2, i3, -⟩ := Cond.instantiable_spec wi
    cases h2.symm.trans i1
    cases h3.symm.trans i2
    obtain ⟨-, k9, hk9, comp, hkind9⟩ := s11
    obtain ⟨k', hk', ek⟩ := hal.2.2 _ _ h3
    cases (show vm.classes[_]? = some k9 from hk9).symm.trans hk'
    rw [ek, i3] at hkind9
    cases hkind9
theorem d0_0 : decode jdk_42_method_149_code 0 = .ok (.aload_n 0, 1) := by decide +kernel
theorem d0_1 : decode jdk_42_method_149_code 1 = .ok (.invokespecial 1, 3) := by decide +kernel
theorem d0_4 : decode jdk_42_method_149_code 4 = .ok (.iload_n 3, 1) := by decide +kernel
theorem d0_5 : decode jdk_42_method_149_code 5 = .ok (.ifCond .ne 22, 3) := by decide +kernel
theorem d0_8 : decode jdk_42_method_149_code 8 = .ok (.aload_n 0, 1) := by decide +kernel
theorem d0_9 : decode jdk_42_method_149_code 9 = .ok (.ldc 7, 2) := by decide +kernel
theorem d0_11 : decode jdk_42_method_149_code 11 = .ok (.getfield 9, 3) := by decide +kernel
theorem d0_14 : decode jdk_42_method_149_code 14 = .ok (.putfield 9, 3) := by decide +kernel
theorem d0_17 : decode jdk_42_method_149_code 17 = .ok (.aload_n 0, 1) := by decide +kernel
theorem d0_18 : decode jdk_42_method_149_code 18 = .ok (.ldc 7, 2) := by decide +kernel
theorem d0_20 : decode jdk_42_method_149_code 20 = .ok (.getfield 15, 3) := by decide +kernel
theorem d0_23 : decode jdk_42_method_149_code 23 = .ok (.putfield 15, 3) := by decide +kernel
theorem d0_26 : decode jdk_42_method_149_code 26 = .ok (.return_, 1) := by decide +kernel
def Q_own_new4e (Z : State) (x b : Addr) (h0 : Heap) (n0 : Nat) (v : Option Value) (h : Heap) (L : List Loc) : Prop := v = none ∧ Fr n0 L ∧ Keep h0 h [x] ∧ Exa Z h x "java/lang/String" ∧ Fld Z h x "java/lang/String" "coder" "B" (.int (0 : Int32)) ∧ ∃ (t : Addr) (kb : ClassId), t ≠ x ∧ t < h.size ∧ Fld Z h x "java/lang/String" "value" "[B" (.ref t) ∧ Arv Z h t kb .byte (0 : Int32) [] (.int (0 : Int32))
set_option maxRecDepth 65536 in
set_option maxHeartbeats 40000000 in
theorem own_new4e (l : Launch) (Z : State) (a0 : Array Value) (hw : ∀ d ∈ tables_1, d.before a0 Z = true) (x b : Addr) (h0 : Heap) (n0 : Nat) (Z0 : n0 ≤ h0.size) (E : Exa Z h0 x "java/lang/String") (V : Fld Z h0 x "java/lang/String" "value" "[B" .null) (C : Fld Z h0 x "java/lang/String" "coder" "B" (.int (0 : Int32))) (gx : n0 ≤ x) :
    MetFree l (⟨"java/lang/String", "<init>", "([CIILjava/lang/Void;)V"⟩ : MethodName) (head1 [Jvm.Cond.code (⟨"java/lang/String", "<init>", "([CIILjava/lang/Void;)V"⟩ : MethodName) jdk_42_method_149_code 6 none] ({ frames := 1, cells := 4, slots := 8, locals := 12 } : Room)) (fun a_ U_ => a_ = #[(.ref x), (.ref b), (.int 0), (.int 0), .null] ∧ Z.Warmed39 U_.vm ∧ U_.heap = h0 ∧ CHv Z EL U_.vm h0) (fun _ _ _ _ _ => True) (fun _ U_ o_ V_ => ∃ v_ L_, o_ = .returned v_ ∧ Q_own_new4e Z x b h0 n0 v_ V_.heap L_ ∧ CHr Z EL U_.vm U_.heap V_.vm V_.heap ∧ ReturnedEndW U_ o_ V_ L_ ({ frames := 1, cells := 4, slots := 8, locals := 12 } : Room).cells ({ frames := 1, cells := 4, slots := 8, locals := 12 } : Room).slots) := by
  refine MetFree.of_bodySF (plainFor_of_name own_pn0) hisR ?_
  intro p e s m args below meth c s₁ Bd hml0 hP hK
  obtain ⟨rfl, hZ, hh, hCH⟩ := hP
  have hx := Bd.exec
  have hby := Bd.bytes
  have hml : c.maxLocals = 6 := hml0
  have hown : s.vm.findClass "java/lang/String" = some m.cls := findClass_of_methodNamed Bd.named
  have hnm := (name_of_methodNamed Bd.named Bd.method).1
  have X0 : Stand p l e ({ frames := 1, cells := 4, slots := 8, locals := 12 } : Room) (s.setVm s.vm) m #[(.ref x), (.ref b), (.int 0), (.int 0), .null] below meth c s₁ [] 0 0 := Stand.of_body Bd
  have e0 : s₁.heap = h0 := by rw [← hh, Bd.state]; rfl
  have N0 := Fr.nil n0
  have KK0 := Keep.refl h0 [x]
  have C0 := CHr.refl hCH
  have hS0 : s.Since s.vm 0 := (State.WarmedH.refl s).since 0
  have hk0 : 0 ≤ h0.size := Nat.zero_le _
  have hEL : EW Z a0 EL := own_EW hw
  have cc0 : Steps p.tables e below (s₁.setTop (entryFrame m #[(.ref x), (.ref b), (.int 0), (.int 0), .null] 6)) (s₁.setTop (mkF m 0 #[.val (.ref x), .val (.ref b), .val (.int 0), .val (.int 0), .val .null, .unset] [])) := XT.entry rfl
  obtain ⟨S0', hS0'⟩ : ∃ S, S = (s₁.setTop (entryFrame m #[(.ref x), (.ref b), (.int 0), (.int 0), .null] 6)) := ⟨_, rfl⟩
  rw [← hS0'] at cc0
  have w_6 := hw _ (List.mem_of_getElem? (i := 6) rfl)
  have w_18 := hw _ (List.mem_of_getElem? (i := 18) rfl)
  have w_20 := hw _ (List.mem_of_getElem? (i := 20) rfl)
  have w_21 := hw _ (List.mem_of_getElem? (i := 21) rfl)
  have w_24 := hw _ (List.mem_of_getElem? (i := 24) rfl)
  have w_25 := hw _ (List.mem_of_getElem? (i := 25) rfl)
  have sx := own_safe_null (EL := EL) hZ.alike w_6 E V
  have cc21 : Steps p.tables e below S0' (s₁.setTop (mkF m 1 #[.val (.ref x), .val (.ref b), .val (.int 0), .val (.int 0), .val .null, .unset] [(.ref x)])) := Steps.trans cc0 (by
    refine XS.aloadN X0.here hx rfl (own_d hby d0_0) rfl rfl ?_
    exact Steps.refl _)
  obtain ⟨T22, X22, e22, st22⟩ := initO X0 hx hZ hown (hw _ (List.mem_of_getElem? (i := 15) rfl)) (hw _ (List.mem_of_getElem? (i := 16) rfl)) (hw _ (List.mem_of_getElem? (i := 17) rfl)) e0 (g := (mkF m 1 #[.val (.ref x), .val (.ref b), .val (.int 0), .val (.int 0), .val .null, .unset] [(.ref x)])) rfl (by rw [hml]; rfl) rfl (own_d hby d0_1) (by decide) (W := 0) (by show 2 * 0 + _ ≤ _; exact Nat.le_of_eq rfl) (by decide)
  have cc23 : Steps p.tables e below S0' (T22.setTop (mkF m 9 #[.val (.ref x), .val (.ref b), .val (.int 0), .val (.int 0), .val .null, .unset] [(.ref x)])) := Steps.trans (cc21.trans (st22 _ (Steps.refl _))) (by
    refine XS.iloadN X22.here hx rfl (own_d hby d0_4) rfl ?_
    refine XS.ifNo X22.here hx rfl (own_d hby d0_5) rfl (i0_ne_f rfl) ?_
    refine XS.aloadN X22.here hx rfl (own_d hby d0_8) rfl rfl ?_
    exact Steps.refl _)
  obtain ⟨q1, T24, h24, k24, t1, kb24, X24, e24, E24, hS24, hk24, hZ24, hown24, Ex24, Fc24, Fv24, Ar24, lta24, ltb24, CH24, -, sfn24, st24⟩ := ldcCH X22 hx hZ hown w_18 (fun a ha => hw a ((by decide +kernel : ∀ a ∈ Bundle.stringAtoms, a ∈ tables_1) a ha)) e22 hS0 hk0 hEL (by decide +kernel) C0.1 (vs := []) (z := 0) (by decide +kernel) (by decide) (by decide) (g := (mkF m 9 #[.val (.ref x), .val (.ref b), .val (.int 0), .val (.int 0), .val .null, .unset] [(.ref x)])) rfl (own_d hby d0_9) (n := 0) (by decide) (by decide) (by decide) (by decide)
  have K24 := (Keep.refl h0 ([] : List Addr)).ext E24
  have C24 := C0.trans CH24
  have KK1 : Keep h0 h24 [x] := KK0.trans K24 all0
  have Zs1 : n0 ≤ h24.size := Nat.le_trans Z0 K24.1
  have sf25 := CH24.safe E.lt sx
  have lt26 := Nat.lt_of_lt_of_le E.lt K24.1
  have nl24_x := sfn24 _ sf25
  have cc27 : Steps p.tables e below S0' (T24.setTop (mkF m 11 #[.val (.ref x), .val (.ref b), .val (.int 0), .val (.int 0), .val .null, .unset] [(.ref q1), (.ref x)])) := (cc23.trans (st24 _ (Steps.refl _)))
  obtain ⟨T28, X28, e28, st28⟩ := getF X24 hx hZ24 hown24 (host := "") (Or.inl w_24) Via.refl e24 Fv24 (g := (mkF m 11 #[.val (.ref x), .val (.ref b), .val (.int 0), .val (.int 0), .val .null, .unset] [(.ref q1), (.ref x)])) rfl rfl (own_d hby d0_11)
  have cc30 : Steps p.tables e below S0' (T28.setTop (mkF m 14 #[.val (.ref x), .val (.ref b), .val (.int 0), .val (.int 0), .val .null, .unset] [(.ref t1), (.ref x)])) := (cc27.trans (st28 _ (Steps.refl _)))
  have fa29 : Fld Z h24 x "java/lang/String" "value" "[B" .null := (V.keep K24 nin0)
  have fa31 : Exa Z h24 x "java/lang/String" := (E.keep K24)
  obtain ⟨T32, h32, X32, e32, W32, st32⟩ := putF X28 hx hZ24 hown24 (host := "") (Or.inl w_24) Via.refl e28 fa29 fa31 (Or.inr ⟨w_20, rfl, hnm⟩) w_6 (ty := (.array .byte)) (by decide) rfl rfl (g := (mkF m 14 #[.val (.ref x), .val (.ref b), .val (.int 0), .val (.int 0), .val .null, .unset] [(.ref t1), (.ref x)])) rfl rfl (own_d hby d0_14)
  have K32 := Keep.of_wr W32
  have N32 := Fr.snoc X32 N0 gx
  have D33 := CHr.wr W32 sf25 C24.1
  have C34 := C24.trans D33
  have KK2 : Keep h0 h32 [x] := KK1.trans K32 (allS (Or.inl (List.mem_of_getElem? (i := 0) rfl)) all0)
  have Zs2 : n0 ≤ h32.size := Nat.le_trans Zs1 K32.1
  have cc35 : Steps p.tables e below S0' (T32.setTop (mkF m 18 #[.val (.ref x), .val (.ref b), .val (.int 0), .val (.int 0), .val .null, .unset] [(.ref x)])) := Steps.trans (cc30.trans (st32 _ (Steps.refl _))) (by
    refine XS.aloadN X32.here hx rfl (own_d hby d0_17) rfl rfl ?_
    exact Steps.refl _)
  obtain ⟨q2, T36, h36, k36, t2, kb36, X36, e36, E36, hS36, hk36, hZ36, hown36, Ex36, Fc36, Fv36, Ar36, lta36, ltb36, CH36, -, sfn36, st36⟩ := ldcCH X32 hx hZ24 hown24 w_18 (fun a ha => hw a ((by decide +kernel : ∀ a ∈ Bundle.stringAtoms, a ∈ tables_1) a ha)) e32 hS24 (Nat.le_trans hk24 K32.1) hEL (by decide +kernel) C34.1 (vs := []) (z := 0) (by decide +kernel) (by decide) (by decide) (g := (mkF m 18 #[.val (.ref x), .val (.ref b), .val (.int 0), .val (.int 0), .val .null, .unset] [(.ref x)])) rfl (own_d hby d0_18) (n := 0) (by decide) (by decide) (by decide) (by decide)
  have K36 := (Keep.refl h32 ([] : List Addr)).ext E36
  have C36 := C34.trans CH36
  have KK3 : Keep h0 h36 [x] := KK2.trans K36 all0
  have Zs3 : n0 ≤ h36.size := Nat.le_trans Zs2 K36.1
  have sf37 := D33.safe lt26 sf25
  have lt38 := Nat.lt_of_lt_of_le lt26 K32.1
  have sf39 := CH36.safe lt38 sf37
  have lt40 := Nat.lt_of_lt_of_le lt38 K36.1
  have nl36_x := sfn36 _ sf39
  have cc41 : Steps p.tables e below S0' (T36.setTop (mkF m 20 #[.val (.ref x), .val (.ref b), .val (.int 0), .val (.int 0), .val .null, .unset] [(.ref q2), (.ref x)])) := (cc35.trans (st36 _ (Steps.refl _)))
  obtain ⟨T42, X42, e42, st42⟩ := getF X36 hx hZ36 hown36 (host := "") (Or.inl w_25) Via.refl e36 Fc36 (g := (mkF m 20 #[.val (.ref x), .val (.ref b), .val (.int 0), .val (.int 0), .val .null, .unset] [(.ref q2), (.ref x)])) rfl rfl (own_d hby d0_20)
  have cc44 : Steps p.tables e below S0' (T42.setTop (mkF m 23 #[.val (.ref x), .val (.ref b), .val (.int 0), .val (.int 0), .val .null, .unset] [(.int (0 : Int32)), (.ref x)])) := (cc41.trans (st42 _ (Steps.refl _)))
  have fa43 : Fld Z h36 x "java/lang/String" "coder" "B" (.int (0 : Int32)) := (((C.keep K24 nin0).other W32 (Or.inr (slot_ne (Or.inr w_21) (Or.inr w_20) (by decide) (t := .byte) (t' := (.array .byte)) (by decide) (by decide)))).keep K36 nin0)
  have fa45 : Exa Z h36 x "java/lang/String" := ((fa31.keep K32).keep K36)
  obtain ⟨T46, h46, X46, e46, W46, st46⟩ := putFN X42 hx hZ36 hown36 w_25 Via.refl e42 fa43 fa45 (Or.inr ⟨w_21, rfl, hnm⟩) w_6 (ty := .byte) (v' := (.int (0 : Int32))) (by decide) rfl rfl (g := (mkF m 23 #[.val (.ref x), .val (.ref b), .val (.int 0), .val (.int 0), .val .null, .unset] [(.int (0 : Int32)), (.ref x)])) rfl rfl (own_d hby d0_23)
  have K46 := Keep.of_wr W46
  have N46 := Fr.snoc X46 N32 gx
  have D47 := CHr.wr W46 sf39 C36.1
  have C48 := C36.trans D47
  have KK4 : Keep h0 h46 [x] := KK3.trans K46 (allS (Or.inl (List.mem_of_getElem? (i := 0) rfl)) all0)
  have Zs4 : n0 ≤ h46.size := Nat.le_trans Zs3 K46.1
  have cc50 : Steps p.tables e below S0' (T46.setTop (mkF m 26 #[.val (.ref x), .val (.ref b), .val (.int 0), .val (.int 0), .val .null, .unset] [])) := (cc44.trans (st46 _ (Steps.refl _)))
  have fa49 : Exa Z h46 x "java/lang/String" := (fa45.keep K46)
  have fa51 : Fld Z h46 x "java/lang/String" "value" "[B" (.ref t1) := (((Fld.same W32 fa29).keep K36 nin0).other W46 (Or.inr (slot_ne (Or.inr w_20) (Or.inr w_21) (by decide) (t := (.array .byte)) (t' := .byte) (by decide) (by decide))))
  have fa52 : Arv Z h46 t1 kb24 .byte (0 : Int32) ([]) (.int (0 : Int32)) := (((Ar24.keep K32 (ninS (Ne.symm nl24_x.2) nin0)).keep K36 nin0).keep K46 (ninS (Ne.symm nl24_x.2) nin0))
  have cE := cc50
  rw [hS0'] at cE
  obtain ⟨fs, hr, hrun, hended, hE⟩ := X46.leaveW hS36 (by rw [e46]; exact (Nat.le_trans hk36 K46.1)) (v := none) (fun _ => rfl)
  have CE := C48.trans (CHv.at X46 hZ36 hEL C48.1)
  refine ⟨_, _, cE.trans (X46.returnOut hx Bd.returns (own_d hby d0_26) hr), hrun, hended, _, _, rfl, ?_, ?_, hE.1, hE.2.1, hE.2.2.1, hE.2.2.2.mono (by first | decide | omega) (by first | decide | omega)⟩
  · show Q_own_new4e Z x b h0 n0 _ T46.heap _
    rw [e46]
    exact ⟨rfl, N46, KK4, fa49, (Fld.same W46 fa43), t1, _, Ne.symm nl24_x.2, fa52.lt, fa51, fa52⟩
  · rw [hh]
    show CHr Z EL s.vm h0 T46.vm T46.heap
    rw [e46]
    exact CE
theorem d1_0 : decode jdk_42_method_3_code 0 = .ok (.aload_n 0, 1) := by decide +kernel
theorem d1_1 : decode jdk_42_method_3_code 1 = .ok (.aload_n 1, 1) := by decide +kernel
theorem d1_2 : decode jdk_42_method_3_code 2 = .ok (.iconst 0, 1) := by decide +kernel
theorem d1_3 : decode jdk_42_method_3_code 3 = .ok (.aload_n 1, 1) := by decide +kernel
theorem d1_4 : decode jdk_42_method_3_code 4 = .ok (.arraylength, 1) := by decide +kernel
theorem d1_5 : decode jdk_42_method_3_code 5 = .ok (.aconst_null, 1) := by decide +kernel
theorem d1_6 : decode jdk_42_method_3_code 6 = .ok (.invokespecial 27, 3) := by decide +kernel
theorem d1_9 : decode jdk_42_method_3_code 9 = .ok (.return_, 1) := by decide +kernel
def Q_own_new1e (Z : State) (x b : Addr) (kc : ClassId) (h0 : Heap) (n0 : Nat) (v : Option Value) (h : Heap) (L : List Loc) : Prop := v = none ∧ Fr n0 L ∧ Keep h0 h [x] ∧ Exa Z h x "java/lang/String" ∧ Fld Z h x "java/lang/String" "coder" "B" (.int (0 : Int32)) ∧ ∃ (t : Addr) (kb : ClassId), t ≠ x ∧ t < h.size ∧ Fld Z h x "java/lang/String" "value" "[B" (.ref t) ∧ Arv Z h t kb .byte (0 : Int32) [] (.int (0 : Int32))
set_option maxRecDepth 65536 in
set_option maxHeartbeats 40000000 in
theorem own_new1e (l : Launch) (Z : State) (a0 : Array Value) (hw : ∀ d ∈ tables_1, d.before a0 Z = true) (x b : Addr) (kc : ClassId) (h0 : Heap) (n0 : Nat) (Z0 : n0 ≤ h0.size) (E : Exa Z h0 x "java/lang/String") (V : Fld Z h0 x "java/lang/String" "value" "[B" .null) (C : Fld Z h0 x "java/lang/String" "coder" "B" (.int (0 : Int32))) (gx : n0 ≤ x) (K : Arv Z h0 b kc .char (0 : Int32) [] (.int (0 : Int32))) :
    MetFree l (⟨"java/lang/String", "<init>", "([C)V"⟩ : MethodName) (head1 [Jvm.Cond.code (⟨"java/lang/String", "<init>", "([C)V"⟩ : MethodName) jdk_42_method_3_code 2 none] ({ frames := 2, cells := 4, slots := 8, locals := 29 } : Room)) (fun a_ U_ => a_ = #[(.ref x), (.ref b)] ∧ Z.Warmed39 U_.vm ∧ U_.heap = h0 ∧ CHv Z EL U_.vm h0) (fun _ _ _ _ _ => True) (fun _ U_ o_ V_ => ∃ v_ L_, o_ = .returned v_ ∧ Q_own_new1e Z x b kc h0 n0 v_ V_.heap L_ ∧ CHr Z EL U_.vm U_.heap V_.vm V_.heap ∧ ReturnedEndW U_ o_ V_ L_ ({ frames := 2, cells := 4, slots := 8, locals := 29 } : Room).cells ({ frames := 2, cells := 4, slots := 8, locals := 29 } : Room).slots) := by
  refine MetFree.of_bodySF (plainFor_of_name own_pn0) hisR ?_
  intro p e s m args below meth c s₁ Bd hml0 hP hK
  obtain ⟨rfl, hZ, hh, hCH⟩ := hP
  have hx := Bd.exec
  have hby := Bd.bytes
  have hml : c.maxLocals = 2 := hml0
  have hown : s.vm.findClass "java/lang/String" = some m.cls := findClass_of_methodNamed Bd.named
  have hnm := (name_of_methodNamed Bd.named Bd.method).1
  have X0 : Stand p l e ({ frames := 2, cells := 4, slots := 8, locals := 29 } : Room) (s.setVm s.vm) m #[(.ref x), (.ref b)] below meth c s₁ [] 0 0 := Stand.of_body Bd
  have e0 : s₁.heap = h0 := by rw [← hh, Bd.state]; rfl
  have N0 := Fr.nil n0
  have KK0 := Keep.refl h0 [x]
  have C0 := CHr.refl hCH
  have hS0 : s.Since s.vm 0 := (State.WarmedH.refl s).since 0
  have hk0 : 0 ≤ h0.size := Nat.zero_le _
  have hEL : EW Z a0 EL := own_EW hw
  have cc0 : Steps p.tables e below (s₁.setTop (entryFrame m #[(.ref x), (.ref b)] 2)) (s₁.setTop (mkF m 0 #[.val (.ref x), .val (.ref b)] [])) := XT.entry rfl
  obtain ⟨S0', hS0'⟩ : ∃ S, S = (s₁.setTop (entryFrame m #[(.ref x), (.ref b)] 2)) := ⟨_, rfl⟩
  rw [← hS0'] at cc0
  have w_14 := hw _ (List.mem_of_getElem? (i := 14) rfl)
  have cc21 : Steps p.tables e below S0' (s₁.setTop (mkF m 4 #[.val (.ref x), .val (.ref b)] [(.ref b), (.int 0), (.ref b), (.ref x)])) := Steps.trans cc0 (by
    refine XS.aloadN X0.here hx rfl (own_d hby d1_0) rfl rfl ?_
    refine XS.aloadN X0.here hx rfl (own_d hby d1_1) rfl rfl ?_
    refine iconstV X0.here hx rfl 0 (own_d hby d1_2) (by decide) ?_
    refine XS.aloadN X0.here hx rfl (own_d hby d1_3) rfl rfl ?_
    exact Steps.refl _)
  obtain ⟨clu22, Aru22, -, Su22, Ngu22, -, -⟩ := K
  have cl_u22 := X0.arraylength hx (by rw [e0]; exact Aru22.1) (State.isArrayOf_alike (hZ).alike Aru22.2.1) (g := (mkF m 4 #[.val (.ref x), .val (.ref b)] [(.ref b), (.int 0), (.ref b), (.ref x)])) rfl rfl (own_d hby d1_4) _ (Steps.refl _)
  rw [len_of Su22 Ngu22] at cl_u22
  have cc23 : Steps p.tables e below S0' (s₁.setTop (mkF m 6 #[.val (.ref x), .val (.ref b)] [.null, (.int (0 : Int32)), (.int 0), (.ref b), (.ref x)])) := Steps.trans (Steps.trans cc21 cl_u22) (by
    refine XS.aconstNull X0.here hx rfl (own_d hby d1_5) ?_
    exact Steps.refl _)
  obtain ⟨_, _, ⟨T24, L24, k24, n24⟩, -, X24, hs24, gr24, ⟨Lc24, hQ24, l24, y24, z24, CH24⟩, st24⟩ := X0.specialBackS hx (y := (⟨"java/lang/String", "<init>", "([CIILjava/lang/Void;)V"⟩ : MethodName)) rfl hown (mvT hZ (hw _ (List.mem_of_getElem? (i := 11) rfl))) (mvT hZ (hw _ (List.mem_of_getElem? (i := 12) rfl))) (mvT hZ w_14) (by decide) (backOfSH (W := 0) (own_new4e l Z a0 hw x b h0 n0 Z0 E V C gx) hZ w_14 (hw _ (List.mem_of_getElem? (i := 7) rfl)) (by decide) (by decide) hEL C0.1) (g := (mkF m 6 #[.val (.ref x), .val (.ref b)] [.null, (.int (0 : Int32)), (.int 0), (.ref b), (.ref x)])) rfl (by rw [hml]; rfl) (Steps.refl _) (a := x) (argsL := [(.ref b), (.int 0), (.int (0 : Int32)), .null]) (rest := []) (lenOf own_pd0 rfl) rfl (by show 2 * 0 + _ ≤ _; exact Nat.le_of_eq rfl) (own_d hby d1_6) (fun _ _ => ⟨rfl, e0, Nat.le_of_ble_eq_true rfl, Nat.le_of_ble_eq_true rfl⟩)
  dsimp only [Pt.U, Pt.locs, Pt.cells, Pt.slots] at X24 l24 y24 z24 st24 hQ24 hs24 gr24 CH24
  subst l24 y24 z24
  obtain ⟨rfl, Nq24, Kq24, Eq24, Cq24, t, kb, q124, q224, Vq24, Aq24⟩ := hQ24
  obtain ⟨Xr24, hS24, hZ24, hown24⟩ := rebS hS0 (by rw [e0]; exact hk0) X24 hs24 gr24 hZ hown
  have hk24 : T24.heap.size ≤ T24.heap.size := Nat.le_refl _
  have C24 := C0.trans CH24
  have N24 := Fr.app N0 Nq24
  have KK1 : Keep h0 T24.heap [x] := KK0.trans Kq24 (allS (Or.inl (List.mem_of_getElem? (i := 0) rfl)) all0)
  have Zs1 : n0 ≤ T24.heap.size := Nat.le_trans Z0 Kq24.1
  have e24 : T24.heap = T24.heap := rfl
  have cc25 : Steps p.tables e below S0' (T24.setTop (mkF m 9 #[.val (.ref x), .val (.ref b)] [])) := (Steps.trans cc23 st24)
  have cE := cc25
  rw [hS0'] at cE
  obtain ⟨fs, hr, hrun, hended, hE⟩ := Xr24.leaveW hS24 (by rw [e24]; exact hk24) (v := none) (fun _ => rfl)
  have CE := C24.trans (CHv.at Xr24 hZ24 hEL C24.1)
  refine ⟨_, _, cE.trans (Xr24.returnOut hx Bd.returns (own_d hby d1_9) hr), hrun, hended, _, _, rfl, ?_, ?_, hE.1, hE.2.1, hE.2.2.1, hE.2.2.2.mono (by first | decide | omega) (by first | decide | omega)⟩
  · show Q_own_new1e Z x b kc h0 n0 _ T24.heap _
    rw [e24]
    exact ⟨rfl, N24, KK1, Eq24, Cq24, t, kb, q124, q224, Vq24, Aq24⟩
  · rw [hh]
    show CHr Z EL s.vm h0 T24.vm T24.heap
    rw [e24]
    exact CE
theorem own_char (x : Int32) : ¬ nar .char x < 0 ∧ ¬ (65535 : Int32) < nar .char x := by
  have f := fits_nar_char x
  simp only [fits, Bool.and_eq_true, decide_eq_true_eq] at f
  exact ⟨Int32.not_lt.mpr f.1, Int32.not_lt.mpr f.2⟩
theorem own_and255 (x : Int32) : ¬ nar .char ((x &&& (255 : Int32)).toUInt32.toUInt16.toUInt32.toInt32) < 0 ∧ ¬ (255 : Int32) < nar .char ((x &&& (255 : Int32)).toUInt32.toUInt16.toUInt32.toInt32) := by
  have t : ∀ k : Fin 256, ¬ nar .char ((Int32.ofNat k.val).toUInt32.toUInt16.toUInt32.toInt32) < 0 ∧ ¬ (255 : Int32) < nar .char ((Int32.ofNat k.val).toUInt32.toUInt16.toUInt32.toInt32) := by decide +kernel
  have h : (x &&& 255).toBitVec.toNat < 256 := by
    simp only [Int32.toBitVec_and, BitVec.toNat_and]
    exact Nat.lt_succ_of_le Nat.and_le_right
  have e : (x &&& 255) = Int32.ofNat (x &&& 255).toBitVec.toNat := by
    apply Int32.toBitVec_inj.mp
    show _ = BitVec.ofNat 32 _
    rw [BitVec.ofNat_toNat]; simp
  rw [e]
  exact t ⟨_, h⟩
theorem own_and3 (x : Int32) : (x &&& (3 : Int32)) = 0 ∨ (x &&& (3 : Int32)) = 1 ∨ (x &&& (3 : Int32)) = 2 ∨ (x &&& (3 : Int32)) = 3 := by
  have t : ∀ k : Fin 4, Int32.ofNat k.val = 0 ∨ Int32.ofNat k.val = 1 ∨ Int32.ofNat k.val = 2 ∨ Int32.ofNat k.val = 3 := by decide +kernel
  have h : (x &&& 3).toBitVec.toNat < 4 := by
    simp only [Int32.toBitVec_and, BitVec.toNat_and]
    exact Nat.lt_succ_of_le Nat.and_le_right
  have e : (x &&& 3) = Int32.ofNat (x &&& 3).toBitVec.toNat := by
    apply Int32.toBitVec_inj.mp
    show _ = BitVec.ofNat 32 _
    rw [BitVec.ofNat_toNat]; simp
  rw [e]
  exact t ⟨_, h⟩
theorem d2_0 : decode method_2_code 0 = .ok (.iload_n 0, 1) := by decide +kernel
theorem d2_1 : decode method_2_code 1 = .ok (.bipush 24, 2) := by decide +kernel
theorem d2_3 : decode method_2_code 3 = .ok (.iushr, 1) := by decide +kernel
theorem d2_4 : decode method_2_code 4 = .ok (.iconst 3, 1) := by decide +kernel
theorem d2_5 : decode method_2_code 5 = .ok (.iand, 1) := by decide +kernel
theorem d2_6 : decode method_2_code 6 = .ok (.istore_n 1, 1) := by decide +kernel
theorem d2_7 : decode method_2_code 7 = .ok (.iload_n 1, 1) := by decide +kernel
theorem d2_8 : decode method_2_code 8 = .ok (.newarray .char, 2) := by decide +kernel
theorem d2_10 : decode method_2_code 10 = .ok (.astore_n 2, 1) := by decide +kernel
theorem d2_11 : decode method_2_code 11 = .ok (.iload_n 1, 1) := by decide +kernel
theorem d2_12 : decode method_2_code 12 = .ok (.ifCond .le 12, 3) := by decide +kernel
theorem d2_15 : decode method_2_code 15 = .ok (.aload_n 2, 1) := by decide +kernel
theorem d2_16 : decode method_2_code 16 = .ok (.iconst 0, 1) := by decide +kernel
theorem d2_17 : decode method_2_code 17 = .ok (.iload_n 0, 1) := by decide +kernel
theorem d2_18 : decode method_2_code 18 = .ok (.sipush 255, 3) := by decide +kernel
theorem d2_21 : decode method_2_code 21 = .ok (.iand, 1) := by decide +kernel
theorem d2_22 : decode method_2_code 22 = .ok (.i2c, 1) := by decide +kernel
theorem d2_23 : decode method_2_code 23 = .ok (.castore, 1) := by decide +kernel
theorem d2_24 : decode method_2_code 24 = .ok (.iload_n 1, 1) := by decide +kernel
theorem d2_25 : decode method_2_code 25 = .ok (.iconst 1, 1) := by decide +kernel
theorem d2_26 : decode method_2_code 26 = .ok (.if_icmp .le 15, 3) := by decide +kernel
theorem d2_29 : decode method_2_code 29 = .ok (.aload_n 2, 1) := by decide +kernel
theorem d2_30 : decode method_2_code 30 = .ok (.iconst 1, 1) := by decide +kernel
theorem d2_31 : decode method_2_code 31 = .ok (.iload_n 0, 1) := by decide +kernel
theorem d2_32 : decode method_2_code 32 = .ok (.bipush 8, 2) := by decide +kernel
theorem d2_34 : decode method_2_code 34 = .ok (.iushr, 1) := by decide +kernel
theorem d2_35 : decode method_2_code 35 = .ok (.sipush 255, 3) := by decide +kernel
theorem d2_38 : decode method_2_code 38 = .ok (.iand, 1) := by decide +kernel
theorem d2_39 : decode method_2_code 39 = .ok (.i2c, 1) := by decide +kernel
theorem d2_40 : decode method_2_code 40 = .ok (.castore, 1) := by decide +kernel
theorem d2_41 : decode method_2_code 41 = .ok (.iload_n 1, 1) := by decide +kernel
theorem d2_42 : decode method_2_code 42 = .ok (.iconst 2, 1) := by decide +kernel
theorem d2_43 : decode method_2_code 43 = .ok (.if_icmp .le 15, 3) := by decide +kernel
theorem d2_46 : decode method_2_code 46 = .ok (.aload_n 2, 1) := by decide +kernel
theorem d2_47 : decode method_2_code 47 = .ok (.iconst 2, 1) := by decide +kernel
theorem d2_48 : decode method_2_code 48 = .ok (.iload_n 0, 1) := by decide +kernel
theorem d2_49 : decode method_2_code 49 = .ok (.bipush 16, 2) := by decide +kernel
theorem d2_51 : decode method_2_code 51 = .ok (.iushr, 1) := by decide +kernel
theorem d2_52 : decode method_2_code 52 = .ok (.sipush 255, 3) := by decide +kernel
theorem d2_55 : decode method_2_code 55 = .ok (.iand, 1) := by decide +kernel
theorem d2_56 : decode method_2_code 56 = .ok (.i2c, 1) := by decide +kernel
theorem d2_57 : decode method_2_code 57 = .ok (.castore, 1) := by decide +kernel
theorem d2_58 : decode method_2_code 58 = .ok (.new 7, 3) := by decide +kernel
theorem d2_61 : decode method_2_code 61 = .ok (.dup, 1) := by decide +kernel
theorem d2_62 : decode method_2_code 62 = .ok (.aload_n 2, 1) := by decide +kernel
theorem d2_63 : decode method_2_code 63 = .ok (.invokespecial 9, 3) := by decide +kernel
theorem d2_66 : decode method_2_code 66 = .ok (.areturn, 1) := by decide +kernel
def Q_own_draw (Z : State) (p1 z : Int32) (h0 : Heap) (n0 : Nat) (v : Option Value) (h : Heap) (L : List Loc) : Prop := ∃ x : Addr, v = some (.ref x) ∧ Fr n0 L ∧ Keep h0 h [] ∧ h0.size ≤ x ∧ Exa Z h x "java/lang/String"
set_option maxRecDepth 65536 in
set_option maxHeartbeats 40000000 in
theorem own_draw (l : Launch) (Z : State) (a0 : Array Value) (hw : ∀ d ∈ tables_1, d.before a0 Z = true) (p1 z : Int32) (h0 : Heap) (n0 : Nat) (Z0 : n0 ≤ h0.size) (X00 : Old Z n0 h0) (O2 : Sta Z Z.heap "java/lang/String" "COMPACT_STRINGS" "Z" (.int z)) (P5 : ¬ z = 0) :
    MetFree l (⟨"com/example/garmr/garmr/redis/GarmrOptionsRedisUriPinLaw", "draw", "(I)Ljava/lang/String;"⟩ : MethodName) (head1 [Jvm.Cond.code (⟨"com/example/garmr/garmr/redis/GarmrOptionsRedisUriPinLaw", "draw", "(I)Ljava/lang/String;"⟩ : MethodName) method_2_code 3 (some (.object "java/lang/String"))] ({ frames := 4, cells := 6, slots := 15, locals := 66 } : Room)) (fun a_ U_ => a_ = #[(.int p1)] ∧ Z.Warmed39 U_.vm ∧ U_.heap = h0 ∧ CHv Z EL U_.vm h0) (fun _ _ _ _ _ => True) (fun _ U_ o_ V_ => ∃ v_ L_, o_ = .returned v_ ∧ Q_own_draw Z p1 z h0 n0 v_ V_.heap L_ ∧ CHr Z EL U_.vm U_.heap V_.vm V_.heap ∧ ReturnedEndW U_ o_ V_ L_ ({ frames := 4, cells := 6, slots := 15, locals := 66 } : Room).cells ({ frames := 4, cells := 6, slots := 15, locals := 66 } : Room).slots) := by
  refine MetFree.of_bodySF (plainFor_of_name own_pn1) hisR ?_
  intro p e s m args below meth c s₁ Bd hml0 hP hK
  obtain ⟨rfl, hZ, hh, hCH⟩ := hP
  have hx := Bd.exec
  have hby := Bd.bytes
  have hml : c.maxLocals = 3 := hml0
  have hown : s.vm.findClass "com/example/garmr/garmr/redis/GarmrOptionsRedisUriPinLaw" = some m.cls := findClass_of_methodNamed Bd.named
  have hnm := (name_of_methodNamed Bd.named Bd.method).1
  have X0 : Stand p l e ({ frames := 4, cells := 6, slots := 15, locals := 66 } : Room) (s.setVm s.vm) m #[(.int p1)] below meth c s₁ [] 0 0 := Stand.of_body Bd
  have e0 : s₁.heap = h0 := by rw [← hh, Bd.state]; rfl
  have N0 := Fr.nil n0
  have KK0 := Keep.refl h0 ([] : List Addr)
  have C0 := CHr.refl hCH
  have hS0 : s.Since s.vm 0 := (State.WarmedH.refl s).since 0
  have hk0 : 0 ≤ h0.size := Nat.zero_le _
  have hEL : EW Z a0 EL := own_EW hw
  have cc0 : Steps p.tables e below (s₁.setTop (entryFrame m #[(.int p1)] 3)) (s₁.setTop (mkF m 0 #[.val (.int p1), .unset, .unset] [])) := XT.entry rfl
  obtain ⟨S0', hS0'⟩ : ∃ S, S = (s₁.setTop (entryFrame m #[(.int p1)] 3)) := ⟨_, rfl⟩
  rw [← hS0'] at cc0
  have w_4 := hw _ (List.mem_of_getElem? (i := 4) rfl)
  have w_5 := hw _ (List.mem_of_getElem? (i := 5) rfl)
  have w_6 := hw _ (List.mem_of_getElem? (i := 6) rfl)
  have w_7 := hw _ (List.mem_of_getElem? (i := 7) rfl)
  have w_8 := hw _ (List.mem_of_getElem? (i := 8) rfl)
  have w_9 := hw _ (List.mem_of_getElem? (i := 9) rfl)
  have w_10 := hw _ (List.mem_of_getElem? (i := 10) rfl)
  have w_20 := hw _ (List.mem_of_getElem? (i := 20) rfl)
  have w_21 := hw _ (List.mem_of_getElem? (i := 21) rfl)
  have hws : ∀ d ∈ StrChars.Road.words, d.before a0 Z = true := fun d hd => hw d ((by decide +kernel : ∀ d ∈ StrChars.Road.words, d ∈ tables_1) d hd)
  have cc21 : Steps p.tables e below S0' (s₁.setTop (mkF m 8 #[.val (.int p1), .val (.int ((XT.ushr p1 (24 : Int32)) &&& (3 : Int32))), .unset] [(.int ((XT.ushr p1 (24 : Int32)) &&& (3 : Int32)))])) := Steps.trans cc0 (by
    refine XS.iloadN X0.here hx rfl (own_d hby d2_0) rfl ?_
    refine bipushV X0.here hx rfl 24 (own_d hby d2_1) (by decide) ?_
    refine XT.iushr X0.here hx rfl (own_d hby d2_3) rfl ?_
    refine iconstV X0.here hx rfl 3 (own_d hby d2_4) (by decide) ?_
    refine XS.iand X0.here hx rfl (own_d hby d2_5) rfl ?_
    refine XS.istoreN X0.here hx rfl (own_d hby d2_6) rfl rfl ?_
    refine XS.iloadN X0.here hx rfl (own_d hby d2_7) rfl ?_
    exact Steps.refl _)
  rcases own_and3 (XT.ushr p1 (24 : Int32)) with hl | hl | hl | hl
  · skip
    have cz : Steps p.tables e below S0' (s₁.setTop (mkF m 8 #[.val (.int p1), .val (.int (0 : Int32)), .unset] [(.int (0 : Int32))])) := by
      have := cc21
      rw [hl] at this
      exact this
    obtain ⟨T22, h22, k22, X22, e22, E22, A22, st22⟩ := newP X0 hx hZ (aty := .char) w_4 e0 (g := (mkF m 8 #[.val (.int p1), .val (.int (0 : Int32)), .unset] [(.int (0 : Int32))])) rfl (own_d hby d2_8) rfl (by decide) (cap := 0) (by decide) (by decide) (by decide) (by decide)
    obtain ⟨b, g_b⟩ : ∃ z, z = h0.size := ⟨_, rfl⟩
    rw [← g_b] at A22 st22
    have K22 := (Keep.refl h0 ([] : List Addr)).ext E22
    have b_b : h0.size ≤ b := (Nat.le_of_eq g_b.symm)
    have gn_b : n0 ≤ b := Nat.le_trans Z0 b_b
    have s0_b : h0.size ≤ b := Nat.le_trans KK0.1 b_b
    have D23 := CHr.ext E22 C0.1
    have C24 := C0.trans D23
    have sf_b : Safe Z EL s.vm h22 b := Safe.ext E22 C0.1 (Safe.new b_b)
    have KK1 : Keep h0 h22 ([] : List Addr) := KK0.trans K22 all0
    have Zs1 : n0 ≤ h22.size := Nat.le_trans Z0 K22.1
    have V_b : Arv Z h22 b k22 .char (0 : Int32) [] (.int (0 : Int32)) := (Arv.new A22 (by decide)).pad (pad_rep [] (.int (0 : Int32)) 0)
    have cc25 : Steps p.tables e below S0' (T22.setTop (mkF m 58 #[.val (.int p1), .val (.int (0 : Int32)), .val (.ref b)] [])) := Steps.trans (cz.trans (st22 _ (Steps.refl _))) (by
      refine XS.astoreN X22.here hx rfl (own_d hby d2_10) rfl rfl rfl ?_
      refine XS.iloadN X22.here hx rfl (own_d hby d2_11) rfl ?_
      refine XS.ifYes X22.here hx rfl (pc0 := 12) rfl (own_d hby d2_12) rfl (i0_le_t (by decide)) (by decide) rfl ?_
      refine XS.iloadN X22.here hx rfl (own_d hby d2_24) rfl ?_
      refine iconstV X22.here hx rfl 1 (own_d hby d2_25) (by decide) ?_
      refine XS.icmpYes X22.here hx rfl (pc0 := 26) rfl (own_d hby d2_26) rfl (ii_le_t (by decide)) (by decide) rfl ?_
      refine XS.iloadN X22.here hx rfl (own_d hby d2_41) rfl ?_
      refine iconstV X22.here hx rfl 2 (own_d hby d2_42) (by decide) ?_
      refine XS.icmpYes X22.here hx rfl (pc0 := 43) rfl (own_d hby d2_43) rfl (ii_le_t (by decide)) (by decide) rfl ?_
      exact Steps.refl _)
    obtain ⟨T26, h26, X26, e26, E26, A26, D26, -, st26⟩ := newO X22 hx hZ hown w_5 w_6 w_7 e22 (g := (mkF m 58 #[.val (.int p1), .val (.int (0 : Int32)), .val (.ref b)] [])) rfl (own_d hby d2_58) (by decide) (by decide)
    obtain ⟨x, g_x⟩ : ∃ z, z = h22.size := ⟨_, rfl⟩
    rw [← g_x] at A26 D26 st26
    have K26 := (Keep.refl h22 ([] : List Addr)).ext E26
    have b_x : h22.size ≤ x := (Nat.le_of_eq g_x.symm)
    have gn_x : n0 ≤ x := Nat.le_trans Zs1 b_x
    have s0_x : h0.size ≤ x := Nat.le_trans KK1.1 b_x
    have ne_b_x : b ≠ x := Nat.ne_of_lt (Nat.lt_of_lt_of_le V_b.lt b_x)
    have D27 := CHr.ext E26 C24.1
    have C28 := C24.trans D27
    have sf_x : Safe Z EL s.vm h26 x := Safe.ext E26 C24.1 (Safe.new b_x)
    have KK2 : Keep h0 h26 ([] : List Addr) := KK1.trans K26 all0
    have Zs2 : n0 ≤ h26.size := Nat.le_trans Zs1 K26.1
    have F_value_x : Fld Z h26 x "java/lang/String" "value" "[B" .null := D26 (Or.inr w_20) (ty := (.array .byte)) (by decide)
    have F_coder_x : Fld Z h26 x "java/lang/String" "coder" "B" (.int (0 : Int32)) := D26 (Or.inr w_21) (ty := .byte) (by decide)
    have cc30 : Steps p.tables e below S0' (T26.setTop (mkF m 63 #[.val (.int p1), .val (.int (0 : Int32)), .val (.ref b)] [(.ref b), (.ref x), (.ref x)])) := Steps.trans (cc25.trans (st26 _ (Steps.refl _))) (by
      refine XS.dup X26.here hx rfl (own_d hby d2_61) rfl rfl ?_
      refine XS.aloadN X26.here hx rfl (own_d hby d2_62) rfl rfl ?_
      exact Steps.refl _)
    have fa29 : Arv Z h26 b k22 .char (0 : Int32) ([]) (.int (0 : Int32)) := (V_b.keep K26 nin0)
    have fa31 : Old Z n0 h26 := ((X00.keep K22 all0).keep K26 all0)
    obtain ⟨_, _, ⟨T32, L32, k32, n32⟩, -, X32, hs32, gr32, ⟨Lc32, hQ32, l32, y32, z32, CH32⟩, st32⟩ := X26.specialBackS hx (y := (⟨"java/lang/String", "<init>", "([C)V"⟩ : MethodName)) rfl hown (mvT hZ w_8) (mvT hZ w_9) (mvT hZ w_10) (by decide) (backOfSH (W := 1) (own_new1e l Z a0 hw x b _ h26 n0 Zs2 A26 F_value_x F_coder_x gn_x fa29) hZ w_10 w_7 (by decide) (by decide) hEL C28.1) (g := (mkF m 63 #[.val (.int p1), .val (.int (0 : Int32)), .val (.ref b)] [(.ref b), (.ref x), (.ref x)])) rfl (by rw [hml]; rfl) (Steps.refl _) (a := x) (argsL := [(.ref b)]) (rest := [(.ref x)]) (lenOf own_pd1 rfl) rfl (by show 2 * 0 + _ ≤ _; exact Nat.le_of_eq rfl) (own_d hby d2_63) (fun _ _ => ⟨rfl, e26, Nat.le_of_ble_eq_true rfl, Nat.le_of_ble_eq_true rfl⟩)
    dsimp only [Pt.U, Pt.locs, Pt.cells, Pt.slots] at X32 l32 y32 z32 st32 hQ32 hs32 gr32 CH32
    subst l32 y32 z32
    obtain ⟨rfl, Nq32, Kq32, Eq32, Cq32, t, kb, q132, q232, Vq32, Aq32⟩ := hQ32
    obtain ⟨Xr32, hS32, hZ32, hown32⟩ := rebS hS0 (by rw [e26]; exact (Nat.le_trans (Nat.le_trans hk0 K22.1) K26.1)) X32 hs32 gr32 hZ hown
    have hk32 : T32.heap.size ≤ T32.heap.size := Nat.le_refl _
    have C32 := C28.trans CH32
    have N32 := Fr.app N0 Nq32
    have KK3 : Keep h0 T32.heap ([] : List Addr) := KK2.trans Kq32 (allS (Or.inr s0_x) all0)
    have Zs3 : n0 ≤ T32.heap.size := Nat.le_trans Zs2 Kq32.1
    have e32 : T32.heap = T32.heap := rfl
    have cc33 : Steps p.tables e below S0' (T32.setTop (mkF m 66 #[.val (.int p1), .val (.int (0 : Int32)), .val (.ref b)] [(.ref x)])) := (Steps.trans cc30 st32)
    have cE := cc33
    rw [hS0'] at cE
    obtain ⟨fs, hr, hrun, hended, hE⟩ := Xr32.leaveW hS32 (by rw [e32]; exact hk32) (v := some (.ref x)) (fun h => by rw [Bd.returns] at h; cases h)
    have CE := C32.trans (CHv.at Xr32 hZ32 hEL C32.1)
    refine ⟨_, _, cE.trans (Xr32.areturnOut hx (rfl) Bd.returns rfl (own_d hby d2_66) hr), hrun, hended, _, _, rfl, ?_, ?_, hE.1, hE.2.1, hE.2.2.1, hE.2.2.2.mono (by first | decide | omega) (by first | decide | omega)⟩
    · show Q_own_draw Z p1 z h0 n0 _ T32.heap _
      rw [e32]
      exact ⟨x, rfl, N32, KK3, s0_x, Eq32⟩
    · rw [hh]
      show CHr Z EL s.vm h0 T32.vm T32.heap
      rw [e32]
      exact CE
  · skip
    have cz : Steps p.tables e below S0' (s₁.setTop (mkF m 8 #[.val (.int p1), .val (.int (1 : Int32)), .unset] [(.int (1 : Int32))])) := by
      have := cc21
      rw [hl] at this
      exact this
    obtain ⟨T22, h22, k22, X22, e22, E22, A22, st22⟩ := newP X0 hx hZ (aty := .char) w_4 e0 (g := (mkF m 8 #[.val (.int p1), .val (.int (1 : Int32)), .unset] [(.int (1 : Int32))])) rfl (own_d hby d2_8) rfl (by decide) (cap := 1) (by decide) (by decide) (by decide) (by decide)
    obtain ⟨b, g_b⟩ : ∃ z, z = h0.size := ⟨_, rfl⟩
    rw [← g_b] at A22 st22
    have K22 := (Keep.refl h0 ([] : List Addr)).ext E22
    have b_b : h0.size ≤ b := (Nat.le_of_eq g_b.symm)
    have gn_b : n0 ≤ b := Nat.le_trans Z0 b_b
    have s0_b : h0.size ≤ b := Nat.le_trans KK0.1 b_b
    have D23 := CHr.ext E22 C0.1
    have C24 := C0.trans D23
    have sf_b : Safe Z EL s.vm h22 b := Safe.ext E22 C0.1 (Safe.new b_b)
    have KK1 : Keep h0 h22 ([] : List Addr) := KK0.trans K22 all0
    have Zs1 : n0 ≤ h22.size := Nat.le_trans Z0 K22.1
    have V_b : Arv Z h22 b k22 .char (1 : Int32) [(.int (0 : Int32))] (.int (0 : Int32)) := (Arv.new A22 (by decide)).pad (pad_rep [] (.int (0 : Int32)) 1)
    have cc25 : Steps p.tables e below S0' (T22.setTop (mkF m 23 #[.val (.int p1), .val (.int (1 : Int32)), .val (.ref b)] [(.int ((p1 &&& (255 : Int32)).toUInt32.toUInt16.toUInt32.toInt32)), (.int 0), (.ref b)])) := Steps.trans (cz.trans (st22 _ (Steps.refl _))) (by
      refine XS.astoreN X22.here hx rfl (own_d hby d2_10) rfl rfl rfl ?_
      refine XS.iloadN X22.here hx rfl (own_d hby d2_11) rfl ?_
      refine XS.ifNo X22.here hx rfl (own_d hby d2_12) rfl (i0_le_f (by decide)) ?_
      refine XS.aloadN X22.here hx rfl (own_d hby d2_15) rfl rfl ?_
      refine iconstV X22.here hx rfl 0 (own_d hby d2_16) (by decide) ?_
      refine XS.iloadN X22.here hx rfl (own_d hby d2_17) rfl ?_
      refine sipushV X22.here hx rfl 255 (own_d hby d2_18) (by decide) ?_
      refine XS.iand X22.here hx rfl (own_d hby d2_21) rfl ?_
      refine XT.i2c X22.here hx rfl (own_d hby d2_22) rfl ?_
      exact Steps.refl _)
    obtain ⟨clu26, Aru26, qu26, Su26, Ngu26, Hsu26, Gsu26⟩ := V_b
    have inu26 : ¬ ((0 : Int32) < 0 ∨ clu26.slots.size ≤ (0 : Int32).toNatClampNeg) := inb_of Su26 ⟨by decide, by decide⟩
    obtain ⟨T27, h27, X27, e27, W27, st27⟩ := stC X22 hx hZ e22 Aru26 (j := (0 : Int32)) inu26 (g := (mkF m 23 #[.val (.int p1), .val (.int (1 : Int32)), .val (.ref b)] [(.int ((p1 &&& (255 : Int32)).toUInt32.toUInt16.toUInt32.toInt32)), (.int 0), (.ref b)])) rfl rfl (own_d hby d2_23)
    have K27 := Keep.of_wr W27
    have N27 := Fr.snoc X27 N0 gn_b
    have D28 := CHr.wr W27 sf_b C24.1
    have C29 := C24.trans D28
    have KK2 : Keep h0 h27 ([] : List Addr) := KK1.trans K27 (allS (Or.inr s0_b) all0)
    have Zs2 : n0 ≤ h27.size := Nat.le_trans Zs1 K27.1
    have V27 : Arv Z h27 b k22 .char (1 : Int32) ([(.int (nar .char ((p1 &&& (255 : Int32)).toUInt32.toUInt16.toUInt32.toInt32)))]) (.int (0 : Int32)) := Arv.set Aru26 qu26 Su26 Ngu26 Hsu26 Gsu26 (fits_nar_char _) W27 0 rfl (Nat.le_of_ble_eq_true rfl)
    have cc30 : Steps p.tables e below S0' (T27.setTop (mkF m 58 #[.val (.int p1), .val (.int (1 : Int32)), .val (.ref b)] [])) := Steps.trans (cc25.trans (st27 _ (Steps.refl _))) (by
      refine XS.iloadN X27.here hx rfl (own_d hby d2_24) rfl ?_
      refine iconstV X27.here hx rfl 1 (own_d hby d2_25) (by decide) ?_
      refine XS.icmpYes X27.here hx rfl (pc0 := 26) rfl (own_d hby d2_26) rfl (ii_le_t (by decide)) (by decide) rfl ?_
      refine XS.iloadN X27.here hx rfl (own_d hby d2_41) rfl ?_
      refine iconstV X27.here hx rfl 2 (own_d hby d2_42) (by decide) ?_
      refine XS.icmpYes X27.here hx rfl (pc0 := 43) rfl (own_d hby d2_43) rfl (ii_le_t (by decide)) (by decide) rfl ?_
      exact Steps.refl _)
    obtain ⟨T31, h31, X31, e31, E31, A31, D31, -, st31⟩ := newO X27 hx hZ hown w_5 w_6 w_7 e27 (g := (mkF m 58 #[.val (.int p1), .val (.int (1 : Int32)), .val (.ref b)] [])) rfl (own_d hby d2_58) (by decide) (by decide)
    obtain ⟨x, g_x⟩ : ∃ z, z = h27.size := ⟨_, rfl⟩
    rw [← g_x] at A31 D31 st31
    have K31 := (Keep.refl h27 ([] : List Addr)).ext E31
    have b_x : h27.size ≤ x := (Nat.le_of_eq g_x.symm)
    have gn_x : n0 ≤ x := Nat.le_trans Zs2 b_x
    have s0_x : h0.size ≤ x := Nat.le_trans KK2.1 b_x
    have ne_b_x : b ≠ x := Nat.ne_of_lt (Nat.lt_of_lt_of_le V27.lt b_x)
    have D32 := CHr.ext E31 C29.1
    have C33 := C29.trans D32
    have sf_x : Safe Z EL s.vm h31 x := Safe.ext E31 C29.1 (Safe.new b_x)
    have KK3 : Keep h0 h31 ([] : List Addr) := KK2.trans K31 all0
    have Zs3 : n0 ≤ h31.size := Nat.le_trans Zs2 K31.1
    have F_value_x : Fld Z h31 x "java/lang/String" "value" "[B" .null := D31 (Or.inr w_20) (ty := (.array .byte)) (by decide)
    have F_coder_x : Fld Z h31 x "java/lang/String" "coder" "B" (.int (0 : Int32)) := D31 (Or.inr w_21) (ty := .byte) (by decide)
    have cc35 : Steps p.tables e below S0' (T31.setTop (mkF m 63 #[.val (.int p1), .val (.int (1 : Int32)), .val (.ref b)] [(.ref b), (.ref x), (.ref x)])) := Steps.trans (cc30.trans (st31 _ (Steps.refl _))) (by
      refine XS.dup X31.here hx rfl (own_d hby d2_61) rfl rfl ?_
      refine XS.aloadN X31.here hx rfl (own_d hby d2_62) rfl rfl ?_
      exact Steps.refl _)
    have fa34 : Arv Z h31 b k22 .char (1 : Int32) ([(.int (nar .char ((p1 &&& (255 : Int32)).toUInt32.toUInt16.toUInt32.toInt32)))]) (.int (0 : Int32)) := (V27.keep K31 nin0)
    have fa36 : Old Z n0 h31 := (((X00.keep K22 all0).keep K27 (allS gn_b all0)).keep K31 all0)
    have hp : ∀ c ∈ ([nar .char ((p1 &&& (255 : Int32)).toUInt32.toUInt16.toUInt32.toInt32)] : List Int32), ¬ c < 0 ∧ ¬ (255 : Int32) < c := by
      intro c hc
      simp only [List.mem_cons, List.not_mem_nil, or_false] at hc
      rcases hc with rfl <;> exact own_and255 _
    obtain ⟨_, _, ⟨T37, L37, k37, n37⟩, -, X37, ⟨Lc37, hQ37, l37, y37, z37⟩, st37⟩ := X31.specialBack hx (y := (⟨"java/lang/String", "<init>", "([C)V"⟩ : MethodName)) rfl hown (mvT hZ w_8) (mvT hZ w_9) (mvT hZ w_10) (by decide) (StrChars.Road.backV (W := 1) hZ hws (kI := 4) w_6 (cs := ([nar .char ((p1 &&& (255 : Int32)).toUInt32.toUInt16.toUInt32.toInt32)] : List Int32)) (bs := (([nar .char ((p1 &&& (255 : Int32)).toUInt32.toUInt16.toUInt32.toInt32)] : List Int32)).map (fun c => c.toInt8.toInt32)) (n := 1) gn_x Zs3 A31 F_value_x F_coder_x fa34 (O2.ext fa36.2) P5 rfl rfl (by decide) (by decide) hp rfl (by decide) (by decide)) (g := (mkF m 63 #[.val (.int p1), .val (.int (1 : Int32)), .val (.ref b)] [(.ref b), (.ref x), (.ref x)])) rfl (by rw [hml]; rfl) (Steps.refl _) (a := x) (argsL := [(.ref b)]) (rest := [(.ref x)]) (lenOf own_pd1 rfl) rfl (by show 2 * 0 + _ ≤ _; exact Nat.le_of_eq rfl) (own_d hby d2_63) (fun _ _ => ⟨rfl, e31, Nat.le_of_ble_eq_true rfl, Nat.le_of_ble_eq_true rfl⟩)
    dsimp only [Pt.U, Pt.locs, Pt.cells, Pt.slots] at X37 l37 y37 z37 st37 hQ37
    subst l37 y37 z37
    obtain ⟨rfl, Nq37, Kq37, Eq37, Cq37, t, kb, q137, q237, q337, Vq37, Aq37⟩ := hQ37
    have N37 := Fr.app N27 Nq37
    have D38 := CHr.keep Kq37 (sfS sf_x sf0) C33.1
    have C39 := C33.trans D38
    have KK4 : Keep h0 T37.heap ([] : List Addr) := KK3.trans Kq37 (allS (Or.inr s0_x) all0)
    have Zs4 : n0 ≤ T37.heap.size := Nat.le_trans Zs3 Kq37.1
    have e37 : T37.heap = T37.heap := rfl
    have cc40 : Steps p.tables e below S0' (T37.setTop (mkF m 66 #[.val (.int p1), .val (.int (1 : Int32)), .val (.ref b)] [(.ref x)])) := (Steps.trans cc35 st37)
    have cE := cc40
    rw [hS0'] at cE
    obtain ⟨fs, hr, hrun, hended, hE⟩ := X37.leaveW hS0 (by rw [e37]; exact (Nat.le_trans (Nat.le_trans (Nat.le_trans (Nat.le_trans hk0 K22.1) K27.1) K31.1) Kq37.1)) (v := some (.ref x)) (fun h => by rw [Bd.returns] at h; cases h)
    have CE := C39.trans (CHv.at X37 hZ hEL C39.1)
    refine ⟨_, _, cE.trans (X37.areturnOut hx (rfl) Bd.returns rfl (own_d hby d2_66) hr), hrun, hended, _, _, rfl, ?_, ?_, hE.1, hE.2.1, hE.2.2.1, hE.2.2.2.mono (by first | decide | omega) (by first | decide | omega)⟩
    · show Q_own_draw Z p1 z h0 n0 _ T37.heap _
      rw [e37]
      exact ⟨x, rfl, N37, KK4, s0_x, Eq37⟩
    · rw [hh]
      show CHr Z EL s.vm h0 T37.vm T37.heap
      rw [e37]
      exact CE
  · skip
    have cz : Steps p.tables e below S0' (s₁.setTop (mkF m 8 #[.val (.int p1), .val (.int (2 : Int32)), .unset] [(.int (2 : Int32))])) := by
      have := cc21
      rw [hl] at this
      exact this
    obtain ⟨T22, h22, k22, X22, e22, E22, A22, st22⟩ := newP X0 hx hZ (aty := .char) w_4 e0 (g := (mkF m 8 #[.val (.int p1), .val (.int (2 : Int32)), .unset] [(.int (2 : Int32))])) rfl (own_d hby d2_8) rfl (by decide) (cap := 2) (by decide) (by decide) (by decide) (by decide)
    obtain ⟨b, g_b⟩ : ∃ z, z = h0.size := ⟨_, rfl⟩
    rw [← g_b] at A22 st22
    have K22 := (Keep.refl h0 ([] : List Addr)).ext E22
    have b_b : h0.size ≤ b := (Nat.le_of_eq g_b.symm)
    have gn_b : n0 ≤ b := Nat.le_trans Z0 b_b
    have s0_b : h0.size ≤ b := Nat.le_trans KK0.1 b_b
    have D23 := CHr.ext E22 C0.1
    have C24 := C0.trans D23
    have sf_b : Safe Z EL s.vm h22 b := Safe.ext E22 C0.1 (Safe.new b_b)
    have KK1 : Keep h0 h22 ([] : List Addr) := KK0.trans K22 all0
    have Zs1 : n0 ≤ h22.size := Nat.le_trans Z0 K22.1
    have V_b : Arv Z h22 b k22 .char (2 : Int32) [(.int (0 : Int32)), (.int (0 : Int32))] (.int (0 : Int32)) := (Arv.new A22 (by decide)).pad (pad_rep [] (.int (0 : Int32)) 2)
    have cc25 : Steps p.tables e below S0' (T22.setTop (mkF m 23 #[.val (.int p1), .val (.int (2 : Int32)), .val (.ref b)] [(.int ((p1 &&& (255 : Int32)).toUInt32.toUInt16.toUInt32.toInt32)), (.int 0), (.ref b)])) := Steps.trans (cz.trans (st22 _ (Steps.refl _))) (by
      refine XS.astoreN X22.here hx rfl (own_d hby d2_10) rfl rfl rfl ?_
      refine XS.iloadN X22.here hx rfl (own_d hby d2_11) rfl ?_
      refine XS.ifNo X22.here hx rfl (own_d hby d2_12) rfl (i0_le_f (by decide)) ?_
      refine XS.aloadN X22.here hx rfl (own_d hby d2_15) rfl rfl ?_
      refine iconstV X22.here hx rfl 0 (own_d hby d2_16) (by decide) ?_
      refine XS.iloadN X22.here hx rfl (own_d hby d2_17) rfl ?_
      refine sipushV X22.here hx rfl 255 (own_d hby d2_18) (by decide) ?_
      refine XS.iand X22.here hx rfl (own_d hby d2_21) rfl ?_
      refine XT.i2c X22.here hx rfl (own_d hby d2_22) rfl ?_
      exact Steps.refl _)
    obtain ⟨clu26, Aru26, qu26, Su26, Ngu26, Hsu26, Gsu26⟩ := V_b
    have inu26 : ¬ ((0 : Int32) < 0 ∨ clu26.slots.size ≤ (0 : Int32).toNatClampNeg) := inb_of Su26 ⟨by decide, by decide⟩
    obtain ⟨T27, h27, X27, e27, W27, st27⟩ := stC X22 hx hZ e22 Aru26 (j := (0 : Int32)) inu26 (g := (mkF m 23 #[.val (.int p1), .val (.int (2 : Int32)), .val (.ref b)] [(.int ((p1 &&& (255 : Int32)).toUInt32.toUInt16.toUInt32.toInt32)), (.int 0), (.ref b)])) rfl rfl (own_d hby d2_23)
    have K27 := Keep.of_wr W27
    have N27 := Fr.snoc X27 N0 gn_b
    have D28 := CHr.wr W27 sf_b C24.1
    have C29 := C24.trans D28
    have KK2 : Keep h0 h27 ([] : List Addr) := KK1.trans K27 (allS (Or.inr s0_b) all0)
    have Zs2 : n0 ≤ h27.size := Nat.le_trans Zs1 K27.1
    have V27 : Arv Z h27 b k22 .char (2 : Int32) ([(.int (nar .char ((p1 &&& (255 : Int32)).toUInt32.toUInt16.toUInt32.toInt32))), (.int (0 : Int32))]) (.int (0 : Int32)) := Arv.set Aru26 qu26 Su26 Ngu26 Hsu26 Gsu26 (fits_nar_char _) W27 0 rfl (Nat.le_of_ble_eq_true rfl)
    have sf30 := D28.safe A22.lt sf_b
    have lt31 := Nat.lt_of_lt_of_le A22.lt K27.1
    have cc32 : Steps p.tables e below S0' (T27.setTop (mkF m 40 #[.val (.int p1), .val (.int (2 : Int32)), .val (.ref b)] [(.int (((XT.ushr p1 (8 : Int32)) &&& (255 : Int32)).toUInt32.toUInt16.toUInt32.toInt32)), (.int 1), (.ref b)])) := Steps.trans (cc25.trans (st27 _ (Steps.refl _))) (by
      refine XS.iloadN X27.here hx rfl (own_d hby d2_24) rfl ?_
      refine iconstV X27.here hx rfl 1 (own_d hby d2_25) (by decide) ?_
      refine XS.icmpNo X27.here hx rfl (own_d hby d2_26) rfl (ii_le_f (by decide)) ?_
      refine XS.aloadN X27.here hx rfl (own_d hby d2_29) rfl rfl ?_
      refine iconstV X27.here hx rfl 1 (own_d hby d2_30) (by decide) ?_
      refine XS.iloadN X27.here hx rfl (own_d hby d2_31) rfl ?_
      refine bipushV X27.here hx rfl 8 (own_d hby d2_32) (by decide) ?_
      refine XT.iushr X27.here hx rfl (own_d hby d2_34) rfl ?_
      refine sipushV X27.here hx rfl 255 (own_d hby d2_35) (by decide) ?_
      refine XS.iand X27.here hx rfl (own_d hby d2_38) rfl ?_
      refine XT.i2c X27.here hx rfl (own_d hby d2_39) rfl ?_
      exact Steps.refl _)
    obtain ⟨clu33, Aru33, qu33, Su33, Ngu33, Hsu33, Gsu33⟩ := V27
    have inu33 : ¬ ((1 : Int32) < 0 ∨ clu33.slots.size ≤ (1 : Int32).toNatClampNeg) := inb_of Su33 ⟨by decide, by decide⟩
    obtain ⟨T34, h34, X34, e34, W34, st34⟩ := stC X27 hx hZ e27 Aru33 (j := (1 : Int32)) inu33 (g := (mkF m 40 #[.val (.int p1), .val (.int (2 : Int32)), .val (.ref b)] [(.int (((XT.ushr p1 (8 : Int32)) &&& (255 : Int32)).toUInt32.toUInt16.toUInt32.toInt32)), (.int 1), (.ref b)])) rfl rfl (own_d hby d2_40)
    have K34 := Keep.of_wr W34
    have N34 := Fr.snoc X34 N27 gn_b
    have D35 := CHr.wr W34 sf30 C29.1
    have C36 := C29.trans D35
    have KK3 : Keep h0 h34 ([] : List Addr) := KK2.trans K34 (allS (Or.inr s0_b) all0)
    have Zs3 : n0 ≤ h34.size := Nat.le_trans Zs2 K34.1
    have V34 : Arv Z h34 b k22 .char (2 : Int32) ([(.int (nar .char ((p1 &&& (255 : Int32)).toUInt32.toUInt16.toUInt32.toInt32))), (.int (nar .char (((XT.ushr p1 (8 : Int32)) &&& (255 : Int32)).toUInt32.toUInt16.toUInt32.toInt32)))]) (.int (0 : Int32)) := Arv.set Aru33 qu33 Su33 Ngu33 Hsu33 Gsu33 (fits_nar_char _) W34 1 rfl (Nat.le_of_ble_eq_true rfl)
    have cc37 : Steps p.tables e below S0' (T34.setTop (mkF m 58 #[.val (.int p1), .val (.int (2 : Int32)), .val (.ref b)] [])) := Steps.trans (cc32.trans (st34 _ (Steps.refl _))) (by
      refine XS.iloadN X34.here hx rfl (own_d hby d2_41) rfl ?_
      refine iconstV X34.here hx rfl 2 (own_d hby d2_42) (by decide) ?_
      refine XS.icmpYes X34.here hx rfl (pc0 := 43) rfl (own_d hby d2_43) rfl (ii_le_t (by decide)) (by decide) rfl ?_
      exact Steps.refl _)
    obtain ⟨T38, h38, X38, e38, E38, A38, D38, -, st38⟩ := newO X34 hx hZ hown w_5 w_6 w_7 e34 (g := (mkF m 58 #[.val (.int p1), .val (.int (2 : Int32)), .val (.ref b)] [])) rfl (own_d hby d2_58) (by decide) (by decide)
    obtain ⟨x, g_x⟩ : ∃ z, z = h34.size := ⟨_, rfl⟩
    rw [← g_x] at A38 D38 st38
    have K38 := (Keep.refl h34 ([] : List Addr)).ext E38
    have b_x : h34.size ≤ x := (Nat.le_of_eq g_x.symm)
    have gn_x : n0 ≤ x := Nat.le_trans Zs3 b_x
    have s0_x : h0.size ≤ x := Nat.le_trans KK3.1 b_x
    have ne_b_x : b ≠ x := Nat.ne_of_lt (Nat.lt_of_lt_of_le V34.lt b_x)
    have D39 := CHr.ext E38 C36.1
    have C40 := C36.trans D39
    have sf_x : Safe Z EL s.vm h38 x := Safe.ext E38 C36.1 (Safe.new b_x)
    have KK4 : Keep h0 h38 ([] : List Addr) := KK3.trans K38 all0
    have Zs4 : n0 ≤ h38.size := Nat.le_trans Zs3 K38.1
    have F_value_x : Fld Z h38 x "java/lang/String" "value" "[B" .null := D38 (Or.inr w_20) (ty := (.array .byte)) (by decide)
    have F_coder_x : Fld Z h38 x "java/lang/String" "coder" "B" (.int (0 : Int32)) := D38 (Or.inr w_21) (ty := .byte) (by decide)
    have cc42 : Steps p.tables e below S0' (T38.setTop (mkF m 63 #[.val (.int p1), .val (.int (2 : Int32)), .val (.ref b)] [(.ref b), (.ref x), (.ref x)])) := Steps.trans (cc37.trans (st38 _ (Steps.refl _))) (by
      refine XS.dup X38.here hx rfl (own_d hby d2_61) rfl rfl ?_
      refine XS.aloadN X38.here hx rfl (own_d hby d2_62) rfl rfl ?_
      exact Steps.refl _)
    have fa41 : Arv Z h38 b k22 .char (2 : Int32) ([(.int (nar .char ((p1 &&& (255 : Int32)).toUInt32.toUInt16.toUInt32.toInt32))), (.int (nar .char (((XT.ushr p1 (8 : Int32)) &&& (255 : Int32)).toUInt32.toUInt16.toUInt32.toInt32)))]) (.int (0 : Int32)) := (V34.keep K38 nin0)
    have fa43 : Old Z n0 h38 := ((((X00.keep K22 all0).keep K27 (allS gn_b all0)).keep K34 (allS gn_b all0)).keep K38 all0)
    have hp : ∀ c ∈ ([nar .char ((p1 &&& (255 : Int32)).toUInt32.toUInt16.toUInt32.toInt32), nar .char (((XT.ushr p1 (8 : Int32)) &&& (255 : Int32)).toUInt32.toUInt16.toUInt32.toInt32)] : List Int32), ¬ c < 0 ∧ ¬ (255 : Int32) < c := by
      intro c hc
      simp only [List.mem_cons, List.not_mem_nil, or_false] at hc
      rcases hc with rfl | rfl <;> exact own_and255 _
    obtain ⟨_, _, ⟨T44, L44, k44, n44⟩, -, X44, ⟨Lc44, hQ44, l44, y44, z44⟩, st44⟩ := X38.specialBack hx (y := (⟨"java/lang/String", "<init>", "([C)V"⟩ : MethodName)) rfl hown (mvT hZ w_8) (mvT hZ w_9) (mvT hZ w_10) (by decide) (StrChars.Road.backV (W := 1) hZ hws (kI := 4) w_6 (cs := ([nar .char ((p1 &&& (255 : Int32)).toUInt32.toUInt16.toUInt32.toInt32), nar .char (((XT.ushr p1 (8 : Int32)) &&& (255 : Int32)).toUInt32.toUInt16.toUInt32.toInt32)] : List Int32)) (bs := (([nar .char ((p1 &&& (255 : Int32)).toUInt32.toUInt16.toUInt32.toInt32), nar .char (((XT.ushr p1 (8 : Int32)) &&& (255 : Int32)).toUInt32.toUInt16.toUInt32.toInt32)] : List Int32)).map (fun c => c.toInt8.toInt32)) (n := 2) gn_x Zs4 A38 F_value_x F_coder_x fa41 (O2.ext fa43.2) P5 rfl rfl (by decide) (by decide) hp rfl (by decide) (by decide)) (g := (mkF m 63 #[.val (.int p1), .val (.int (2 : Int32)), .val (.ref b)] [(.ref b), (.ref x), (.ref x)])) rfl (by rw [hml]; rfl) (Steps.refl _) (a := x) (argsL := [(.ref b)]) (rest := [(.ref x)]) (lenOf own_pd1 rfl) rfl (by show 2 * 0 + _ ≤ _; exact Nat.le_of_eq rfl) (own_d hby d2_63) (fun _ _ => ⟨rfl, e38, Nat.le_of_ble_eq_true rfl, Nat.le_of_ble_eq_true rfl⟩)
    dsimp only [Pt.U, Pt.locs, Pt.cells, Pt.slots] at X44 l44 y44 z44 st44 hQ44
    subst l44 y44 z44
    obtain ⟨rfl, Nq44, Kq44, Eq44, Cq44, t, kb, q144, q244, q344, Vq44, Aq44⟩ := hQ44
    have N44 := Fr.app N34 Nq44
    have D45 := CHr.keep Kq44 (sfS sf_x sf0) C40.1
    have C46 := C40.trans D45
    have KK5 : Keep h0 T44.heap ([] : List Addr) := KK4.trans Kq44 (allS (Or.inr s0_x) all0)
    have Zs5 : n0 ≤ T44.heap.size := Nat.le_trans Zs4 Kq44.1
    have e44 : T44.heap = T44.heap := rfl
    have cc47 : Steps p.tables e below S0' (T44.setTop (mkF m 66 #[.val (.int p1), .val (.int (2 : Int32)), .val (.ref b)] [(.ref x)])) := (Steps.trans cc42 st44)
    have cE := cc47
    rw [hS0'] at cE
    obtain ⟨fs, hr, hrun, hended, hE⟩ := X44.leaveW hS0 (by rw [e44]; exact (Nat.le_trans (Nat.le_trans (Nat.le_trans (Nat.le_trans (Nat.le_trans hk0 K22.1) K27.1) K34.1) K38.1) Kq44.1)) (v := some (.ref x)) (fun h => by rw [Bd.returns] at h; cases h)
    have CE := C46.trans (CHv.at X44 hZ hEL C46.1)
    refine ⟨_, _, cE.trans (X44.areturnOut hx (rfl) Bd.returns rfl (own_d hby d2_66) hr), hrun, hended, _, _, rfl, ?_, ?_, hE.1, hE.2.1, hE.2.2.1, hE.2.2.2.mono (by first | decide | omega) (by first | decide | omega)⟩
    · show Q_own_draw Z p1 z h0 n0 _ T44.heap _
      rw [e44]
      exact ⟨x, rfl, N44, KK5, s0_x, Eq44⟩
    · rw [hh]
      show CHr Z EL s.vm h0 T44.vm T44.heap
      rw [e44]
      exact CE
  · skip
    have cz : Steps p.tables e below S0' (s₁.setTop (mkF m 8 #[.val (.int p1), .val (.int (3 : Int32)), .unset] [(.int (3 : Int32))])) := by
      have := cc21
      rw [hl] at this
      exact this
    obtain ⟨T22, h22, k22, X22, e22, E22, A22, st22⟩ := newP X0 hx hZ (aty := .char) w_4 e0 (g := (mkF m 8 #[.val (.int p1), .val (.int (3 : Int32)), .unset] [(.int (3 : Int32))])) rfl (own_d hby d2_8) rfl (by decide) (cap := 3) (by decide) (by decide) (by decide) (by decide)
    obtain ⟨b, g_b⟩ : ∃ z, z = h0.size := ⟨_, rfl⟩
    rw [← g_b] at A22 st22
    have K22 := (Keep.refl h0 ([] : List Addr)).ext E22
    have b_b : h0.size ≤ b := (Nat.le_of_eq g_b.symm)
    have gn_b : n0 ≤ b := Nat.le_trans Z0 b_b
    have s0_b : h0.size ≤ b := Nat.le_trans KK0.1 b_b
    have D23 := CHr.ext E22 C0.1
    have C24 := C0.trans D23
    have sf_b : Safe Z EL s.vm h22 b := Safe.ext E22 C0.1 (Safe.new b_b)
    have KK1 : Keep h0 h22 ([] : List Addr) := KK0.trans K22 all0
    have Zs1 : n0 ≤ h22.size := Nat.le_trans Z0 K22.1
    have V_b : Arv Z h22 b k22 .char (3 : Int32) [(.int (0 : Int32)), (.int (0 : Int32)), (.int (0 : Int32))] (.int (0 : Int32)) := (Arv.new A22 (by decide)).pad (pad_rep [] (.int (0 : Int32)) 3)
    have cc25 : Steps p.tables e below S0' (T22.setTop (mkF m 23 #[.val (.int p1), .val (.int (3 : Int32)), .val (.ref b)] [(.int ((p1 &&& (255 : Int32)).toUInt32.toUInt16.toUInt32.toInt32)), (.int 0), (.ref b)])) := Steps.trans (cz.trans (st22 _ (Steps.refl _))) (by
      refine XS.astoreN X22.here hx rfl (own_d hby d2_10) rfl rfl rfl ?_
      refine XS.iloadN X22.here hx rfl (own_d hby d2_11) rfl ?_
      refine XS.ifNo X22.here hx rfl (own_d hby d2_12) rfl (i0_le_f (by decide)) ?_
      refine XS.aloadN X22.here hx rfl (own_d hby d2_15) rfl rfl ?_
      refine iconstV X22.here hx rfl 0 (own_d hby d2_16) (by decide) ?_
      refine XS.iloadN X22.here hx rfl (own_d hby d2_17) rfl ?_
      refine sipushV X22.here hx rfl 255 (own_d hby d2_18) (by decide) ?_
      refine XS.iand X22.here hx rfl (own_d hby d2_21) rfl ?_
      refine XT.i2c X22.here hx rfl (own_d hby d2_22) rfl ?_
      exact Steps.refl _)
    obtain ⟨clu26, Aru26, qu26, Su26, Ngu26, Hsu26, Gsu26⟩ := V_b
    have inu26 : ¬ ((0 : Int32) < 0 ∨ clu26.slots.size ≤ (0 : Int32).toNatClampNeg) := inb_of Su26 ⟨by decide, by decide⟩
    obtain ⟨T27, h27, X27, e27, W27, st27⟩ := stC X22 hx hZ e22 Aru26 (j := (0 : Int32)) inu26 (g := (mkF m 23 #[.val (.int p1), .val (.int (3 : Int32)), .val (.ref b)] [(.int ((p1 &&& (255 : Int32)).toUInt32.toUInt16.toUInt32.toInt32)), (.int 0), (.ref b)])) rfl rfl (own_d hby d2_23)
    have K27 := Keep.of_wr W27
    have N27 := Fr.snoc X27 N0 gn_b
    have D28 := CHr.wr W27 sf_b C24.1
    have C29 := C24.trans D28
    have KK2 : Keep h0 h27 ([] : List Addr) := KK1.trans K27 (allS (Or.inr s0_b) all0)
    have Zs2 : n0 ≤ h27.size := Nat.le_trans Zs1 K27.1
    have V27 : Arv Z h27 b k22 .char (3 : Int32) ([(.int (nar .char ((p1 &&& (255 : Int32)).toUInt32.toUInt16.toUInt32.toInt32))), (.int (0 : Int32)), (.int (0 : Int32))]) (.int (0 : Int32)) := Arv.set Aru26 qu26 Su26 Ngu26 Hsu26 Gsu26 (fits_nar_char _) W27 0 rfl (Nat.le_of_ble_eq_true rfl)
    have sf30 := D28.safe A22.lt sf_b
    have lt31 := Nat.lt_of_lt_of_le A22.lt K27.1
    have cc32 : Steps p.tables e below S0' (T27.setTop (mkF m 40 #[.val (.int p1), .val (.int (3 : Int32)), .val (.ref b)] [(.int (((XT.ushr p1 (8 : Int32)) &&& (255 : Int32)).toUInt32.toUInt16.toUInt32.toInt32)), (.int 1), (.ref b)])) := Steps.trans (cc25.trans (st27 _ (Steps.refl _))) (by
      refine XS.iloadN X27.here hx rfl (own_d hby d2_24) rfl ?_
      refine iconstV X27.here hx rfl 1 (own_d hby d2_25) (by decide) ?_
      refine XS.icmpNo X27.here hx rfl (own_d hby d2_26) rfl (ii_le_f (by decide)) ?_
      refine XS.aloadN X27.here hx rfl (own_d hby d2_29) rfl rfl ?_
      refine iconstV X27.here hx rfl 1 (own_d hby d2_30) (by decide) ?_
      refine XS.iloadN X27.here hx rfl (own_d hby d2_31) rfl ?_
      refine bipushV X27.here hx rfl 8 (own_d hby d2_32) (by decide) ?_
      refine XT.iushr X27.here hx rfl (own_d hby d2_34) rfl ?_
      refine sipushV X27.here hx rfl 255 (own_d hby d2_35) (by decide) ?_
      refine XS.iand X27.here hx rfl (own_d hby d2_38) rfl ?_
      refine XT.i2c X27.here hx rfl (own_d hby d2_39) rfl ?_
      exact Steps.refl _)
    obtain ⟨clu33, Aru33, qu33, Su33, Ngu33, Hsu33, Gsu33⟩ := V27
    have inu33 : ¬ ((1 : Int32) < 0 ∨ clu33.slots.size ≤ (1 : Int32).toNatClampNeg) := inb_of Su33 ⟨by decide, by decide⟩
    obtain ⟨T34, h34, X34, e34, W34, st34⟩ := stC X27 hx hZ e27 Aru33 (j := (1 : Int32)) inu33 (g := (mkF m 40 #[.val (.int p1), .val (.int (3 : Int32)), .val (.ref b)] [(.int (((XT.ushr p1 (8 : Int32)) &&& (255 : Int32)).toUInt32.toUInt16.toUInt32.toInt32)), (.int 1), (.ref b)])) rfl rfl (own_d hby d2_40)
    have K34 := Keep.of_wr W34
    have N34 := Fr.snoc X34 N27 gn_b
    have D35 := CHr.wr W34 sf30 C29.1
    have C36 := C29.trans D35
    have KK3 : Keep h0 h34 ([] : List Addr) := KK2.trans K34 (allS (Or.inr s0_b) all0)
    have Zs3 : n0 ≤ h34.size := Nat.le_trans Zs2 K34.1
    have V34 : Arv Z h34 b k22 .char (3 : Int32) ([(.int (nar .char ((p1 &&& (255 : Int32)).toUInt32.toUInt16.toUInt32.toInt32))), (.int (nar .char (((XT.ushr p1 (8 : Int32)) &&& (255 : Int32)).toUInt32.toUInt16.toUInt32.toInt32))), (.int (0 : Int32))]) (.int (0 : Int32)) := Arv.set Aru33 qu33 Su33 Ngu33 Hsu33 Gsu33 (fits_nar_char _) W34 1 rfl (Nat.le_of_ble_eq_true rfl)
    have sf37 := D35.safe lt31 sf30
    have lt38 := Nat.lt_of_lt_of_le lt31 K34.1
    have cc39 : Steps p.tables e below S0' (T34.setTop (mkF m 57 #[.val (.int p1), .val (.int (3 : Int32)), .val (.ref b)] [(.int (((XT.ushr p1 (16 : Int32)) &&& (255 : Int32)).toUInt32.toUInt16.toUInt32.toInt32)), (.int 2), (.ref b)])) := Steps.trans (cc32.trans (st34 _ (Steps.refl _))) (by
      refine XS.iloadN X34.here hx rfl (own_d hby d2_41) rfl ?_
      refine iconstV X34.here hx rfl 2 (own_d hby d2_42) (by decide) ?_
      refine XS.icmpNo X34.here hx rfl (own_d hby d2_43) rfl (ii_le_f (by decide)) ?_
      refine XS.aloadN X34.here hx rfl (own_d hby d2_46) rfl rfl ?_
      refine iconstV X34.here hx rfl 2 (own_d hby d2_47) (by decide) ?_
      refine XS.iloadN X34.here hx rfl (own_d hby d2_48) rfl ?_
      refine bipushV X34.here hx rfl 16 (own_d hby d2_49) (by decide) ?_
      refine XT.iushr X34.here hx rfl (own_d hby d2_51) rfl ?_
      refine sipushV X34.here hx rfl 255 (own_d hby d2_52) (by decide) ?_
      refine XS.iand X34.here hx rfl (own_d hby d2_55) rfl ?_
      refine XT.i2c X34.here hx rfl (own_d hby d2_56) rfl ?_
      exact Steps.refl _)
    obtain ⟨clu40, Aru40, qu40, Su40, Ngu40, Hsu40, Gsu40⟩ := V34
    have inu40 : ¬ ((2 : Int32) < 0 ∨ clu40.slots.size ≤ (2 : Int32).toNatClampNeg) := inb_of Su40 ⟨by decide, by decide⟩
    obtain ⟨T41, h41, X41, e41, W41, st41⟩ := stC X34 hx hZ e34 Aru40 (j := (2 : Int32)) inu40 (g := (mkF m 57 #[.val (.int p1), .val (.int (3 : Int32)), .val (.ref b)] [(.int (((XT.ushr p1 (16 : Int32)) &&& (255 : Int32)).toUInt32.toUInt16.toUInt32.toInt32)), (.int 2), (.ref b)])) rfl rfl (own_d hby d2_57)
    have K41 := Keep.of_wr W41
    have N41 := Fr.snoc X41 N34 gn_b
    have D42 := CHr.wr W41 sf37 C36.1
    have C43 := C36.trans D42
    have KK4 : Keep h0 h41 ([] : List Addr) := KK3.trans K41 (allS (Or.inr s0_b) all0)
    have Zs4 : n0 ≤ h41.size := Nat.le_trans Zs3 K41.1
    have V41 : Arv Z h41 b k22 .char (3 : Int32) ([(.int (nar .char ((p1 &&& (255 : Int32)).toUInt32.toUInt16.toUInt32.toInt32))), (.int (nar .char (((XT.ushr p1 (8 : Int32)) &&& (255 : Int32)).toUInt32.toUInt16.toUInt32.toInt32))), (.int (nar .char (((XT.ushr p1 (16 : Int32)) &&& (255 : Int32)).toUInt32.toUInt16.toUInt32.toInt32)))]) (.int (0 : Int32)) := Arv.set Aru40 qu40 Su40 Ngu40 Hsu40 Gsu40 (fits_nar_char _) W41 2 rfl (Nat.le_of_ble_eq_true rfl)
    have cc44 : Steps p.tables e below S0' (T41.setTop (mkF m 58 #[.val (.int p1), .val (.int (3 : Int32)), .val (.ref b)] [])) := (cc39.trans (st41 _ (Steps.refl _)))
    obtain ⟨T45, h45, X45, e45, E45, A45, D45, -, st45⟩ := newO X41 hx hZ hown w_5 w_6 w_7 e41 (g := (mkF m 58 #[.val (.int p1), .val (.int (3 : Int32)), .val (.ref b)] [])) rfl (own_d hby d2_58) (by decide) (by decide)
    obtain ⟨x, g_x⟩ : ∃ z, z = h41.size := ⟨_, rfl⟩
    rw [← g_x] at A45 D45 st45
    have K45 := (Keep.refl h41 ([] : List Addr)).ext E45
    have b_x : h41.size ≤ x := (Nat.le_of_eq g_x.symm)
    have gn_x : n0 ≤ x := Nat.le_trans Zs4 b_x
    have s0_x : h0.size ≤ x := Nat.le_trans KK4.1 b_x
    have ne_b_x : b ≠ x := Nat.ne_of_lt (Nat.lt_of_lt_of_le V41.lt b_x)
    have D46 := CHr.ext E45 C43.1
    have C47 := C43.trans D46
    have sf_x : Safe Z EL s.vm h45 x := Safe.ext E45 C43.1 (Safe.new b_x)
    have KK5 : Keep h0 h45 ([] : List Addr) := KK4.trans K45 all0
    have Zs5 : n0 ≤ h45.size := Nat.le_trans Zs4 K45.1
    have F_value_x : Fld Z h45 x "java/lang/String" "value" "[B" .null := D45 (Or.inr w_20) (ty := (.array .byte)) (by decide)
    have F_coder_x : Fld Z h45 x "java/lang/String" "coder" "B" (.int (0 : Int32)) := D45 (Or.inr w_21) (ty := .byte) (by decide)
    have cc49 : Steps p.tables e below S0' (T45.setTop (mkF m 63 #[.val (.int p1), .val (.int (3 : Int32)), .val (.ref b)] [(.ref b), (.ref x), (.ref x)])) := Steps.trans (cc44.trans (st45 _ (Steps.refl _))) (by
      refine XS.dup X45.here hx rfl (own_d hby d2_61) rfl rfl ?_
      refine XS.aloadN X45.here hx rfl (own_d hby d2_62) rfl rfl ?_
      exact Steps.refl _)
    have fa48 : Arv Z h45 b k22 .char (3 : Int32) ([(.int (nar .char ((p1 &&& (255 : Int32)).toUInt32.toUInt16.toUInt32.toInt32))), (.int (nar .char (((XT.ushr p1 (8 : Int32)) &&& (255 : Int32)).toUInt32.toUInt16.toUInt32.toInt32))), (.int (nar .char (((XT.ushr p1 (16 : Int32)) &&& (255 : Int32)).toUInt32.toUInt16.toUInt32.toInt32)))]) (.int (0 : Int32)) := (V41.keep K45 nin0)
    have fa50 : Old Z n0 h45 := (((((X00.keep K22 all0).keep K27 (allS gn_b all0)).keep K34 (allS gn_b all0)).keep K41 (allS gn_b all0)).keep K45 all0)
    have hp : ∀ c ∈ ([nar .char ((p1 &&& (255 : Int32)).toUInt32.toUInt16.toUInt32.toInt32), nar .char (((XT.ushr p1 (8 : Int32)) &&& (255 : Int32)).toUInt32.toUInt16.toUInt32.toInt32), nar .char (((XT.ushr p1 (16 : Int32)) &&& (255 : Int32)).toUInt32.toUInt16.toUInt32.toInt32)] : List Int32), ¬ c < 0 ∧ ¬ (255 : Int32) < c := by
      intro c hc
      simp only [List.mem_cons, List.not_mem_nil, or_false] at hc
      rcases hc with rfl | rfl | rfl <;> exact own_and255 _
    obtain ⟨_, _, ⟨T51, L51, k51, n51⟩, -, X51, ⟨Lc51, hQ51, l51, y51, z51⟩, st51⟩ := X45.specialBack hx (y := (⟨"java/lang/String", "<init>", "([C)V"⟩ : MethodName)) rfl hown (mvT hZ w_8) (mvT hZ w_9) (mvT hZ w_10) (by decide) (StrChars.Road.backV (W := 1) hZ hws (kI := 4) w_6 (cs := ([nar .char ((p1 &&& (255 : Int32)).toUInt32.toUInt16.toUInt32.toInt32), nar .char (((XT.ushr p1 (8 : Int32)) &&& (255 : Int32)).toUInt32.toUInt16.toUInt32.toInt32), nar .char (((XT.ushr p1 (16 : Int32)) &&& (255 : Int32)).toUInt32.toUInt16.toUInt32.toInt32)] : List Int32)) (bs := (([nar .char ((p1 &&& (255 : Int32)).toUInt32.toUInt16.toUInt32.toInt32), nar .char (((XT.ushr p1 (8 : Int32)) &&& (255 : Int32)).toUInt32.toUInt16.toUInt32.toInt32), nar .char (((XT.ushr p1 (16 : Int32)) &&& (255 : Int32)).toUInt32.toUInt16.toUInt32.toInt32)] : List Int32)).map (fun c => c.toInt8.toInt32)) (n := 3) gn_x Zs5 A45 F_value_x F_coder_x fa48 (O2.ext fa50.2) P5 rfl rfl (by decide) (by decide) hp rfl (by decide) (by decide)) (g := (mkF m 63 #[.val (.int p1), .val (.int (3 : Int32)), .val (.ref b)] [(.ref b), (.ref x), (.ref x)])) rfl (by rw [hml]; rfl) (Steps.refl _) (a := x) (argsL := [(.ref b)]) (rest := [(.ref x)]) (lenOf own_pd1 rfl) rfl (by show 2 * 0 + _ ≤ _; exact Nat.le_of_eq rfl) (own_d hby d2_63) (fun _ _ => ⟨rfl, e45, Nat.le_of_ble_eq_true rfl, Nat.le_of_ble_eq_true rfl⟩)
    dsimp only [Pt.U, Pt.locs, Pt.cells, Pt.slots] at X51 l51 y51 z51 st51 hQ51
    subst l51 y51 z51
    obtain ⟨rfl, Nq51, Kq51, Eq51, Cq51, t, kb, q151, q251, q351, Vq51, Aq51⟩ := hQ51
    have N51 := Fr.app N41 Nq51
    have D52 := CHr.keep Kq51 (sfS sf_x sf0) C47.1
    have C53 := C47.trans D52
    have KK6 : Keep h0 T51.heap ([] : List Addr) := KK5.trans Kq51 (allS (Or.inr s0_x) all0)
    have Zs6 : n0 ≤ T51.heap.size := Nat.le_trans Zs5 Kq51.1
    have e51 : T51.heap = T51.heap := rfl
    have cc54 : Steps p.tables e below S0' (T51.setTop (mkF m 66 #[.val (.int p1), .val (.int (3 : Int32)), .val (.ref b)] [(.ref x)])) := (Steps.trans cc49 st51)
    have cE := cc54
    rw [hS0'] at cE
    obtain ⟨fs, hr, hrun, hended, hE⟩ := X51.leaveW hS0 (by rw [e51]; exact (Nat.le_trans (Nat.le_trans (Nat.le_trans (Nat.le_trans (Nat.le_trans (Nat.le_trans hk0 K22.1) K27.1) K34.1) K41.1) K45.1) Kq51.1)) (v := some (.ref x)) (fun h => by rw [Bd.returns] at h; cases h)
    have CE := C53.trans (CHv.at X51 hZ hEL C53.1)
    refine ⟨_, _, cE.trans (X51.areturnOut hx (rfl) Bd.returns rfl (own_d hby d2_66) hr), hrun, hended, _, _, rfl, ?_, ?_, hE.1, hE.2.1, hE.2.2.1, hE.2.2.2.mono (by first | decide | omega) (by first | decide | omega)⟩
    · show Q_own_draw Z p1 z h0 n0 _ T51.heap _
      rw [e51]
      exact ⟨x, rfl, N51, KK6, s0_x, Eq51⟩
    · rw [hh]
      show CHr Z EL s.vm h0 T51.vm T51.heap
      rw [e51]
      exact CE
theorem d3_0 : decode prog_14_method_1_code 0 = .ok (.aload_n 0, 1) := by decide +kernel
theorem d3_1 : decode prog_14_method_1_code 1 = .ok (.invokespecial 1, 3) := by decide +kernel
theorem d3_4 : decode prog_14_method_1_code 4 = .ok (.aload_n 0, 1) := by decide +kernel
theorem d3_5 : decode prog_14_method_1_code 5 = .ok (.ldc2_w 7, 3) := by decide +kernel
theorem d3_8 : decode prog_14_method_1_code 8 = .ok (.putfield 9, 3) := by decide +kernel
theorem d3_11 : decode prog_14_method_1_code 11 = .ok (.return_, 1) := by decide +kernel
def Q_own_oinit (Z : State) (o : Addr) (h0 : Heap) (n0 : Nat) (v : Option Value) (h : Heap) (L : List Loc) : Prop := v = none ∧ Fr n0 L ∧ Keep h0 h [o] ∧ Fld Z h o "com/example/garmr/garmr/redis/GarmrOptions" "defaultLeaseMillis" "J" (.long (30000 : Int64)) ∧ Fld Z h o "com/example/garmr/garmr/redis/GarmrOptions" "redisUri" "Ljava/lang/String;" .null ∧ Fld Z h o "com/example/garmr/garmr/redis/GarmrOptions" "interruptOnLost" "Z" (.int (0 : Int32))
set_option maxRecDepth 65536 in
set_option maxHeartbeats 40000000 in
theorem own_oinit (l : Launch) (Z : State) (a0 : Array Value) (hw : ∀ d ∈ tables_1, d.before a0 Z = true) (o : Addr) (h0 : Heap) (n0 : Nat) (Z0 : n0 ≤ h0.size) (E : Exa Z h0 o "com/example/garmr/garmr/redis/GarmrOptions") (F1 : Fld Z h0 o "com/example/garmr/garmr/redis/GarmrOptions" "defaultLeaseMillis" "J" (.long (0 : Int64))) (F2 : Fld Z h0 o "com/example/garmr/garmr/redis/GarmrOptions" "redisUri" "Ljava/lang/String;" .null) (F3 : Fld Z h0 o "com/example/garmr/garmr/redis/GarmrOptions" "interruptOnLost" "Z" (.int (0 : Int32))) (go : n0 ≤ o) :
    MetFree l (⟨"com/example/garmr/garmr/redis/GarmrOptions", "<init>", "()V"⟩ : MethodName) (head1 [Jvm.Cond.code (⟨"com/example/garmr/garmr/redis/GarmrOptions", "<init>", "()V"⟩ : MethodName) prog_14_method_1_code 1 none] ({ frames := 1, cells := 0, slots := 0, locals := 12 } : Room)) (fun a_ U_ => a_ = #[(.ref o)] ∧ Z.Warmed39 U_.vm ∧ U_.heap = h0) (fun _ _ _ _ _ => True) (fun _ U_ o_ V_ => ∃ v_ L_, o_ = .returned v_ ∧ Q_own_oinit Z o h0 n0 v_ V_.heap L_ ∧ FrameEnd U_ o_ V_ L_ ({ frames := 1, cells := 0, slots := 0, locals := 12 } : Room).cells ({ frames := 1, cells := 0, slots := 0, locals := 12 } : Room).slots) := by
  refine MetFree.of_bodySF (plainFor_of_name own_pn2) hisR ?_
  intro p e s m args below meth c s₁ Bd hml0 hP hK
  obtain ⟨rfl, hZ, hh⟩ := hP
  have hx := Bd.exec
  have hby := Bd.bytes
  have hml : c.maxLocals = 1 := hml0
  have hown : s.vm.findClass "com/example/garmr/garmr/redis/GarmrOptions" = some m.cls := findClass_of_methodNamed Bd.named
  have hnm := (name_of_methodNamed Bd.named Bd.method).1
  have X0 : Stand p l e ({ frames := 1, cells := 0, slots := 0, locals := 12 } : Room) s m #[(.ref o)] below meth c s₁ [] 0 0 := Stand.of_body Bd
  have e0 : s₁.heap = h0 := by rw [← hh, Bd.state]; rfl
  have N0 := Fr.nil n0
  have KK0 := Keep.refl h0 [o]
  have cc0 : Steps p.tables e below (s₁.setTop (entryFrame m #[(.ref o)] 1)) (s₁.setTop (mkF m 0 #[.val (.ref o)] [])) := XT.entry rfl
  obtain ⟨S0', hS0'⟩ : ∃ S, S = (s₁.setTop (entryFrame m #[(.ref o)] 1)) := ⟨_, rfl⟩
  rw [← hS0'] at cc0
  have w_35 := hw _ (List.mem_of_getElem? (i := 35) rfl)
  have cc21 : Steps p.tables e below S0' (s₁.setTop (mkF m 1 #[.val (.ref o)] [(.ref o)])) := Steps.trans cc0 (by
    refine XS.aloadN X0.here hx rfl (own_d hby d3_0) rfl rfl ?_
    exact Steps.refl _)
  obtain ⟨T22, X22, e22, st22⟩ := initO X0 hx hZ hown (hw _ (List.mem_of_getElem? (i := 32) rfl)) (hw _ (List.mem_of_getElem? (i := 16) rfl)) (hw _ (List.mem_of_getElem? (i := 17) rfl)) e0 (g := (mkF m 1 #[.val (.ref o)] [(.ref o)])) rfl (by rw [hml]; rfl) rfl (own_d hby d3_1) (by decide) (W := 0) (by show 2 * 0 + _ ≤ _; exact Nat.le_of_eq rfl) (by decide)
  have cc23 : Steps p.tables e below S0' (T22.setTop (mkF m 8 #[.val (.ref o)] [(.long (30000 : Int64)), (.ref o)])) := Steps.trans (cc21.trans (st22 _ (Steps.refl _))) (by
    refine XS.aloadN X22.here hx rfl (own_d hby d3_4) rfl rfl ?_
    refine X22.ldc2J hx hown (mvT hZ (hw _ (List.mem_of_getElem? (i := 33) rfl))) rfl (own_d hby d3_5) ?_
    exact Steps.refl _)
  obtain ⟨T24, h24, X24, e24, W24, st24⟩ := putF X22 hx hZ hown (host := "") (Or.inl (hw _ (List.mem_of_getElem? (i := 34) rfl))) Via.refl e22 F1 E (Or.inl w_35) (hw _ (List.mem_of_getElem? (i := 27) rfl)) (ty := .long) (by decide) rfl rfl (g := (mkF m 8 #[.val (.ref o)] [(.long (30000 : Int64)), (.ref o)])) rfl rfl (own_d hby d3_8)
  have K24 := Keep.of_wr W24
  have N24 := Fr.snoc X24 N0 go
  have KK1 : Keep h0 h24 [o] := KK0.trans K24 (allS (Or.inl (List.mem_of_getElem? (i := 0) rfl)) all0)
  have Zs1 : n0 ≤ h24.size := Nat.le_trans Z0 K24.1
  have cc26 : Steps p.tables e below S0' (T24.setTop (mkF m 11 #[.val (.ref o)] [])) := (cc23.trans (st24 _ (Steps.refl _)))
  have fa25 : Fld Z h24 o "com/example/garmr/garmr/redis/GarmrOptions" "redisUri" "Ljava/lang/String;" .null := (F2.other W24 (Or.inr (slot_ne (Or.inl (hw _ (List.mem_of_getElem? (i := 42) rfl))) (Or.inl w_35) (by decide) (t := (.object "java/lang/String")) (t' := .long) (by decide) (by decide))))
  have fa27 : Fld Z h24 o "com/example/garmr/garmr/redis/GarmrOptions" "interruptOnLost" "Z" (.int (0 : Int32)) := (F3.other W24 (Or.inr (slot_ne (Or.inl (hw _ (List.mem_of_getElem? (i := 49) rfl))) (Or.inl w_35) (by decide) (t := .boolean) (t' := .long) (by decide) (by decide))))
  have cE := cc26
  rw [hS0'] at cE
  obtain ⟨fs, hr, hrun, hended, hW, hsame⟩ := X24.leave (v := none) (fun _ => rfl)
  refine ⟨_, _, cE.trans (X24.returnOut hx Bd.returns (own_d hby d3_11) hr), hrun, hended, _, _, rfl, ?_, ⟨_, rfl⟩, hW, hsame.mono (by first | decide | omega) (by first | decide | omega)⟩
  show Q_own_oinit Z o h0 n0 _ T24.heap _
  rw [e24]
  exact ⟨rfl, N24, KK1, (Fld.same W24 F1), fa25, fa27⟩
theorem d4_0 : decode prog_14_method_5_code 0 = .ok (.aload_n 0, 1) := by decide +kernel
theorem d4_1 : decode prog_14_method_5_code 1 = .ok (.getfield 25, 3) := by decide +kernel
theorem d4_4 : decode prog_14_method_5_code 4 = .ok (.areturn, 1) := by decide +kernel
def Q_own_getUri (Z : State) (o : Addr) (u : Value) (h0 : Heap) (n0 : Nat) (v : Option Value) (h : Heap) (L : List Loc) : Prop := v = some u ∧ Fr n0 L ∧ h = h0
set_option maxRecDepth 65536 in
set_option maxHeartbeats 40000000 in
theorem own_getUri (l : Launch) (Z : State) (a0 : Array Value) (hw : ∀ d ∈ tables_1, d.before a0 Z = true) (o : Addr) (u : Value) (h0 : Heap) (n0 : Nat) (Z0 : n0 ≤ h0.size) (hu : u.isRef = true) (F2 : Fld Z h0 o "com/example/garmr/garmr/redis/GarmrOptions" "redisUri" "Ljava/lang/String;" u) :
    MetFree l (⟨"com/example/garmr/garmr/redis/GarmrOptions", "getRedisUri", "()Ljava/lang/String;"⟩ : MethodName) (head1 [Jvm.Cond.code (⟨"com/example/garmr/garmr/redis/GarmrOptions", "getRedisUri", "()Ljava/lang/String;"⟩ : MethodName) prog_14_method_5_code 1 (some (.object "java/lang/String"))] ({ frames := 0, cells := 0, slots := 0, locals := 0 } : Room)) (fun a_ U_ => a_ = #[(.ref o)] ∧ Z.Warmed39 U_.vm ∧ U_.heap = h0) (fun _ _ _ _ _ => True) (fun _ U_ o_ V_ => ∃ v_ L_, o_ = .returned v_ ∧ Q_own_getUri Z o u h0 n0 v_ V_.heap L_ ∧ FrameEnd U_ o_ V_ L_ ({ frames := 0, cells := 0, slots := 0, locals := 0 } : Room).cells ({ frames := 0, cells := 0, slots := 0, locals := 0 } : Room).slots) := by
  refine MetFree.of_bodySF (plainFor_of_name own_pn2) hisR ?_
  intro p e s m args below meth c s₁ Bd hml0 hP hK
  obtain ⟨rfl, hZ, hh⟩ := hP
  have hx := Bd.exec
  have hby := Bd.bytes
  have hml : c.maxLocals = 1 := hml0
  have hown : s.vm.findClass "com/example/garmr/garmr/redis/GarmrOptions" = some m.cls := findClass_of_methodNamed Bd.named
  have hnm := (name_of_methodNamed Bd.named Bd.method).1
  have X0 : Stand p l e ({ frames := 0, cells := 0, slots := 0, locals := 0 } : Room) s m #[(.ref o)] below meth c s₁ [] 0 0 := Stand.of_body Bd
  have e0 : s₁.heap = h0 := by rw [← hh, Bd.state]; rfl
  have N0 := Fr.nil n0
  have KK0 := Keep.refl h0 ([] : List Addr)
  have cc0 : Steps p.tables e below (s₁.setTop (entryFrame m #[(.ref o)] 1)) (s₁.setTop (mkF m 0 #[.val (.ref o)] [])) := XT.entry rfl
  obtain ⟨S0', hS0'⟩ : ∃ S, S = (s₁.setTop (entryFrame m #[(.ref o)] 1)) := ⟨_, rfl⟩
  rw [← hS0'] at cc0
  have cc21 : Steps p.tables e below S0' (s₁.setTop (mkF m 1 #[.val (.ref o)] [(.ref o)])) := Steps.trans cc0 (by
    refine XS.aloadN X0.here hx rfl (own_d hby d4_0) rfl rfl ?_
    exact Steps.refl _)
  obtain ⟨T22, X22, e22, st22⟩ := getF X0 hx hZ hown (host := "") (Or.inl (hw _ (List.mem_of_getElem? (i := 41) rfl))) Via.refl e0 F2 (g := (mkF m 1 #[.val (.ref o)] [(.ref o)])) rfl rfl (own_d hby d4_1)
  have cc23 : Steps p.tables e below S0' (T22.setTop (mkF m 4 #[.val (.ref o)] [u])) := (cc21.trans (st22 _ (Steps.refl _)))
  have cE := cc23
  rw [hS0'] at cE
  obtain ⟨fs, hr, hrun, hended, hW, hsame⟩ := X22.leave (v := some u) (fun h => by rw [Bd.returns] at h; cases h)
  refine ⟨_, _, cE.trans (X22.areturnOut hx (hu) Bd.returns rfl (own_d hby d4_4) hr), hrun, hended, _, _, rfl, ?_, ⟨_, rfl⟩, hW, hsame.mono (by first | decide | omega) (by first | decide | omega)⟩
  show Q_own_getUri Z o u h0 n0 _ T22.heap _
  rw [e22]
  exact ⟨rfl, N0, rfl⟩
theorem d5_0 : decode prog_14_method_4_code 0 = .ok (.aload_n 0, 1) := by decide +kernel
theorem d5_1 : decode prog_14_method_4_code 1 = .ok (.iload_n 1, 1) := by decide +kernel
theorem d5_2 : decode prog_14_method_4_code 2 = .ok (.putfield 34, 3) := by decide +kernel
theorem d5_5 : decode prog_14_method_4_code 5 = .ok (.aload_n 0, 1) := by decide +kernel
theorem d5_6 : decode prog_14_method_4_code 6 = .ok (.areturn, 1) := by decide +kernel
def Q_own_setInt (Z : State) (o : Addr) (b : Int32) (h0 : Heap) (n0 : Nat) (v : Option Value) (h : Heap) (L : List Loc) : Prop := v = some (.ref o) ∧ Fr n0 L ∧ Keep h0 h [o] ∧ Fld Z h o "com/example/garmr/garmr/redis/GarmrOptions" "defaultLeaseMillis" "J" (.long (30000 : Int64)) ∧ Fld Z h o "com/example/garmr/garmr/redis/GarmrOptions" "redisUri" "Ljava/lang/String;" .null ∧ Fld Z h o "com/example/garmr/garmr/redis/GarmrOptions" "interruptOnLost" "Z" (.int b)
set_option maxRecDepth 65536 in
set_option maxHeartbeats 40000000 in
theorem own_setInt (l : Launch) (Z : State) (a0 : Array Value) (hw : ∀ d ∈ tables_1, d.before a0 Z = true) (o : Addr) (b : Int32) (h0 : Heap) (n0 : Nat) (Z0 : n0 ≤ h0.size) (E : Exa Z h0 o "com/example/garmr/garmr/redis/GarmrOptions") (F1 : Fld Z h0 o "com/example/garmr/garmr/redis/GarmrOptions" "defaultLeaseMillis" "J" (.long (30000 : Int64))) (F2 : Fld Z h0 o "com/example/garmr/garmr/redis/GarmrOptions" "redisUri" "Ljava/lang/String;" .null) (F3 : Fld Z h0 o "com/example/garmr/garmr/redis/GarmrOptions" "interruptOnLost" "Z" (.int (0 : Int32))) (go : n0 ≤ o) (hb : b = 0 ∨ b = 1) :
    MetFree l (⟨"com/example/garmr/garmr/redis/GarmrOptions", "interruptOnLost", "(Z)Lcom/example/garmr/garmr/redis/GarmrOptions;"⟩ : MethodName) (head1 [Jvm.Cond.code (⟨"com/example/garmr/garmr/redis/GarmrOptions", "interruptOnLost", "(Z)Lcom/example/garmr/garmr/redis/GarmrOptions;"⟩ : MethodName) prog_14_method_4_code 2 (some (.object "com/example/garmr/garmr/redis/GarmrOptions"))] ({ frames := 0, cells := 0, slots := 0, locals := 0 } : Room)) (fun a_ U_ => a_ = #[(.ref o), (.int b)] ∧ Z.Warmed39 U_.vm ∧ U_.heap = h0) (fun _ _ _ _ _ => True) (fun _ U_ o_ V_ => ∃ v_ L_, o_ = .returned v_ ∧ Q_own_setInt Z o b h0 n0 v_ V_.heap L_ ∧ FrameEnd U_ o_ V_ L_ ({ frames := 0, cells := 0, slots := 0, locals := 0 } : Room).cells ({ frames := 0, cells := 0, slots := 0, locals := 0 } : Room).slots) := by
  refine MetFree.of_bodySF (plainFor_of_name own_pn2) hisR ?_
  intro p e s m args below meth c s₁ Bd hml0 hP hK
  obtain ⟨rfl, hZ, hh⟩ := hP
  have hx := Bd.exec
  have hby := Bd.bytes
  have hml : c.maxLocals = 2 := hml0
  have hown : s.vm.findClass "com/example/garmr/garmr/redis/GarmrOptions" = some m.cls := findClass_of_methodNamed Bd.named
  have hnm := (name_of_methodNamed Bd.named Bd.method).1
  have X0 : Stand p l e ({ frames := 0, cells := 0, slots := 0, locals := 0 } : Room) s m #[(.ref o), (.int b)] below meth c s₁ [] 0 0 := Stand.of_body Bd
  have e0 : s₁.heap = h0 := by rw [← hh, Bd.state]; rfl
  have N0 := Fr.nil n0
  have KK0 := Keep.refl h0 [o]
  have cc0 : Steps p.tables e below (s₁.setTop (entryFrame m #[(.ref o), (.int b)] 2)) (s₁.setTop (mkF m 0 #[.val (.ref o), .val (.int b)] [])) := XT.entry rfl
  obtain ⟨S0', hS0'⟩ : ∃ S, S = (s₁.setTop (entryFrame m #[(.ref o), (.int b)] 2)) := ⟨_, rfl⟩
  rw [← hS0'] at cc0
  have w_49 := hw _ (List.mem_of_getElem? (i := 49) rfl)
  have cc21 : Steps p.tables e below S0' (s₁.setTop (mkF m 2 #[.val (.ref o), .val (.int b)] [(.int b), (.ref o)])) := Steps.trans cc0 (by
    refine XS.aloadN X0.here hx rfl (own_d hby d5_0) rfl rfl ?_
    refine XS.iloadN X0.here hx rfl (own_d hby d5_1) rfl ?_
    exact Steps.refl _)
  obtain ⟨T22, h22, X22, e22, W22, st22⟩ := putFN X0 hx hZ hown (hw _ (List.mem_of_getElem? (i := 48) rfl)) Via.refl e0 F3 E (Or.inl w_49) (hw _ (List.mem_of_getElem? (i := 27) rfl)) (ty := .boolean) (v' := (.int b)) (by decide) (by rcases hb with rfl | rfl <;> rfl) (by rcases hb with rfl | rfl <;> rfl) (g := (mkF m 2 #[.val (.ref o), .val (.int b)] [(.int b), (.ref o)])) rfl rfl (own_d hby d5_2)
  have K22 := Keep.of_wr W22
  have N22 := Fr.snoc X22 N0 go
  have KK1 : Keep h0 h22 [o] := KK0.trans K22 (allS (Or.inl (List.mem_of_getElem? (i := 0) rfl)) all0)
  have Zs1 : n0 ≤ h22.size := Nat.le_trans Z0 K22.1
  have cc24 : Steps p.tables e below S0' (T22.setTop (mkF m 6 #[.val (.ref o), .val (.int b)] [(.ref o)])) := Steps.trans (cc21.trans (st22 _ (Steps.refl _))) (by
    refine XS.aloadN X22.here hx rfl (own_d hby d5_5) rfl rfl ?_
    exact Steps.refl _)
  have fa23 : Fld Z h22 o "com/example/garmr/garmr/redis/GarmrOptions" "defaultLeaseMillis" "J" (.long (30000 : Int64)) := (F1.other W22 (Or.inr (slot_ne (Or.inl (hw _ (List.mem_of_getElem? (i := 35) rfl))) (Or.inl w_49) (by decide) (t := .long) (t' := .boolean) (by decide) (by decide))))
  have fa25 : Fld Z h22 o "com/example/garmr/garmr/redis/GarmrOptions" "redisUri" "Ljava/lang/String;" .null := (F2.other W22 (Or.inr (slot_ne (Or.inl (hw _ (List.mem_of_getElem? (i := 42) rfl))) (Or.inl w_49) (by decide) (t := (.object "java/lang/String")) (t' := .boolean) (by decide) (by decide))))
  have cE := cc24
  rw [hS0'] at cE
  obtain ⟨fs, hr, hrun, hended, hW, hsame⟩ := X22.leave (v := some (.ref o)) (fun h => by rw [Bd.returns] at h; cases h)
  refine ⟨_, _, cE.trans (X22.areturnOut hx (rfl) Bd.returns rfl (own_d hby d5_6) hr), hrun, hended, _, _, rfl, ?_, ⟨_, rfl⟩, hW, hsame.mono (by first | decide | omega) (by first | decide | omega)⟩
  show Q_own_setInt Z o b h0 n0 _ T22.heap _
  rw [e22]
  exact ⟨rfl, N22, KK1, fa23, fa25, (Fld.same W22 F3)⟩
theorem d6_0 : decode jdk_31_method_11_code 0 = .ok (.aload_n 0, 1) := by decide +kernel
theorem d6_1 : decode jdk_31_method_11_code 1 = .ok (.ifnonnull 12, 3) := by decide +kernel
theorem d6_13 : decode jdk_31_method_11_code 13 = .ok (.aload_n 0, 1) := by decide +kernel
theorem d6_14 : decode jdk_31_method_11_code 14 = .ok (.areturn, 1) := by decide +kernel
def Q_own_nn (Z : State) (a m1 : Addr) (h0 : Heap) (n0 : Nat) (v : Option Value) (h : Heap) (L : List Loc) : Prop := v = some (.ref a) ∧ Fr n0 L ∧ h = h0
set_option maxRecDepth 65536 in
set_option maxHeartbeats 40000000 in
theorem own_nn (l : Launch) (Z : State) (a0 : Array Value) (hw : ∀ d ∈ tables_1, d.before a0 Z = true) (a m1 : Addr) (h0 : Heap) (n0 : Nat) (Z0 : n0 ≤ h0.size)  :
    MetFree l (⟨"java/util/Objects", "requireNonNull", "(Ljava/lang/Object;Ljava/lang/String;)Ljava/lang/Object;"⟩ : MethodName) (head1 [Jvm.Cond.code (⟨"java/util/Objects", "requireNonNull", "(Ljava/lang/Object;Ljava/lang/String;)Ljava/lang/Object;"⟩ : MethodName) jdk_31_method_11_code 2 (some (.object "java/lang/Object"))] ({ frames := 0, cells := 0, slots := 0, locals := 0 } : Room)) (fun a_ U_ => a_ = #[(.ref a), (.ref m1)] ∧ Z.Warmed39 U_.vm ∧ U_.heap = h0) (fun _ _ _ _ _ => True) (fun _ U_ o_ V_ => ∃ v_ L_, o_ = .returned v_ ∧ Q_own_nn Z a m1 h0 n0 v_ V_.heap L_ ∧ FrameEnd U_ o_ V_ L_ ({ frames := 0, cells := 0, slots := 0, locals := 0 } : Room).cells ({ frames := 0, cells := 0, slots := 0, locals := 0 } : Room).slots) := by
  refine MetFree.of_bodySF (plainFor_of_name own_pn3) hisR ?_
  intro p e s m args below meth c s₁ Bd hml0 hP hK
  obtain ⟨rfl, hZ, hh⟩ := hP
  have hx := Bd.exec
  have hby := Bd.bytes
  have hml : c.maxLocals = 2 := hml0
  have hown : s.vm.findClass "java/util/Objects" = some m.cls := findClass_of_methodNamed Bd.named
  have hnm := (name_of_methodNamed Bd.named Bd.method).1
  have X0 : Stand p l e ({ frames := 0, cells := 0, slots := 0, locals := 0 } : Room) s m #[(.ref a), (.ref m1)] below meth c s₁ [] 0 0 := Stand.of_body Bd
  have e0 : s₁.heap = h0 := by rw [← hh, Bd.state]; rfl
  have N0 := Fr.nil n0
  have KK0 := Keep.refl h0 ([] : List Addr)
  have cc0 : Steps p.tables e below (s₁.setTop (entryFrame m #[(.ref a), (.ref m1)] 2)) (s₁.setTop (mkF m 0 #[.val (.ref a), .val (.ref m1)] [])) := XT.entry rfl
  obtain ⟨S0', hS0'⟩ : ∃ S, S = (s₁.setTop (entryFrame m #[(.ref a), (.ref m1)] 2)) := ⟨_, rfl⟩
  rw [← hS0'] at cc0
  have cc21 : Steps p.tables e below S0' (s₁.setTop (mkF m 14 #[.val (.ref a), .val (.ref m1)] [(.ref a)])) := Steps.trans cc0 (by
    refine XS.aloadN X0.here hx rfl (own_d hby d6_0) rfl rfl ?_
    refine XT.ifnonnullYes X0.here hx rfl (pc0 := 1) rfl (own_d hby d6_1) rfl (by decide) rfl ?_
    refine XS.aloadN X0.here hx rfl (own_d hby d6_13) rfl rfl ?_
    exact Steps.refl _)
  have cE := cc21
  rw [hS0'] at cE
  obtain ⟨fs, hr, hrun, hended, hW, hsame⟩ := X0.leave (v := some (.ref a)) (fun h => by rw [Bd.returns] at h; cases h)
  refine ⟨_, _, cE.trans (X0.areturnOut hx (rfl) Bd.returns rfl (own_d hby d6_14) hr), hrun, hended, _, _, rfl, ?_, ⟨_, rfl⟩, hW, hsame.mono (by first | decide | omega) (by first | decide | omega)⟩
  show Q_own_nn Z a m1 h0 n0 _ s₁.heap _
  rw [e0]
  exact ⟨rfl, N0, rfl⟩
theorem d7_0 : decode prog_14_method_2_code 0 = .ok (.aload_n 0, 1) := by decide +kernel
theorem d7_1 : decode prog_14_method_2_code 1 = .ok (.aload_n 1, 1) := by decide +kernel
theorem d7_2 : decode prog_14_method_2_code 2 = .ok (.ldc 15, 2) := by decide +kernel
theorem d7_4 : decode prog_14_method_2_code 4 = .ok (.invokestatic 17, 3) := by decide +kernel
theorem d7_7 : decode prog_14_method_2_code 7 = .ok (.checkcast 23, 3) := by decide +kernel
theorem d7_10 : decode prog_14_method_2_code 10 = .ok (.putfield 25, 3) := by decide +kernel
theorem d7_13 : decode prog_14_method_2_code 13 = .ok (.aload_n 0, 1) := by decide +kernel
theorem d7_14 : decode prog_14_method_2_code 14 = .ok (.areturn, 1) := by decide +kernel
def Q_own_setUri (Z : State) (o q : Addr) (u : Value) (b : Int32) (h0 : Heap) (n0 : Nat) (v : Option Value) (h : Heap) (L : List Loc) : Prop := v = some (.ref o) ∧ Fr n0 L ∧ Keep h0 h [o] ∧ Fld Z h o "com/example/garmr/garmr/redis/GarmrOptions" "defaultLeaseMillis" "J" (.long (30000 : Int64)) ∧ Fld Z h o "com/example/garmr/garmr/redis/GarmrOptions" "redisUri" "Ljava/lang/String;" (.ref q) ∧ Fld Z h o "com/example/garmr/garmr/redis/GarmrOptions" "interruptOnLost" "Z" (.int b)
set_option maxRecDepth 65536 in
set_option maxHeartbeats 40000000 in
theorem own_setUri (l : Launch) (Z : State) (a0 : Array Value) (hw : ∀ d ∈ tables_1, d.before a0 Z = true) (o q : Addr) (u : Value) (b : Int32) (h0 : Heap) (n0 : Nat) (Z0 : n0 ≤ h0.size) (E : Exa Z h0 o "com/example/garmr/garmr/redis/GarmrOptions") (F1 : Fld Z h0 o "com/example/garmr/garmr/redis/GarmrOptions" "defaultLeaseMillis" "J" (.long (30000 : Int64))) (F2 : Fld Z h0 o "com/example/garmr/garmr/redis/GarmrOptions" "redisUri" "Ljava/lang/String;" u) (F3 : Fld Z h0 o "com/example/garmr/garmr/redis/GarmrOptions" "interruptOnLost" "Z" (.int b)) (go : n0 ≤ o) (Eq : Exa Z h0 q "java/lang/String") :
    MetFree l (⟨"com/example/garmr/garmr/redis/GarmrOptions", "redisUri", "(Ljava/lang/String;)Lcom/example/garmr/garmr/redis/GarmrOptions;"⟩ : MethodName) (head1 [Jvm.Cond.code (⟨"com/example/garmr/garmr/redis/GarmrOptions", "redisUri", "(Ljava/lang/String;)Lcom/example/garmr/garmr/redis/GarmrOptions;"⟩ : MethodName) prog_14_method_2_code 2 (some (.object "com/example/garmr/garmr/redis/GarmrOptions"))] ({ frames := 1, cells := 2, slots := 36, locals := 14 } : Room)) (fun a_ U_ => a_ = #[(.ref o), (.ref q)] ∧ Z.Warmed39 U_.vm ∧ U_.heap = h0 ∧ CHv Z EL U_.vm h0) (fun _ _ _ _ _ => True) (fun _ U_ o_ V_ => ∃ v_ L_, o_ = .returned v_ ∧ Q_own_setUri Z o q u b h0 n0 v_ V_.heap L_ ∧ CHr Z EL U_.vm U_.heap V_.vm V_.heap ∧ ReturnedEndW U_ o_ V_ L_ ({ frames := 1, cells := 2, slots := 36, locals := 14 } : Room).cells ({ frames := 1, cells := 2, slots := 36, locals := 14 } : Room).slots) := by
  refine MetFree.of_bodySF (plainFor_of_name own_pn2) hisR ?_
  intro p e s m args below meth c s₁ Bd hml0 hP hK
  obtain ⟨rfl, hZ, hh, hCH⟩ := hP
  have hx := Bd.exec
  have hby := Bd.bytes
  have hml : c.maxLocals = 2 := hml0
  have hown : s.vm.findClass "com/example/garmr/garmr/redis/GarmrOptions" = some m.cls := findClass_of_methodNamed Bd.named
  have hnm := (name_of_methodNamed Bd.named Bd.method).1
  have X0 : Stand p l e ({ frames := 1, cells := 2, slots := 36, locals := 14 } : Room) (s.setVm s.vm) m #[(.ref o), (.ref q)] below meth c s₁ [] 0 0 := Stand.of_body Bd
  have e0 : s₁.heap = h0 := by rw [← hh, Bd.state]; rfl
  have N0 := Fr.nil n0
  have KK0 := Keep.refl h0 [o]
  have C0 := CHr.refl hCH
  have hS0 : s.Since s.vm 0 := (State.WarmedH.refl s).since 0
  have hk0 : 0 ≤ h0.size := Nat.zero_le _
  have hEL : EW Z a0 EL := own_EW hw
  have cc0 : Steps p.tables e below (s₁.setTop (entryFrame m #[(.ref o), (.ref q)] 2)) (s₁.setTop (mkF m 0 #[.val (.ref o), .val (.ref q)] [])) := XT.entry rfl
  obtain ⟨S0', hS0'⟩ : ∃ S, S = (s₁.setTop (entryFrame m #[(.ref o), (.ref q)] 2)) := ⟨_, rfl⟩
  rw [← hS0'] at cc0
  have w_42 := hw _ (List.mem_of_getElem? (i := 42) rfl)
  have w_58 := hw _ (List.mem_of_getElem? (i := 58) rfl)
  have w_59 := hw _ (List.mem_of_getElem? (i := 59) rfl)
  have cc21 : Steps p.tables e below S0' (s₁.setTop (mkF m 2 #[.val (.ref o), .val (.ref q)] [(.ref q), (.ref o)])) := Steps.trans cc0 (by
    refine XS.aloadN X0.here hx rfl (own_d hby d7_0) rfl rfl ?_
    refine XS.aloadN X0.here hx rfl (own_d hby d7_1) rfl rfl ?_
    exact Steps.refl _)
  obtain ⟨m1, T22, h22, k22, X22, e22, E22, hS22, hk22, hZ22, hown22, CH22, -, st22⟩ := ldcOH X0 hx hZ hown (hw _ (List.mem_of_getElem? (i := 55) rfl)) (fun a ha => hw a ((by decide +kernel : ∀ a ∈ Bundle.stringAtoms, a ∈ tables_1) a ha)) e0 hS0 hk0 hEL C0.1 (g := (mkF m 2 #[.val (.ref o), .val (.ref q)] [(.ref q), (.ref o)])) rfl (own_d hby d7_2) (n := 32) (by decide) (by decide) (by decide) (by decide)
  have K22 := (Keep.refl h0 ([] : List Addr)).ext E22
  have C22 := C0.trans CH22
  have KK1 : Keep h0 h22 [o] := KK0.trans K22 all0
  have Zs1 : n0 ≤ h22.size := Nat.le_trans Z0 K22.1
  have cc23 : Steps p.tables e below S0' (T22.setTop (mkF m 4 #[.val (.ref o), .val (.ref q)] [(.ref m1), (.ref q), (.ref o)])) := (cc21.trans (st22 _ (Steps.refl _)))
  obtain ⟨_, _, ⟨T24, L24, k24, n24⟩, -, X24, ⟨Lc24, hQ24, l24, y24, z24⟩, st24⟩ := Jvm.LawKit.callS X22 hx (y := (⟨"java/util/Objects", "requireNonNull", "(Ljava/lang/Object;Ljava/lang/String;)Ljava/lang/Object;"⟩ : MethodName)) hown22 (mvT hZ22 (hw _ (List.mem_of_getElem? (i := 56) rfl))) (mvT hZ22 (hw _ (List.mem_of_getElem? (i := 57) rfl))) (mvT hZ22 w_58) (mvT hZ22 w_59) (by decide) (backOf (W := 1) (own_nn l Z a0 hw q m1 h22 n0 Zs1 ) hZ22 w_59 w_58 (by decide) (by decide)) (g := (mkF m 4 #[.val (.ref o), .val (.ref q)] [(.ref m1), (.ref q), (.ref o)])) rfl (by rw [hml]; rfl) (argsL := [(.ref q), (.ref m1)]) (rest := [(.ref o)]) (lenOf own_pd2 rfl) rfl (by show 2 * 0 + _ ≤ _; exact Nat.le_of_eq rfl) (own_d hby d7_4) (fun _ _ => ⟨rfl, e22, Nat.le_of_ble_eq_true rfl, Nat.le_of_ble_eq_true rfl⟩)
  dsimp only [Pt.U, Pt.locs, Pt.cells, Pt.slots] at X24 l24 y24 z24 st24 hQ24
  subst l24 y24 z24
  obtain ⟨rfl, Nq24, eq24⟩ := hQ24
  have N24 := Fr.app N0 Nq24
  have e24 : T24.heap = h22 := eq24
  have cc26 : Steps p.tables e below S0' (T24.setTop (mkF m 7 #[.val (.ref o), .val (.ref q)] [(.ref q), (.ref o)])) := (cc23.trans (st24 _ (Steps.refl _)))
  have fa25 : Exa Z h22 q "java/lang/String" := (Eq.keep K22)
  obtain ⟨T27, X27, e27, st27⟩ := castY X24 hx hZ22 hown22 (hw _ (List.mem_of_getElem? (i := 60) rfl)) e24 (Ins.self fa25) (g := (mkF m 7 #[.val (.ref o), .val (.ref q)] [(.ref q), (.ref o)])) rfl rfl (own_d hby d7_7)
  have cc29 : Steps p.tables e below S0' (T27.setTop (mkF m 10 #[.val (.ref o), .val (.ref q)] [(.ref q), (.ref o)])) := (cc26.trans (st27 _ (Steps.refl _)))
  have fa28 : Fld Z h22 o "com/example/garmr/garmr/redis/GarmrOptions" "redisUri" "Ljava/lang/String;" u := (F2.keep K22 nin0)
  have fa30 : Exa Z h22 o "com/example/garmr/garmr/redis/GarmrOptions" := (E.keep K22)
  obtain ⟨T31, h31, X31, e31, W31, st31⟩ := putF X27 hx hZ22 hown22 (host := "") (Or.inl (hw _ (List.mem_of_getElem? (i := 41) rfl))) Via.refl e27 fa28 fa30 (Or.inl w_42) (hw _ (List.mem_of_getElem? (i := 27) rfl)) (ty := (.object "java/lang/String")) (by decide) rfl rfl (g := (mkF m 10 #[.val (.ref o), .val (.ref q)] [(.ref q), (.ref o)])) rfl rfl (own_d hby d7_10)
  have K31 := Keep.of_wr W31
  have N31 := Fr.snoc X31 N24 go
  have D32 := CHr.wr W31 (Safe.exa (hZ22).alike fa30 (by decide) (by decide)) C22.1
  have C33 := C22.trans D32
  have KK2 : Keep h0 h31 [o] := KK1.trans K31 (allS (Or.inl (List.mem_of_getElem? (i := 0) rfl)) all0)
  have Zs2 : n0 ≤ h31.size := Nat.le_trans Zs1 K31.1
  have cc35 : Steps p.tables e below S0' (T31.setTop (mkF m 14 #[.val (.ref o), .val (.ref q)] [(.ref o)])) := Steps.trans (cc29.trans (st31 _ (Steps.refl _))) (by
    refine XS.aloadN X31.here hx rfl (own_d hby d7_13) rfl rfl ?_
    exact Steps.refl _)
  have fa34 : Fld Z h31 o "com/example/garmr/garmr/redis/GarmrOptions" "defaultLeaseMillis" "J" (.long (30000 : Int64)) := ((F1.keep K22 nin0).other W31 (Or.inr (slot_ne (Or.inl (hw _ (List.mem_of_getElem? (i := 35) rfl))) (Or.inl w_42) (by decide) (t := .long) (t' := (.object "java/lang/String")) (by decide) (by decide))))
  have fa36 : Fld Z h31 o "com/example/garmr/garmr/redis/GarmrOptions" "interruptOnLost" "Z" (.int b) := ((F3.keep K22 nin0).other W31 (Or.inr (slot_ne (Or.inl (hw _ (List.mem_of_getElem? (i := 49) rfl))) (Or.inl w_42) (by decide) (t := .boolean) (t' := (.object "java/lang/String")) (by decide) (by decide))))
  have cE := cc35
  rw [hS0'] at cE
  obtain ⟨fs, hr, hrun, hended, hE⟩ := X31.leaveW hS22 (by rw [e31]; exact (Nat.le_trans hk22 K31.1)) (v := some (.ref o)) (fun h => by rw [Bd.returns] at h; cases h)
  have CE := C33.trans (CHv.at X31 hZ22 hEL C33.1)
  refine ⟨_, _, cE.trans (X31.areturnOut hx (rfl) Bd.returns rfl (own_d hby d7_14) hr), hrun, hended, _, _, rfl, ?_, ?_, hE.1, hE.2.1, hE.2.2.1, hE.2.2.2.mono (by first | decide | omega) (by first | decide | omega)⟩
  · show Q_own_setUri Z o q u b h0 n0 _ T31.heap _
    rw [e31]
    exact ⟨rfl, N31, KK2, fa34, (Fld.same W31 fa28), fa36⟩
  · rw [hh]
    show CHr Z EL s.vm h0 T31.vm T31.heap
    rw [e31]
    exact CE
theorem d8_0 : decode jdk_42_method_66_code 0 = .ok (.aload_n 0, 1) := by decide +kernel
theorem d8_1 : decode jdk_42_method_66_code 1 = .ok (.aload_n 1, 1) := by decide +kernel
theorem d8_2 : decode jdk_42_method_66_code 2 = .ok (.if_acmp .ne 5, 3) := by decide +kernel
theorem d8_5 : decode jdk_42_method_66_code 5 = .ok (.iconst 1, 1) := by decide +kernel
theorem d8_6 : decode jdk_42_method_66_code 6 = .ok (.ireturn, 1) := by decide +kernel
def Q_own_same (Z : State) (a : Addr) (h0 : Heap) (n0 : Nat) (v : Option Value) (h : Heap) (L : List Loc) : Prop := v = some (.int 1) ∧ Fr n0 L ∧ h = h0
set_option maxRecDepth 65536 in
set_option maxHeartbeats 40000000 in
theorem own_same (l : Launch) (Z : State) (a0 : Array Value) (hw : ∀ d ∈ tables_1, d.before a0 Z = true) (a : Addr) (h0 : Heap) (n0 : Nat) (Z0 : n0 ≤ h0.size)  :
    MetFree l (⟨"java/lang/String", "equals", "(Ljava/lang/Object;)Z"⟩ : MethodName) (head1 [Jvm.Cond.code (⟨"java/lang/String", "equals", "(Ljava/lang/Object;)Z"⟩ : MethodName) jdk_42_method_66_code 3 (some .boolean)] ({ frames := 0, cells := 0, slots := 0, locals := 0 } : Room)) (fun a_ U_ => a_ = #[(.ref a), (.ref a)] ∧ Z.Warmed39 U_.vm ∧ U_.heap = h0) (fun _ _ _ _ _ => True) (fun _ U_ o_ V_ => ∃ v_ L_, o_ = .returned v_ ∧ Q_own_same Z a h0 n0 v_ V_.heap L_ ∧ FrameEnd U_ o_ V_ L_ ({ frames := 0, cells := 0, slots := 0, locals := 0 } : Room).cells ({ frames := 0, cells := 0, slots := 0, locals := 0 } : Room).slots) := by
  refine MetFree.of_bodySF (plainFor_of_name own_pn0) hisR ?_
  intro p e s m args below meth c s₁ Bd hml0 hP hK
  obtain ⟨rfl, hZ, hh⟩ := hP
  have hx := Bd.exec
  have hby := Bd.bytes
  have hml : c.maxLocals = 3 := hml0
  have hown : s.vm.findClass "java/lang/String" = some m.cls := findClass_of_methodNamed Bd.named
  have hnm := (name_of_methodNamed Bd.named Bd.method).1
  have X0 : Stand p l e ({ frames := 0, cells := 0, slots := 0, locals := 0 } : Room) s m #[(.ref a), (.ref a)] below meth c s₁ [] 0 0 := Stand.of_body Bd
  have e0 : s₁.heap = h0 := by rw [← hh, Bd.state]; rfl
  have N0 := Fr.nil n0
  have KK0 := Keep.refl h0 ([] : List Addr)
  have cc0 : Steps p.tables e below (s₁.setTop (entryFrame m #[(.ref a), (.ref a)] 3)) (s₁.setTop (mkF m 0 #[.val (.ref a), .val (.ref a), .unset] [])) := XT.entry rfl
  obtain ⟨S0', hS0'⟩ : ∃ S, S = (s₁.setTop (entryFrame m #[(.ref a), (.ref a)] 3)) := ⟨_, rfl⟩
  rw [← hS0'] at cc0
  have cc21 : Steps p.tables e below S0' (s₁.setTop (mkF m 6 #[.val (.ref a), .val (.ref a), .unset] [(.int 1)])) := Steps.trans cc0 (by
    refine XS.aloadN X0.here hx rfl (own_d hby d8_0) rfl rfl ?_
    refine XS.aloadN X0.here hx rfl (own_d hby d8_1) rfl rfl ?_
    refine XT.acmpNo X0.here hx rfl (own_d hby d8_2) rfl rfl rfl (aa_ne_f rfl) ?_
    refine iconstV X0.here hx rfl 1 (own_d hby d8_5) (by decide) ?_
    exact Steps.refl _)
  have cE := cc21
  rw [hS0'] at cE
  obtain ⟨fs, hr, hrun, hended, hW, hsame⟩ := X0.leave (v := some (.int 1)) (fun h => by rw [Bd.returns] at h; cases h)
  refine ⟨_, _, cE.trans (X0.ireturnOut hx Bd.returns (rfl) (by simp) (own_d hby d8_6) hr), hrun, hended, _, _, rfl, ?_, ⟨_, rfl⟩, hW, hsame.mono (by first | decide | omega) (by first | decide | omega)⟩
  show Q_own_same Z a h0 n0 _ s₁.heap _
  rw [e0]
  exact ⟨rfl, N0, rfl⟩
theorem d9_0 : decode prog_14_method_6_code 0 = .ok (.aload_n 0, 1) := by decide +kernel
theorem d9_1 : decode prog_14_method_6_code 1 = .ok (.getfield 9, 3) := by decide +kernel
theorem d9_4 : decode prog_14_method_6_code 4 = .ok (.lreturn, 1) := by decide +kernel
def Q_own_lease (Z : State) (o : Addr) (q : Int64) (h0 : Heap) (n0 : Nat) (v : Option Value) (h : Heap) (L : List Loc) : Prop := v = some (.long q) ∧ Fr n0 L ∧ h = h0
set_option maxRecDepth 65536 in
set_option maxHeartbeats 40000000 in
theorem own_lease (l : Launch) (Z : State) (a0 : Array Value) (hw : ∀ d ∈ tables_1, d.before a0 Z = true) (o : Addr) (q : Int64) (h0 : Heap) (n0 : Nat) (Z0 : n0 ≤ h0.size) (F1 : Fld Z h0 o "com/example/garmr/garmr/redis/GarmrOptions" "defaultLeaseMillis" "J" (.long q)) :
    MetFree l (⟨"com/example/garmr/garmr/redis/GarmrOptions", "getDefaultLeaseMillis", "()J"⟩ : MethodName) (head1 [Jvm.Cond.code (⟨"com/example/garmr/garmr/redis/GarmrOptions", "getDefaultLeaseMillis", "()J"⟩ : MethodName) prog_14_method_6_code 1 (some .long)] ({ frames := 0, cells := 0, slots := 0, locals := 0 } : Room)) (fun a_ U_ => a_ = #[(.ref o)] ∧ Z.Warmed39 U_.vm ∧ U_.heap = h0) (fun _ _ _ _ _ => True) (fun _ U_ o_ V_ => ∃ v_ L_, o_ = .returned v_ ∧ Q_own_lease Z o q h0 n0 v_ V_.heap L_ ∧ FrameEnd U_ o_ V_ L_ ({ frames := 0, cells := 0, slots := 0, locals := 0 } : Room).cells ({ frames := 0, cells := 0, slots := 0, locals := 0 } : Room).slots) := by
  refine MetFree.of_bodySF (plainFor_of_name own_pn2) hisR ?_
  intro p e s m args below meth c s₁ Bd hml0 hP hK
  obtain ⟨rfl, hZ, hh⟩ := hP
  have hx := Bd.exec
  have hby := Bd.bytes
  have hml : c.maxLocals = 1 := hml0
  have hown : s.vm.findClass "com/example/garmr/garmr/redis/GarmrOptions" = some m.cls := findClass_of_methodNamed Bd.named
  have hnm := (name_of_methodNamed Bd.named Bd.method).1
  have X0 : Stand p l e ({ frames := 0, cells := 0, slots := 0, locals := 0 } : Room) s m #[(.ref o)] below meth c s₁ [] 0 0 := Stand.of_body Bd
  have e0 : s₁.heap = h0 := by rw [← hh, Bd.state]; rfl
  have N0 := Fr.nil n0
  have KK0 := Keep.refl h0 ([] : List Addr)
  have cc0 : Steps p.tables e below (s₁.setTop (entryFrame m #[(.ref o)] 1)) (s₁.setTop (mkF m 0 #[.val (.ref o)] [])) := XT.entry rfl
  obtain ⟨S0', hS0'⟩ : ∃ S, S = (s₁.setTop (entryFrame m #[(.ref o)] 1)) := ⟨_, rfl⟩
  rw [← hS0'] at cc0
  have cc21 : Steps p.tables e below S0' (s₁.setTop (mkF m 1 #[.val (.ref o)] [(.ref o)])) := Steps.trans cc0 (by
    refine XS.aloadN X0.here hx rfl (own_d hby d9_0) rfl rfl ?_
    exact Steps.refl _)
  obtain ⟨T22, X22, e22, st22⟩ := getF X0 hx hZ hown (host := "") (Or.inl (hw _ (List.mem_of_getElem? (i := 34) rfl))) Via.refl e0 F1 (g := (mkF m 1 #[.val (.ref o)] [(.ref o)])) rfl rfl (own_d hby d9_1)
  have cc23 : Steps p.tables e below S0' (T22.setTop (mkF m 4 #[.val (.ref o)] [(.long q)])) := (cc21.trans (st22 _ (Steps.refl _)))
  have cE := cc23
  rw [hS0'] at cE
  obtain ⟨fs, hr, hrun, hended, hW, hsame⟩ := X22.leave (v := some (.long q)) (fun h => by rw [Bd.returns] at h; cases h)
  refine ⟨_, _, cE.trans (X22.lreturnOut hx Bd.returns (own_d hby d9_4) hr), hrun, hended, _, _, rfl, ?_, ⟨_, rfl⟩, hW, hsame.mono (by first | decide | omega) (by first | decide | omega)⟩
  show Q_own_lease Z o q h0 n0 _ T22.heap _
  rw [e22]
  exact ⟨rfl, N0, rfl⟩
theorem d10_0 : decode prog_14_method_7_code 0 = .ok (.aload_n 0, 1) := by decide +kernel
theorem d10_1 : decode prog_14_method_7_code 1 = .ok (.getfield 34, 3) := by decide +kernel
theorem d10_4 : decode prog_14_method_7_code 4 = .ok (.ireturn, 1) := by decide +kernel
def Q_own_isInt (Z : State) (o : Addr) (b : Int32) (h0 : Heap) (n0 : Nat) (v : Option Value) (h : Heap) (L : List Loc) : Prop := v = some (.int b) ∧ Fr n0 L ∧ h = h0
set_option maxRecDepth 65536 in
set_option maxHeartbeats 40000000 in
theorem own_isInt (l : Launch) (Z : State) (a0 : Array Value) (hw : ∀ d ∈ tables_1, d.before a0 Z = true) (o : Addr) (b : Int32) (h0 : Heap) (n0 : Nat) (Z0 : n0 ≤ h0.size) (hb : b = 0 ∨ b = 1) (F3 : Fld Z h0 o "com/example/garmr/garmr/redis/GarmrOptions" "interruptOnLost" "Z" (.int b)) :
    MetFree l (⟨"com/example/garmr/garmr/redis/GarmrOptions", "isInterruptOnLost", "()Z"⟩ : MethodName) (head1 [Jvm.Cond.code (⟨"com/example/garmr/garmr/redis/GarmrOptions", "isInterruptOnLost", "()Z"⟩ : MethodName) prog_14_method_7_code 1 (some .boolean)] ({ frames := 0, cells := 0, slots := 0, locals := 0 } : Room)) (fun a_ U_ => a_ = #[(.ref o)] ∧ Z.Warmed39 U_.vm ∧ U_.heap = h0) (fun _ _ _ _ _ => True) (fun _ U_ o_ V_ => ∃ v_ L_, o_ = .returned v_ ∧ Q_own_isInt Z o b h0 n0 v_ V_.heap L_ ∧ FrameEnd U_ o_ V_ L_ ({ frames := 0, cells := 0, slots := 0, locals := 0 } : Room).cells ({ frames := 0, cells := 0, slots := 0, locals := 0 } : Room).slots) := by
  refine MetFree.of_bodySF (plainFor_of_name own_pn2) hisR ?_
  intro p e s m args below meth c s₁ Bd hml0 hP hK
  obtain ⟨rfl, hZ, hh⟩ := hP
  have hx := Bd.exec
  have hby := Bd.bytes
  have hml : c.maxLocals = 1 := hml0
  have hown : s.vm.findClass "com/example/garmr/garmr/redis/GarmrOptions" = some m.cls := findClass_of_methodNamed Bd.named
  have hnm := (name_of_methodNamed Bd.named Bd.method).1
  have X0 : Stand p l e ({ frames := 0, cells := 0, slots := 0, locals := 0 } : Room) s m #[(.ref o)] below meth c s₁ [] 0 0 := Stand.of_body Bd
  have e0 : s₁.heap = h0 := by rw [← hh, Bd.state]; rfl
  have N0 := Fr.nil n0
  have KK0 := Keep.refl h0 ([] : List Addr)
  have cc0 : Steps p.tables e below (s₁.setTop (entryFrame m #[(.ref o)] 1)) (s₁.setTop (mkF m 0 #[.val (.ref o)] [])) := XT.entry rfl
  obtain ⟨S0', hS0'⟩ : ∃ S, S = (s₁.setTop (entryFrame m #[(.ref o)] 1)) := ⟨_, rfl⟩
  rw [← hS0'] at cc0
  have cc21 : Steps p.tables e below S0' (s₁.setTop (mkF m 1 #[.val (.ref o)] [(.ref o)])) := Steps.trans cc0 (by
    refine XS.aloadN X0.here hx rfl (own_d hby d10_0) rfl rfl ?_
    exact Steps.refl _)
  obtain ⟨T22, X22, e22, st22⟩ := getF X0 hx hZ hown (host := "") (Or.inl (hw _ (List.mem_of_getElem? (i := 48) rfl))) Via.refl e0 F3 (g := (mkF m 1 #[.val (.ref o)] [(.ref o)])) rfl rfl (own_d hby d10_1)
  have cc23 : Steps p.tables e below S0' (T22.setTop (mkF m 4 #[.val (.ref o)] [(.int b)])) := (cc21.trans (st22 _ (Steps.refl _)))
  have cE := cc23
  rw [hS0'] at cE
  obtain ⟨fs, hr, hrun, hended, hW, hsame⟩ := X22.leave (v := some (.int b)) (fun h => by rw [Bd.returns] at h; cases h)
  refine ⟨_, _, cE.trans (X22.ireturnOut hx Bd.returns (by rcases hb with rfl | rfl <;> rfl) (by simp) (own_d hby d10_4) hr), hrun, hended, _, _, rfl, ?_, ⟨_, rfl⟩, hW, hsame.mono (by first | decide | omega) (by first | decide | omega)⟩
  show Q_own_isInt Z o b h0 n0 _ T22.heap _
  rw [e22]
  exact ⟨rfl, N0, rfl⟩
def Q_own_law (Z : State) (p1 p2 p3 z : Int32) (h0 : Heap) (n0 : Nat) (v : Option Value) (h : Heap) (L : List Loc) : Prop := v = some (.int 1) ∧ Fr n0 L
set_option maxRecDepth 65536 in
set_option maxHeartbeats 40000000 in
theorem own_law (l : Launch) (Z : State) (a0 : Array Value) (hw : ∀ d ∈ tables_1, d.before a0 Z = true) (ws : List Jvm.Cond) (p1 p2 p3 z : Int32) (h0 : Heap) (n0 : Nat) (Z0 : n0 ≤ h0.size) (X00 : Old Z n0 h0) (O2 : Sta Z Z.heap "java/lang/String" "COMPACT_STRINGS" "Z" (.int z)) (P5 : ¬ z = 0) :
    MetFree l x (head1 (Jvm.Cond.code x code maxLocals ret :: ws) room_1) (fun a_ U_ => a_ = #[(.int p1), (.int p2), (.int p3)] ∧ Z.Warmed39 U_.vm ∧ U_.heap = h0 ∧ CHv Z EL U_.vm h0) (fun _ _ _ _ _ => True) (fun _ U_ o_ V_ => ∃ v_ L_, o_ = .returned v_ ∧ Q_own_law Z p1 p2 p3 z h0 n0 v_ V_.heap L_ ∧ CHr Z EL U_.vm U_.heap V_.vm V_.heap ∧ ReturnedEndW U_ o_ V_ L_ room_1.cells room_1.slots) := by
  refine MetFree.of_bodySF (plainFor_of_name own_pn1) hisR ?_
  intro p e s m args below meth c s₁ Bd hml0 hP hK
  obtain ⟨rfl, hZ, hh, hCH⟩ := hP
  have hx := Bd.exec
  have hby := Bd.bytes
  have hml : c.maxLocals = 11 := hml0
  have hown : s.vm.findClass "com/example/garmr/garmr/redis/GarmrOptionsRedisUriPinLaw" = some m.cls := findClass_of_methodNamed Bd.named
  have hnm := (name_of_methodNamed Bd.named Bd.method).1
  have X0 : Stand p l e room_1 (s.setVm s.vm) m #[(.int p1), (.int p2), (.int p3)] below meth c s₁ [] 0 0 := Stand.of_body Bd
  have e0 : s₁.heap = h0 := by rw [← hh, Bd.state]; rfl
  have N0 := Fr.nil n0
  have KK0 := Keep.refl h0 ([] : List Addr)
  have C0 := CHr.refl hCH
  have hS0 : s.Since s.vm 0 := (State.WarmedH.refl s).since 0
  have hk0 : 0 ≤ h0.size := Nat.zero_le _
  have hEL : EW Z a0 EL := own_EW hw
  have cc0 : Steps p.tables e below (s₁.setTop (entryFrame m #[(.int p1), (.int p2), (.int p3)] maxLocals)) (s₁.setTop (mkF m 0 #[.val (.int p1), .val (.int p2), .val (.int p3), .unset, .unset, .unset, .unset, .unset, .unset, .unset, .unset] [])) := XT.entry rfl
  obtain ⟨S0', hS0'⟩ : ∃ S, S = (s₁.setTop (entryFrame m #[(.int p1), (.int p2), (.int p3)] maxLocals)) := ⟨_, rfl⟩
  rw [← hS0'] at cc0
  have w_0 := hw _ (List.mem_of_getElem? (i := 0) rfl)
  have w_1 := hw _ (List.mem_of_getElem? (i := 1) rfl)
  have w_2 := hw _ (List.mem_of_getElem? (i := 2) rfl)
  have w_3 := hw _ (List.mem_of_getElem? (i := 3) rfl)
  have w_7 := hw _ (List.mem_of_getElem? (i := 7) rfl)
  have w_28 := hw _ (List.mem_of_getElem? (i := 28) rfl)
  have w_31 := hw _ (List.mem_of_getElem? (i := 31) rfl)
  have w_36 := hw _ (List.mem_of_getElem? (i := 36) rfl)
  have w_37 := hw _ (List.mem_of_getElem? (i := 37) rfl)
  have w_38 := hw _ (List.mem_of_getElem? (i := 38) rfl)
  have w_39 := hw _ (List.mem_of_getElem? (i := 39) rfl)
  have w_40 := hw _ (List.mem_of_getElem? (i := 40) rfl)
  have w_46 := hw _ (List.mem_of_getElem? (i := 46) rfl)
  have w_50 := hw _ (List.mem_of_getElem? (i := 50) rfl)
  have w_51 := hw _ (List.mem_of_getElem? (i := 51) rfl)
  have w_52 := hw _ (List.mem_of_getElem? (i := 52) rfl)
  have w_53 := hw _ (List.mem_of_getElem? (i := 53) rfl)
  have w_54 := hw _ (List.mem_of_getElem? (i := 54) rfl)
  have w_61 := hw _ (List.mem_of_getElem? (i := 61) rfl)
  have w_62 := hw _ (List.mem_of_getElem? (i := 62) rfl)
  have w_63 := hw _ (List.mem_of_getElem? (i := 63) rfl)
  have w_64 := hw _ (List.mem_of_getElem? (i := 64) rfl)
  have w_65 := hw _ (List.mem_of_getElem? (i := 65) rfl)
  have w_66 := hw _ (List.mem_of_getElem? (i := 66) rfl)
  have w_67 := hw _ (List.mem_of_getElem? (i := 67) rfl)
  have w_68 := hw _ (List.mem_of_getElem? (i := 68) rfl)
  have w_69 := hw _ (List.mem_of_getElem? (i := 69) rfl)
  have w_70 := hw _ (List.mem_of_getElem? (i := 70) rfl)
  have w_71 := hw _ (List.mem_of_getElem? (i := 71) rfl)
  have w_72 := hw _ (List.mem_of_getElem? (i := 72) rfl)
  have w_73 := hw _ (List.mem_of_getElem? (i := 73) rfl)
  have w_74 := hw _ (List.mem_of_getElem? (i := 74) rfl)
  have w_75 := hw _ (List.mem_of_getElem? (i := 75) rfl)
  have w_76 := hw _ (List.mem_of_getElem? (i := 76) rfl)
  have cc21 : Steps p.tables e below S0' (s₁.setTop (mkF m 3 #[.val (.int p1), .val (.int p2), .val (.int p3), .unset, .unset, .unset, .unset, .unset, .unset, .unset, .unset] [(.int (p3 &&& (1 : Int32)))])) := Steps.trans cc0 (by
    refine XS.iloadN X0.here hx rfl (own_d hby at_0) rfl ?_
    refine iconstV X0.here hx rfl 1 (own_d hby at_1) (by decide) ?_
    refine XS.iand X0.here hx rfl (own_d hby at_2) rfl ?_
    exact Steps.refl _)
  obtain ⟨bi, hbi, c_bi⟩ : ∃ bi : Int32, (bi = 0 ∧ p3 &&& (1 : Int32) = 0 ∨ bi = 1 ∧ ¬ p3 &&& (1 : Int32) = 0) ∧ Steps p.tables e below S0' (s₁.setTop (mkF m 11 #[.val (.int p1), .val (.int p2), .val (.int p3), .unset, .unset, .unset, .unset, .unset, .unset, .unset, .unset] [(.int bi)])) := by
    by_cases hq : p3 &&& (1 : Int32) = 0
    · refine ⟨0, Or.inl ⟨rfl, hq⟩, cc21.trans ?_⟩
      refine XS.ifYes X0.here hx rfl (pc0 := 3) rfl (own_d hby at_3) rfl (i0_eq_t hq) (by decide) rfl ?_
      refine iconstV X0.here hx rfl 0 (own_d hby at_10) (by decide) ?_
      exact Steps.refl _
    · refine ⟨1, Or.inr ⟨rfl, hq⟩, cc21.trans ?_⟩
      refine XS.ifNo X0.here hx rfl (own_d hby at_3) rfl (i0_eq_f hq) ?_
      refine iconstV X0.here hx rfl 1 (own_d hby at_6) (by decide) ?_
      refine XS.goto X0.here hx rfl (pc0 := 7) rfl (own_d hby at_7) (by decide) rfl ?_
      exact Steps.refl _
  have cc22 : Steps p.tables e below S0' (s₁.setTop (mkF m 15 #[.val (.int p1), .val (.int p2), .val (.int p3), .val (.int bi), .unset, .unset, .unset, .unset, .unset, .unset, .unset] [(.int (p3 &&& (2 : Int32)))])) := Steps.trans c_bi (by
    refine XS.istoreN X0.here hx rfl (own_d hby at_11) rfl rfl ?_
    refine XS.iloadN X0.here hx rfl (own_d hby at_12) rfl ?_
    refine iconstV X0.here hx rfl 2 (own_d hby at_13) (by decide) ?_
    refine XS.iand X0.here hx rfl (own_d hby at_14) rfl ?_
    exact Steps.refl _)
  obtain ⟨bt, hbt, c_bt⟩ : ∃ bt : Int32, (bt = 0 ∧ p3 &&& (2 : Int32) = 0 ∨ bt = 1 ∧ ¬ p3 &&& (2 : Int32) = 0) ∧ Steps p.tables e below S0' (s₁.setTop (mkF m 23 #[.val (.int p1), .val (.int p2), .val (.int p3), .val (.int bi), .unset, .unset, .unset, .unset, .unset, .unset, .unset] [(.int bt)])) := by
    by_cases hq : p3 &&& (2 : Int32) = 0
    · refine ⟨0, Or.inl ⟨rfl, hq⟩, cc22.trans ?_⟩
      refine XS.ifYes X0.here hx rfl (pc0 := 15) rfl (own_d hby at_15) rfl (i0_eq_t hq) (by decide) rfl ?_
      refine iconstV X0.here hx rfl 0 (own_d hby at_22) (by decide) ?_
      exact Steps.refl _
    · refine ⟨1, Or.inr ⟨rfl, hq⟩, cc22.trans ?_⟩
      refine XS.ifNo X0.here hx rfl (own_d hby at_15) rfl (i0_eq_f hq) ?_
      refine iconstV X0.here hx rfl 1 (own_d hby at_18) (by decide) ?_
      refine XS.goto X0.here hx rfl (pc0 := 19) rfl (own_d hby at_19) (by decide) rfl ?_
      exact Steps.refl _
  have hb : bi = 0 ∨ bi = 1 := hbi.imp And.left And.left
  have cc23 : Steps p.tables e below S0' (s₁.setTop (mkF m 26 #[.val (.int p1), .val (.int p2), .val (.int p3), .val (.int bi), .val (.int bt), .unset, .unset, .unset, .unset, .unset, .unset] [(.int p2)])) := Steps.trans c_bt (by
    refine XS.istore X0.here hx rfl (own_d hby at_23) rfl rfl ?_
    refine XS.iloadN X0.here hx rfl (own_d hby at_25) rfl ?_
    exact Steps.refl _)
  obtain ⟨_, _, ⟨T24, L24, k24, n24⟩, -, X24, hs24, gr24, ⟨Lc24, hQ24, l24, y24, z24, CH24⟩, st24⟩ := callSS X0 hx (y := (⟨"com/example/garmr/garmr/redis/GarmrOptionsRedisUriPinLaw", "draw", "(I)Ljava/lang/String;"⟩ : MethodName)) hown (mvT hZ w_0) (mvT hZ w_1) (mvT hZ w_2) (mvT hZ w_3) (by decide) (backOfSH (W := 0) (own_draw l Z a0 hw p2 z h0 n0 Z0 X00 O2 P5) hZ w_3 w_2 (by decide) (by decide) hEL C0.1) (g := (mkF m 26 #[.val (.int p1), .val (.int p2), .val (.int p3), .val (.int bi), .val (.int bt), .unset, .unset, .unset, .unset, .unset, .unset] [(.int p2)])) rfl (by rw [hml]; rfl) (argsL := [(.int p2)]) (rest := []) (lenOf own_pd3 rfl) rfl (by show 2 * 0 + _ ≤ _; exact Nat.le_of_eq rfl) (own_d hby at_26) (fun _ _ => ⟨rfl, e0, Nat.le_of_ble_eq_true rfl, Nat.le_of_ble_eq_true rfl⟩)
  dsimp only [Pt.U, Pt.locs, Pt.cells, Pt.slots] at X24 l24 y24 z24 st24 hQ24 hs24 gr24 CH24
  subst l24 y24 z24
  obtain ⟨f, rfl, Nq24, Kq24, sq24, Eq24⟩ := hQ24
  obtain ⟨Xr24, hS24, hZ24, hown24⟩ := rebS hS0 (by rw [e0]; exact hk0) X24 hs24 gr24 hZ hown
  have hk24 : T24.heap.size ≤ T24.heap.size := Nat.le_refl _
  have C24 := C0.trans CH24
  have N24 := Fr.app N0 Nq24
  have b_f : h0.size ≤ f := sq24
  have gn_f : n0 ≤ f := Nat.le_trans Z0 b_f
  have s0_f : h0.size ≤ f := Nat.le_trans KK0.1 b_f
  have KK1 : Keep h0 T24.heap ([] : List Addr) := KK0.trans Kq24 all0
  have Zs1 : n0 ≤ T24.heap.size := Nat.le_trans Z0 Kq24.1
  have e24 : T24.heap = T24.heap := rfl
  have cc26 : Steps p.tables e below S0' (T24.setTop (mkF m 32 #[.val (.int p1), .val (.int p2), .val (.int p3), .val (.int bi), .val (.int bt), .val (.ref f), .unset, .unset, .unset, .unset, .unset] [(.int p1)])) := Steps.trans (Steps.trans cc23 st24) (by
    refine XS.astore Xr24.here hx rfl (own_d hby at_29) rfl rfl rfl ?_
    refine XS.iloadN Xr24.here hx rfl (own_d hby at_31) rfl ?_
    exact Steps.refl _)
  have fa25 : Old Z n0 T24.heap := (X00.keep Kq24 all0)
  obtain ⟨_, _, ⟨T27, L27, k27, n27⟩, -, X27, hs27, gr27, ⟨Lc27, hQ27, l27, y27, z27, CH27⟩, st27⟩ := callSS Xr24 hx (y := (⟨"com/example/garmr/garmr/redis/GarmrOptionsRedisUriPinLaw", "draw", "(I)Ljava/lang/String;"⟩ : MethodName)) hown24 (mvT hZ24 w_0) (mvT hZ24 w_1) (mvT hZ24 w_2) (mvT hZ24 w_3) (by decide) (backOfSH (W := 0) (own_draw l Z a0 hw p1 z T24.heap n0 Zs1 fa25 O2 P5) hZ24 w_3 w_2 (by decide) (by decide) hEL C24.1) (g := (mkF m 32 #[.val (.int p1), .val (.int p2), .val (.int p3), .val (.int bi), .val (.int bt), .val (.ref f), .unset, .unset, .unset, .unset, .unset] [(.int p1)])) rfl (by rw [hml]; rfl) (argsL := [(.int p1)]) (rest := []) (lenOf own_pd3 rfl) rfl (by show 2 * 0 + _ ≤ _; exact Nat.le_of_eq rfl) (own_d hby at_32) (fun _ _ => ⟨rfl, e24, Nat.le_of_ble_eq_true rfl, Nat.le_of_ble_eq_true rfl⟩)
  dsimp only [Pt.U, Pt.locs, Pt.cells, Pt.slots] at X27 l27 y27 z27 st27 hQ27 hs27 gr27 CH27
  subst l27 y27 z27
  obtain ⟨q, rfl, Nq27, Kq27, sq27, Eq27⟩ := hQ27
  obtain ⟨Xr27, hS27, hZ27, hown27⟩ := rebS hS24 (by rw [e24]; exact hk24) X27 hs27 gr27 hZ24 hown24
  have hk27 : T27.heap.size ≤ T27.heap.size := Nat.le_refl _
  have C27 := C24.trans CH27
  have N27 := Fr.app N24 Nq27
  have b_q : T24.heap.size ≤ q := sq27
  have gn_q : n0 ≤ q := Nat.le_trans Zs1 b_q
  have s0_q : h0.size ≤ q := Nat.le_trans KK1.1 b_q
  have ne_f_q : f ≠ q := Nat.ne_of_lt (Nat.lt_of_lt_of_le Eq24.lt b_q)
  have KK2 : Keep h0 T27.heap ([] : List Addr) := KK1.trans Kq27 all0
  have Zs2 : n0 ≤ T27.heap.size := Nat.le_trans Zs1 Kq27.1
  have e27 : T27.heap = T27.heap := rfl
  have cc28 : Steps p.tables e below S0' (T27.setTop (mkF m 37 #[.val (.int p1), .val (.int p2), .val (.int p3), .val (.int bi), .val (.int bt), .val (.ref f), .val (.ref q), .unset, .unset, .unset, .unset] [])) := Steps.trans (Steps.trans cc26 st27) (by
    refine XS.astore Xr27.here hx rfl (own_d hby at_35) rfl rfl rfl ?_
    exact Steps.refl _)
  obtain ⟨T29, h29, X29, e29, E29, A29, D29, -, st29⟩ := newO Xr27 hx hZ27 hown27 (hw _ (List.mem_of_getElem? (i := 26) rfl)) (hw _ (List.mem_of_getElem? (i := 27) rfl)) w_28 e27 (g := (mkF m 37 #[.val (.int p1), .val (.int p2), .val (.int p3), .val (.int bi), .val (.int bt), .val (.ref f), .val (.ref q), .unset, .unset, .unset, .unset] [])) rfl (own_d hby at_37) (by decide) (by decide)
  obtain ⟨o, g_o⟩ : ∃ z, z = T27.heap.size := ⟨_, rfl⟩
  rw [← g_o] at A29 D29 st29
  have K29 := (Keep.refl T27.heap ([] : List Addr)).ext E29
  have b_o : T27.heap.size ≤ o := (Nat.le_of_eq g_o.symm)
  have gn_o : n0 ≤ o := Nat.le_trans Zs2 b_o
  have s0_o : h0.size ≤ o := Nat.le_trans KK2.1 b_o
  have fa30 : Exa Z T27.heap f "java/lang/String" := (Eq24.keep Kq27)
  have ne_f_o : f ≠ o := Nat.ne_of_lt (Nat.lt_of_lt_of_le fa30.lt b_o)
  have ne_q_o : q ≠ o := Nat.ne_of_lt (Nat.lt_of_lt_of_le Eq27.lt b_o)
  have D31 := CHr.ext E29 C27.1
  have C32 := C27.trans D31
  have sf_o : Safe Z EL T27.vm h29 o := Safe.ext E29 C27.1 (Safe.new b_o)
  have KK3 : Keep h0 h29 ([] : List Addr) := KK2.trans K29 all0
  have Zs3 : n0 ≤ h29.size := Nat.le_trans Zs2 K29.1
  have F_defaultLeaseMillis_o : Fld Z h29 o "com/example/garmr/garmr/redis/GarmrOptions" "defaultLeaseMillis" "J" (.long (0 : Int64)) := D29 (Or.inl (hw _ (List.mem_of_getElem? (i := 35) rfl))) (ty := .long) (by decide)
  have F_redisUri_o : Fld Z h29 o "com/example/garmr/garmr/redis/GarmrOptions" "redisUri" "Ljava/lang/String;" .null := D29 (Or.inl (hw _ (List.mem_of_getElem? (i := 42) rfl))) (ty := (.object "java/lang/String")) (by decide)
  have F_interruptOnLost_o : Fld Z h29 o "com/example/garmr/garmr/redis/GarmrOptions" "interruptOnLost" "Z" (.int (0 : Int32)) := D29 (Or.inl (hw _ (List.mem_of_getElem? (i := 49) rfl))) (ty := .boolean) (by decide)
  have cc33 : Steps p.tables e below S0' (T29.setTop (mkF m 41 #[.val (.int p1), .val (.int p2), .val (.int p3), .val (.int bi), .val (.int bt), .val (.ref f), .val (.ref q), .unset, .unset, .unset, .unset] [(.ref o), (.ref o)])) := Steps.trans (cc28.trans (st29 _ (Steps.refl _))) (by
    refine XS.dup X29.here hx rfl (own_d hby at_40) rfl rfl ?_
    exact Steps.refl _)
  obtain ⟨_, _, ⟨T34, L34, k34, n34⟩, -, X34, ⟨Lc34, hQ34, l34, y34, z34⟩, st34⟩ := X29.specialBack hx (y := (⟨"com/example/garmr/garmr/redis/GarmrOptions", "<init>", "()V"⟩ : MethodName)) rfl hown27 (mvT hZ27 (hw _ (List.mem_of_getElem? (i := 29) rfl))) (mvT hZ27 (hw _ (List.mem_of_getElem? (i := 30) rfl))) (mvT hZ27 w_31) (by decide) (backOf (W := 1) (own_oinit l Z a0 hw o h29 n0 Zs3 A29 F_defaultLeaseMillis_o F_redisUri_o F_interruptOnLost_o gn_o) hZ27 w_31 w_28 (by decide) (by decide)) (g := (mkF m 41 #[.val (.int p1), .val (.int p2), .val (.int p3), .val (.int bi), .val (.int bt), .val (.ref f), .val (.ref q), .unset, .unset, .unset, .unset] [(.ref o), (.ref o)])) rfl (by rw [hml]; rfl) (Steps.refl _) (a := o) (argsL := []) (rest := [(.ref o)]) (lenOf own_pd4 rfl) rfl (by show 2 * 0 + _ ≤ _; exact Nat.le_of_eq rfl) (own_d hby at_41) (fun _ _ => ⟨rfl, e29, Nat.le_of_ble_eq_true rfl, Nat.le_of_ble_eq_true rfl⟩)
  dsimp only [Pt.U, Pt.locs, Pt.cells, Pt.slots] at X34 l34 y34 z34 st34 hQ34
  subst l34 y34 z34
  obtain ⟨rfl, Nq34, Kq34, G134, G234, G334⟩ := hQ34
  have N34 := Fr.app N27 Nq34
  have D35 := CHr.keep Kq34 (sfS sf_o sf0) C32.1
  have C36 := C32.trans D35
  have KK4 : Keep h0 T34.heap ([] : List Addr) := KK3.trans Kq34 (allS (Or.inr s0_o) all0)
  have Zs4 : n0 ≤ T34.heap.size := Nat.le_trans Zs3 Kq34.1
  have e34 : T34.heap = T34.heap := rfl
  have cc38 : Steps p.tables e below S0' (T34.setTop (mkF m 48 #[.val (.int p1), .val (.int p2), .val (.int p3), .val (.int bi), .val (.int bt), .val (.ref f), .val (.ref q), .val (.ref o), .unset, .unset, .unset] [(.ref o)])) := Steps.trans (Steps.trans cc33 st34) (by
    refine XS.astore X34.here hx rfl (own_d hby at_44) rfl rfl rfl ?_
    refine XS.aload X34.here hx rfl (own_d hby at_46) rfl rfl ?_
    exact Steps.refl _)
  have fa37 : Exa Z T34.heap o "com/example/garmr/garmr/redis/GarmrOptions" := (A29.keep Kq34)
  obtain ⟨cq39, kq39, qa39, qb39, qc39⟩ := isOf hZ27 e34 fa37
  obtain ⟨_, _, ⟨T39, L39, k39, n39⟩, -, X39, ⟨Lc39, hQ39, l39, y39, z39⟩, st39⟩ := X34.virtualBack hx (y := (⟨"com/example/garmr/garmr/redis/GarmrOptions", "getRedisUri", "()Ljava/lang/String;"⟩ : MethodName)) (z := (⟨"com/example/garmr/garmr/redis/GarmrOptions", "getRedisUri", "()Ljava/lang/String;"⟩ : MethodName)) hown27 (mvT hZ27 w_36) (mvT hZ27 w_37) (notFace_of_selects (args := #[]) (mvT hZ27 w_39)) (mvT hZ27 w_39) (mvT hZ27 w_38) (by decide) (backOf (W := 0) (own_getUri l Z a0 hw o .null T34.heap n0 Zs4 rfl G234) hZ27 w_40 w_28 (by decide) (by decide)) qa39 qc39 (g := (mkF m 48 #[.val (.int p1), .val (.int p2), .val (.int p3), .val (.int bi), .val (.int bt), .val (.ref f), .val (.ref q), .val (.ref o), .unset, .unset, .unset] [(.ref o)])) rfl (by rw [hml]; rfl) (Steps.refl _) (argsL := []) (rest := []) (lenOf own_pd5 rfl) rfl (by show 2 * 0 + _ ≤ _; exact Nat.le_of_eq rfl) (own_d hby at_48) (fun _ _ => ⟨rfl, e34, Nat.le_of_ble_eq_true rfl, Nat.le_of_ble_eq_true rfl⟩)
  dsimp only [Pt.U, Pt.locs, Pt.cells, Pt.slots] at X39 l39 y39 z39 st39 hQ39
  subst l39 y39 z39
  obtain ⟨rfl, Nq39, eq39⟩ := hQ39
  have N39 := Fr.app N34 Nq39
  have e39 : T39.heap = T34.heap := eq39
  have cc40 : Steps p.tables e below S0' (T39.setTop (mkF m 64 #[.val (.int p1), .val (.int p2), .val (.int p3), .val (.int bi), .val (.int bt), .val (.ref f), .val (.ref q), .val (.ref o), .val (.int 1), .unset, .unset] [(.int bi), (.ref o)])) := Steps.trans (Steps.trans cc38 st39) (by
    refine XT.ifnonnullNo X39.here hx rfl (own_d hby at_51) rfl ?_
    refine iconstV X39.here hx rfl 1 (own_d hby at_54) (by decide) ?_
    refine XS.goto X39.here hx rfl (pc0 := 55) rfl (own_d hby at_55) (by decide) rfl ?_
    refine XS.istore X39.here hx rfl (own_d hby at_59) rfl rfl ?_
    refine XS.aload X39.here hx rfl (own_d hby at_61) rfl rfl ?_
    refine XS.iloadN X39.here hx rfl (own_d hby at_63) rfl ?_
    exact Steps.refl _)
  obtain ⟨cq41, kq41, qa41, qb41, qc41⟩ := isOf hZ27 e39 fa37
  obtain ⟨_, _, ⟨T41, L41, k41, n41⟩, -, X41, ⟨Lc41, hQ41, l41, y41, z41⟩, st41⟩ := X39.virtualBack hx (y := (⟨"com/example/garmr/garmr/redis/GarmrOptions", "interruptOnLost", "(Z)Lcom/example/garmr/garmr/redis/GarmrOptions;"⟩ : MethodName)) (z := (⟨"com/example/garmr/garmr/redis/GarmrOptions", "interruptOnLost", "(Z)Lcom/example/garmr/garmr/redis/GarmrOptions;"⟩ : MethodName)) hown27 (mvT hZ27 (hw _ (List.mem_of_getElem? (i := 43) rfl))) (mvT hZ27 (hw _ (List.mem_of_getElem? (i := 44) rfl))) (notFace_of_selects (args := #[]) (mvT hZ27 w_46)) (mvT hZ27 w_46) (mvT hZ27 (hw _ (List.mem_of_getElem? (i := 45) rfl))) (by decide) (backOf (W := 0) (own_setInt l Z a0 hw o bi T34.heap n0 Zs4 fa37 G134 G234 G334 gn_o hb) hZ27 (hw _ (List.mem_of_getElem? (i := 47) rfl)) w_28 (by decide) (by decide)) qa41 qc41 (g := (mkF m 64 #[.val (.int p1), .val (.int p2), .val (.int p3), .val (.int bi), .val (.int bt), .val (.ref f), .val (.ref q), .val (.ref o), .val (.int 1), .unset, .unset] [(.int bi), (.ref o)])) rfl (by rw [hml]; rfl) (Steps.refl _) (argsL := [(.int bi)]) (rest := []) (lenOf own_pd6 rfl) rfl (by show 2 * 0 + _ ≤ _; exact Nat.le_of_eq rfl) (own_d hby at_64) (fun _ _ => ⟨rfl, e39, Nat.le_of_ble_eq_true rfl, Nat.le_of_ble_eq_true rfl⟩)
  dsimp only [Pt.U, Pt.locs, Pt.cells, Pt.slots] at X41 l41 y41 z41 st41 hQ41
  subst l41 y41 z41
  obtain ⟨rfl, Nq41, Kq41, G141, G241, G341⟩ := hQ41
  have N41 := Fr.app N39 Nq41
  have sf42 := D35.safe A29.lt sf_o
  have lt43 := Nat.lt_of_lt_of_le A29.lt Kq34.1
  have D44 := CHr.keep Kq41 (sfS sf42 sf0) C36.1
  have C45 := C36.trans D44
  have KK5 : Keep h0 T41.heap ([] : List Addr) := KK4.trans Kq41 (allS (Or.inr s0_o) all0)
  have Zs5 : n0 ≤ T41.heap.size := Nat.le_trans Zs4 Kq41.1
  have e41 : T41.heap = T41.heap := rfl
  have cc46 : Steps p.tables e below S0' (T41.setTop (mkF m 70 #[.val (.int p1), .val (.int p2), .val (.int p3), .val (.int bi), .val (.int bt), .val (.ref f), .val (.ref q), .val (.ref o), .val (.int 1), .unset, .unset] [(.int bt)])) := Steps.trans (Steps.trans cc40 st41) (by
    refine XT.pop X41.here hx rfl (own_d hby at_67) rfl rfl ?_
    refine XS.iload X41.here hx rfl (own_d hby at_68) rfl ?_
    exact Steps.refl _)
  by_cases ht : bt = 0
  · skip
    have cc48 : Steps p.tables e below S0' (T41.setTop (mkF m 85 #[.val (.int p1), .val (.int p2), .val (.int p3), .val (.int bi), .val (.int bt), .val (.ref f), .val (.ref q), .val (.ref o), .val (.int 1), .unset, .unset] [(.ref q), (.ref o)])) := Steps.trans cc46 (by
      refine XS.ifYes X41.here hx rfl (pc0 := 70) rfl (own_d hby at_70) rfl (i0_eq_t ht) (by decide) rfl ?_
      refine XS.aload X41.here hx rfl (own_d hby at_81) rfl rfl ?_
      refine XS.aload X41.here hx rfl (own_d hby at_83) rfl rfl ?_
      exact Steps.refl _)
    have fa47 : Exa Z T41.heap o "com/example/garmr/garmr/redis/GarmrOptions" := (fa37.keep Kq41)
    have fa49 : Exa Z T41.heap q "java/lang/String" := (((Eq27.keep K29).keep Kq34).keep Kq41)
    obtain ⟨cq50, kq50, qa50, qb50, qc50⟩ := isOf hZ27 e41 fa47
    obtain ⟨_, _, ⟨T50, L50, k50, n50⟩, -, X50, hs50, gr50, ⟨Lc50, hQ50, l50, y50, z50, CH50⟩, st50⟩ := X41.virtualBackS hx (y := (⟨"com/example/garmr/garmr/redis/GarmrOptions", "redisUri", "(Ljava/lang/String;)Lcom/example/garmr/garmr/redis/GarmrOptions;"⟩ : MethodName)) (z := (⟨"com/example/garmr/garmr/redis/GarmrOptions", "redisUri", "(Ljava/lang/String;)Lcom/example/garmr/garmr/redis/GarmrOptions;"⟩ : MethodName)) hown27 (mvT hZ27 w_50) (mvT hZ27 w_51) (notFace_of_selects (args := #[]) (mvT hZ27 w_53)) (mvT hZ27 w_53) (mvT hZ27 w_52) (by decide) (backOfSH (W := 0) (own_setUri l Z a0 hw o q .null bi T41.heap n0 Zs5 fa47 G141 G241 G341 gn_o fa49) hZ27 w_54 w_28 (by decide) (by decide) hEL C45.1) qa50 qc50 (g := (mkF m 85 #[.val (.int p1), .val (.int p2), .val (.int p3), .val (.int bi), .val (.int bt), .val (.ref f), .val (.ref q), .val (.ref o), .val (.int 1), .unset, .unset] [(.ref q), (.ref o)])) rfl (by rw [hml]; rfl) (Steps.refl _) (argsL := [(.ref q)]) (rest := []) (lenOf own_pd7 rfl) rfl (by show 2 * 0 + _ ≤ _; exact Nat.le_of_eq rfl) (own_d hby at_85) (fun _ _ => ⟨rfl, e41, Nat.le_of_ble_eq_true rfl, Nat.le_of_ble_eq_true rfl⟩)
    dsimp only [Pt.U, Pt.locs, Pt.cells, Pt.slots] at X50 l50 y50 z50 st50 hQ50 hs50 gr50 CH50
    subst l50 y50 z50
    obtain ⟨rfl, Nq50, Kq50, G150, G250, G350⟩ := hQ50
    obtain ⟨Xr50, hS50, hZ50, hown50⟩ := rebS hS27 (by rw [e41]; exact (Nat.le_trans (Nat.le_trans (Nat.le_trans hk27 K29.1) Kq34.1) Kq41.1)) X50 hs50 gr50 hZ27 hown27
    have hk50 : T50.heap.size ≤ T50.heap.size := Nat.le_refl _
    have C50 := C45.trans CH50
    have N50 := Fr.app N41 Nq50
    have KK6 : Keep h0 T50.heap ([] : List Addr) := KK5.trans Kq50 (allS (Or.inr s0_o) all0)
    have Zs6 : n0 ≤ T50.heap.size := Nat.le_trans Zs5 Kq50.1
    have e50 : T50.heap = T50.heap := rfl
    have cc52 : Steps p.tables e below S0' (T50.setTop (mkF m 92 #[.val (.int p1), .val (.int p2), .val (.int p3), .val (.int bi), .val (.int bt), .val (.ref f), .val (.ref q), .val (.ref o), .val (.int 1), .val (.ref o), .unset] [(.ref o)])) := Steps.trans (Steps.trans cc48 st50) (by
      refine XS.astore Xr50.here hx rfl (own_d hby at_88) rfl rfl rfl ?_
      refine XS.aload Xr50.here hx rfl (own_d hby at_90) rfl rfl ?_
      exact Steps.refl _)
    have fa51 : Exa Z T50.heap o "com/example/garmr/garmr/redis/GarmrOptions" := (fa47.keep Kq50)
    obtain ⟨cq53, kq53, qa53, qb53, qc53⟩ := isOf hZ50 e50 fa51
    obtain ⟨_, _, ⟨T53, L53, k53, n53⟩, -, X53, ⟨Lc53, hQ53, l53, y53, z53⟩, st53⟩ := Xr50.virtualBack hx (y := (⟨"com/example/garmr/garmr/redis/GarmrOptions", "getRedisUri", "()Ljava/lang/String;"⟩ : MethodName)) (z := (⟨"com/example/garmr/garmr/redis/GarmrOptions", "getRedisUri", "()Ljava/lang/String;"⟩ : MethodName)) hown50 (mvT hZ50 w_36) (mvT hZ50 w_37) (notFace_of_selects (args := #[]) (mvT hZ50 w_39)) (mvT hZ50 w_39) (mvT hZ50 w_38) (by decide) (backOf (W := 0) (own_getUri l Z a0 hw o (.ref q) T50.heap n0 Zs6 rfl G250) hZ50 w_40 w_28 (by decide) (by decide)) qa53 qc53 (g := (mkF m 92 #[.val (.int p1), .val (.int p2), .val (.int p3), .val (.int bi), .val (.int bt), .val (.ref f), .val (.ref q), .val (.ref o), .val (.int 1), .val (.ref o), .unset] [(.ref o)])) rfl (by rw [hml]; rfl) (Steps.refl _) (argsL := []) (rest := []) (lenOf own_pd5 rfl) rfl (by show 2 * 0 + _ ≤ _; exact Nat.le_of_eq rfl) (own_d hby at_92) (fun _ _ => ⟨rfl, e50, Nat.le_of_ble_eq_true rfl, Nat.le_of_ble_eq_true rfl⟩)
    dsimp only [Pt.U, Pt.locs, Pt.cells, Pt.slots] at X53 l53 y53 z53 st53 hQ53
    subst l53 y53 z53
    obtain ⟨rfl, Nq53, eq53⟩ := hQ53
    have N53 := Fr.app N50 Nq53
    have e53 : T53.heap = T50.heap := eq53
    have cc55 : Steps p.tables e below S0' (T53.setTop (mkF m 130 #[.val (.int p1), .val (.int p2), .val (.int p3), .val (.int bi), .val (.int bt), .val (.ref f), .val (.ref q), .val (.ref o), .val (.int 1), .val (.ref o), .val (.ref q)] [(.ref q), (.ref q)])) := Steps.trans (Steps.trans cc52 st53) (by
      refine XS.astore X53.here hx rfl (own_d hby at_95) rfl rfl rfl ?_
      refine XS.iload X53.here hx rfl (own_d hby at_97) rfl ?_
      refine XS.ifNo X53.here hx rfl (own_d hby at_99) rfl (i0_eq_f (by decide)) ?_
      refine XS.aload X53.here hx rfl (own_d hby at_102) rfl rfl ?_
      refine XS.aload X53.here hx rfl (own_d hby at_104) rfl rfl ?_
      refine XT.acmpNo X53.here hx rfl (own_d hby at_106) rfl rfl rfl (aa_ne_f rfl) ?_
      refine iconstV X53.here hx rfl 1 (own_d hby at_109) (by decide) ?_
      refine XS.goto X53.here hx rfl (pc0 := 110) rfl (own_d hby at_110) (by decide) rfl ?_
      refine XS.istore X53.here hx rfl (own_d hby at_114) rfl rfl ?_
      refine XS.iload X53.here hx rfl (own_d hby at_116) rfl ?_
      refine XS.ifNo X53.here hx rfl (own_d hby at_118) rfl (i0_eq_f (by decide)) ?_
      refine XS.aload X53.here hx rfl (own_d hby at_121) rfl rfl ?_
      refine XS.ifnullNo X53.here hx rfl (own_d hby at_123) rfl ?_
      refine XS.aload X53.here hx rfl (own_d hby at_126) rfl rfl ?_
      refine XS.aload X53.here hx rfl (own_d hby at_128) rfl rfl ?_
      exact Steps.refl _)
    have fa54 : Exa Z T50.heap q "java/lang/String" := (fa49.keep Kq50)
    obtain ⟨cq56, kq56, qa56, qb56, qc56⟩ := isOf hZ50 e53 fa54
    obtain ⟨_, _, ⟨T56, L56, k56, n56⟩, -, X56, ⟨Lc56, hQ56, l56, y56, z56⟩, st56⟩ := X53.virtualBack hx (y := (⟨"java/lang/String", "equals", "(Ljava/lang/Object;)Z"⟩ : MethodName)) (z := (⟨"java/lang/String", "equals", "(Ljava/lang/Object;)Z"⟩ : MethodName)) hown50 (mvT hZ50 w_61) (mvT hZ50 w_62) (notFace_of_selects (args := #[]) (mvT hZ50 w_64)) (mvT hZ50 w_64) (mvT hZ50 w_63) (by decide) (backOf (W := 0) (own_same l Z a0 hw q T50.heap n0 Zs6 ) hZ50 w_65 w_7 (by decide) (by decide)) qa56 qc56 (g := (mkF m 130 #[.val (.int p1), .val (.int p2), .val (.int p3), .val (.int bi), .val (.int bt), .val (.ref f), .val (.ref q), .val (.ref o), .val (.int 1), .val (.ref o), .val (.ref q)] [(.ref q), (.ref q)])) rfl (by rw [hml]; rfl) (Steps.refl _) (argsL := [(.ref q)]) (rest := []) (lenOf own_pd8 rfl) rfl (by show 2 * 0 + _ ≤ _; exact Nat.le_of_eq rfl) (own_d hby at_130) (fun _ _ => ⟨rfl, e53, Nat.le_of_ble_eq_true rfl, Nat.le_of_ble_eq_true rfl⟩)
    dsimp only [Pt.U, Pt.locs, Pt.cells, Pt.slots] at X56 l56 y56 z56 st56 hQ56
    subst l56 y56 z56
    obtain ⟨rfl, Nq56, eq56⟩ := hQ56
    have N56 := Fr.app N53 Nq56
    have e56 : T56.heap = T50.heap := eq56
    have cc57 : Steps p.tables e below S0' (T56.setTop (mkF m 150 #[.val (.int p1), .val (.int p2), .val (.int p3), .val (.int bi), .val (.int bt), .val (.ref f), .val (.ref q), .val (.ref o), .val (.int 1), .val (.ref o), .val (.ref q)] [(.ref o)])) := Steps.trans (Steps.trans cc55 st56) (by
      refine XS.ifNo X56.here hx rfl (own_d hby at_133) rfl (i0_eq_f (by decide)) ?_
      refine iconstV X56.here hx rfl 1 (own_d hby at_136) (by decide) ?_
      refine XS.goto X56.here hx rfl (pc0 := 137) rfl (own_d hby at_137) (by decide) rfl ?_
      refine XS.istore X56.here hx rfl (own_d hby at_141) rfl rfl ?_
      refine XS.iload X56.here hx rfl (own_d hby at_143) rfl ?_
      refine XS.ifNo X56.here hx rfl (own_d hby at_145) rfl (i0_eq_f (by decide)) ?_
      refine XS.aload X56.here hx rfl (own_d hby at_148) rfl rfl ?_
      exact Steps.refl _)
    obtain ⟨cq58, kq58, qa58, qb58, qc58⟩ := isOf hZ50 e56 fa51
    obtain ⟨_, _, ⟨T58, L58, k58, n58⟩, -, X58, ⟨Lc58, hQ58, l58, y58, z58⟩, st58⟩ := X56.virtualBack hx (y := (⟨"com/example/garmr/garmr/redis/GarmrOptions", "getDefaultLeaseMillis", "()J"⟩ : MethodName)) (z := (⟨"com/example/garmr/garmr/redis/GarmrOptions", "getDefaultLeaseMillis", "()J"⟩ : MethodName)) hown50 (mvT hZ50 w_66) (mvT hZ50 w_67) (notFace_of_selects (args := #[]) (mvT hZ50 w_69)) (mvT hZ50 w_69) (mvT hZ50 w_68) (by decide) (backOf (W := 0) (own_lease l Z a0 hw o (30000 : Int64) T50.heap n0 Zs6 G150) hZ50 w_70 w_28 (by decide) (by decide)) qa58 qc58 (g := (mkF m 150 #[.val (.int p1), .val (.int p2), .val (.int p3), .val (.int bi), .val (.int bt), .val (.ref f), .val (.ref q), .val (.ref o), .val (.int 1), .val (.ref o), .val (.ref q)] [(.ref o)])) rfl (by rw [hml]; rfl) (Steps.refl _) (argsL := []) (rest := []) (lenOf own_pd9 rfl) rfl (by show 2 * 0 + _ ≤ _; exact Nat.le_of_eq rfl) (own_d hby at_150) (fun _ _ => ⟨rfl, e56, Nat.le_of_ble_eq_true rfl, Nat.le_of_ble_eq_true rfl⟩)
    dsimp only [Pt.U, Pt.locs, Pt.cells, Pt.slots] at X58 l58 y58 z58 st58 hQ58
    subst l58 y58 z58
    obtain ⟨rfl, Nq58, eq58⟩ := hQ58
    have N58 := Fr.app N56 Nq58
    have e58 : T58.heap = T50.heap := eq58
    have cc59 : Steps p.tables e below S0' (T58.setTop (mkF m 174 #[.val (.int p1), .val (.int p2), .val (.int p3), .val (.int bi), .val (.int bt), .val (.ref f), .val (.ref q), .val (.ref o), .val (.int 1), .val (.ref o), .val (.ref q)] [(.ref o)])) := Steps.trans (Steps.trans cc57 st58) (by
      refine X58.ldc2J hx hown50 (mvT hZ50 w_71) rfl (own_d hby at_153) ?_
      refine XT.lcmp X58.here hx rfl (own_d hby at_156) rfl ?_
      refine XS.ifNo X58.here hx rfl (own_d hby at_157) rfl (i0_ne_f (by decide)) ?_
      refine iconstV X58.here hx rfl 1 (own_d hby at_160) (by decide) ?_
      refine XS.goto X58.here hx rfl (pc0 := 161) rfl (own_d hby at_161) (by decide) rfl ?_
      refine XS.istore X58.here hx rfl (own_d hby at_165) rfl rfl ?_
      refine XS.iload X58.here hx rfl (own_d hby at_167) rfl ?_
      refine XS.ifNo X58.here hx rfl (own_d hby at_169) rfl (i0_eq_f (by decide)) ?_
      refine XS.aload X58.here hx rfl (own_d hby at_172) rfl rfl ?_
      exact Steps.refl _)
    obtain ⟨cq60, kq60, qa60, qb60, qc60⟩ := isOf hZ50 e58 fa51
    obtain ⟨_, _, ⟨T60, L60, k60, n60⟩, -, X60, ⟨Lc60, hQ60, l60, y60, z60⟩, st60⟩ := X58.virtualBack hx (y := (⟨"com/example/garmr/garmr/redis/GarmrOptions", "isInterruptOnLost", "()Z"⟩ : MethodName)) (z := (⟨"com/example/garmr/garmr/redis/GarmrOptions", "isInterruptOnLost", "()Z"⟩ : MethodName)) hown50 (mvT hZ50 w_72) (mvT hZ50 w_73) (notFace_of_selects (args := #[]) (mvT hZ50 w_75)) (mvT hZ50 w_75) (mvT hZ50 w_74) (by decide) (backOf (W := 0) (own_isInt l Z a0 hw o bi T50.heap n0 Zs6 hb G350) hZ50 w_76 w_28 (by decide) (by decide)) qa60 qc60 (g := (mkF m 174 #[.val (.int p1), .val (.int p2), .val (.int p3), .val (.int bi), .val (.int bt), .val (.ref f), .val (.ref q), .val (.ref o), .val (.int 1), .val (.ref o), .val (.ref q)] [(.ref o)])) rfl (by rw [hml]; rfl) (Steps.refl _) (argsL := []) (rest := []) (lenOf own_pd10 rfl) rfl (by show 2 * 0 + _ ≤ _; exact Nat.le_of_eq rfl) (own_d hby at_174) (fun _ _ => ⟨rfl, e58, Nat.le_of_ble_eq_true rfl, Nat.le_of_ble_eq_true rfl⟩)
    dsimp only [Pt.U, Pt.locs, Pt.cells, Pt.slots] at X60 l60 y60 z60 st60 hQ60
    subst l60 y60 z60
    obtain ⟨rfl, Nq60, eq60⟩ := hQ60
    have N60 := Fr.app N58 Nq60
    have e60 : T60.heap = T50.heap := eq60
    have cc61 : Steps p.tables e below S0' (T60.setTop (mkF m 190 #[.val (.int p1), .val (.int p2), .val (.int p3), .val (.int bi), .val (.int bt), .val (.ref f), .val (.ref q), .val (.ref o), .val (.int 1), .val (.ref o), .val (.ref q)] [(.int 1)])) := Steps.trans (Steps.trans cc59 st60) (by
      refine XS.iloadN X60.here hx rfl (own_d hby at_177) rfl ?_
      refine XS.icmpNo X60.here hx rfl (own_d hby at_178) rfl (ii_ne_f rfl) ?_
      refine iconstV X60.here hx rfl 1 (own_d hby at_181) (by decide) ?_
      refine XS.goto X60.here hx rfl (pc0 := 182) rfl (own_d hby at_182) (by decide) rfl ?_
      refine XS.istore X60.here hx rfl (own_d hby at_186) rfl rfl ?_
      refine XS.iload X60.here hx rfl (own_d hby at_188) rfl ?_
      exact Steps.refl _)
    have cE := cc61
    rw [hS0'] at cE
    obtain ⟨fs, hr, hrun, hended, hE⟩ := X60.leaveW hS50 (by rw [e60]; exact hk50) (v := some (.int 1)) (fun h => by rw [Bd.returns] at h; cases h)
    have CE := C50.trans (CHv.at X60 hZ50 hEL C50.1)
    refine ⟨_, _, cE.trans (X60.ireturnOut hx Bd.returns (rfl) (by simp) (own_d hby at_190) hr), hrun, hended, _, _, rfl, ?_, ?_, hE.1, hE.2.1, hE.2.2.1, hE.2.2.2.mono (by first | decide | omega) (by first | decide | omega)⟩
    · show Q_own_law Z p1 p2 p3 z h0 n0 _ T60.heap _
      rw [e60]
      exact ⟨rfl, N60⟩
    · rw [hh]
      show CHr Z EL s.vm h0 T60.vm T60.heap
      rw [e60]
      exact CE
  · skip
    have cc48 : Steps p.tables e below S0' (T41.setTop (mkF m 77 #[.val (.int p1), .val (.int p2), .val (.int p3), .val (.int bi), .val (.int bt), .val (.ref f), .val (.ref q), .val (.ref o), .val (.int 1), .unset, .unset] [(.ref f), (.ref o)])) := Steps.trans cc46 (by
      refine XS.ifNo X41.here hx rfl (own_d hby at_70) rfl (i0_eq_f ht) ?_
      refine XS.aload X41.here hx rfl (own_d hby at_73) rfl rfl ?_
      refine XS.aload X41.here hx rfl (own_d hby at_75) rfl rfl ?_
      exact Steps.refl _)
    have fa47 : Exa Z T41.heap o "com/example/garmr/garmr/redis/GarmrOptions" := (fa37.keep Kq41)
    have fa49 : Exa Z T41.heap f "java/lang/String" := (((fa30.keep K29).keep Kq34).keep Kq41)
    obtain ⟨cq50, kq50, qa50, qb50, qc50⟩ := isOf hZ27 e41 fa47
    obtain ⟨_, _, ⟨T50, L50, k50, n50⟩, -, X50, hs50, gr50, ⟨Lc50, hQ50, l50, y50, z50, CH50⟩, st50⟩ := X41.virtualBackS hx (y := (⟨"com/example/garmr/garmr/redis/GarmrOptions", "redisUri", "(Ljava/lang/String;)Lcom/example/garmr/garmr/redis/GarmrOptions;"⟩ : MethodName)) (z := (⟨"com/example/garmr/garmr/redis/GarmrOptions", "redisUri", "(Ljava/lang/String;)Lcom/example/garmr/garmr/redis/GarmrOptions;"⟩ : MethodName)) hown27 (mvT hZ27 w_50) (mvT hZ27 w_51) (notFace_of_selects (args := #[]) (mvT hZ27 w_53)) (mvT hZ27 w_53) (mvT hZ27 w_52) (by decide) (backOfSH (W := 0) (own_setUri l Z a0 hw o f .null bi T41.heap n0 Zs5 fa47 G141 G241 G341 gn_o fa49) hZ27 w_54 w_28 (by decide) (by decide) hEL C45.1) qa50 qc50 (g := (mkF m 77 #[.val (.int p1), .val (.int p2), .val (.int p3), .val (.int bi), .val (.int bt), .val (.ref f), .val (.ref q), .val (.ref o), .val (.int 1), .unset, .unset] [(.ref f), (.ref o)])) rfl (by rw [hml]; rfl) (Steps.refl _) (argsL := [(.ref f)]) (rest := []) (lenOf own_pd7 rfl) rfl (by show 2 * 0 + _ ≤ _; exact Nat.le_of_eq rfl) (own_d hby at_77) (fun _ _ => ⟨rfl, e41, Nat.le_of_ble_eq_true rfl, Nat.le_of_ble_eq_true rfl⟩)
    dsimp only [Pt.U, Pt.locs, Pt.cells, Pt.slots] at X50 l50 y50 z50 st50 hQ50 hs50 gr50 CH50
    subst l50 y50 z50
    obtain ⟨rfl, Nq50, Kq50, G150, G250, G350⟩ := hQ50
    obtain ⟨Xr50, hS50, hZ50, hown50⟩ := rebS hS27 (by rw [e41]; exact (Nat.le_trans (Nat.le_trans (Nat.le_trans hk27 K29.1) Kq34.1) Kq41.1)) X50 hs50 gr50 hZ27 hown27
    have hk50 : T50.heap.size ≤ T50.heap.size := Nat.le_refl _
    have C50 := C45.trans CH50
    have N50 := Fr.app N41 Nq50
    have KK6 : Keep h0 T50.heap ([] : List Addr) := KK5.trans Kq50 (allS (Or.inr s0_o) all0)
    have Zs6 : n0 ≤ T50.heap.size := Nat.le_trans Zs5 Kq50.1
    have e50 : T50.heap = T50.heap := rfl
    have cc52 : Steps p.tables e below S0' (T50.setTop (mkF m 85 #[.val (.int p1), .val (.int p2), .val (.int p3), .val (.int bi), .val (.int bt), .val (.ref f), .val (.ref q), .val (.ref o), .val (.int 1), .unset, .unset] [(.ref q), (.ref o)])) := Steps.trans (Steps.trans cc48 st50) (by
      refine XT.pop Xr50.here hx rfl (own_d hby at_80) rfl rfl ?_
      refine XS.aload Xr50.here hx rfl (own_d hby at_81) rfl rfl ?_
      refine XS.aload Xr50.here hx rfl (own_d hby at_83) rfl rfl ?_
      exact Steps.refl _)
    have fa51 : Exa Z T50.heap o "com/example/garmr/garmr/redis/GarmrOptions" := (fa47.keep Kq50)
    have fa53 : Exa Z T50.heap q "java/lang/String" := ((((Eq27.keep K29).keep Kq34).keep Kq41).keep Kq50)
    obtain ⟨cq54, kq54, qa54, qb54, qc54⟩ := isOf hZ50 e50 fa51
    obtain ⟨_, _, ⟨T54, L54, k54, n54⟩, -, X54, hs54, gr54, ⟨Lc54, hQ54, l54, y54, z54, CH54⟩, st54⟩ := Xr50.virtualBackS hx (y := (⟨"com/example/garmr/garmr/redis/GarmrOptions", "redisUri", "(Ljava/lang/String;)Lcom/example/garmr/garmr/redis/GarmrOptions;"⟩ : MethodName)) (z := (⟨"com/example/garmr/garmr/redis/GarmrOptions", "redisUri", "(Ljava/lang/String;)Lcom/example/garmr/garmr/redis/GarmrOptions;"⟩ : MethodName)) hown50 (mvT hZ50 w_50) (mvT hZ50 w_51) (notFace_of_selects (args := #[]) (mvT hZ50 w_53)) (mvT hZ50 w_53) (mvT hZ50 w_52) (by decide) (backOfSH (W := 0) (own_setUri l Z a0 hw o q (.ref f) bi T50.heap n0 Zs6 fa51 G150 G250 G350 gn_o fa53) hZ50 w_54 w_28 (by decide) (by decide) hEL C50.1) qa54 qc54 (g := (mkF m 85 #[.val (.int p1), .val (.int p2), .val (.int p3), .val (.int bi), .val (.int bt), .val (.ref f), .val (.ref q), .val (.ref o), .val (.int 1), .unset, .unset] [(.ref q), (.ref o)])) rfl (by rw [hml]; rfl) (Steps.refl _) (argsL := [(.ref q)]) (rest := []) (lenOf own_pd7 rfl) rfl (by show 2 * 0 + _ ≤ _; exact Nat.le_of_eq rfl) (own_d hby at_85) (fun _ _ => ⟨rfl, e50, Nat.le_of_ble_eq_true rfl, Nat.le_of_ble_eq_true rfl⟩)
    dsimp only [Pt.U, Pt.locs, Pt.cells, Pt.slots] at X54 l54 y54 z54 st54 hQ54 hs54 gr54 CH54
    subst l54 y54 z54
    obtain ⟨rfl, Nq54, Kq54, G154, G254, G354⟩ := hQ54
    obtain ⟨Xr54, hS54, hZ54, hown54⟩ := rebS hS50 (by rw [e50]; exact hk50) X54 hs54 gr54 hZ50 hown50
    have hk54 : T54.heap.size ≤ T54.heap.size := Nat.le_refl _
    have C54 := C50.trans CH54
    have N54 := Fr.app N50 Nq54
    have KK7 : Keep h0 T54.heap ([] : List Addr) := KK6.trans Kq54 (allS (Or.inr s0_o) all0)
    have Zs7 : n0 ≤ T54.heap.size := Nat.le_trans Zs6 Kq54.1
    have e54 : T54.heap = T54.heap := rfl
    have cc56 : Steps p.tables e below S0' (T54.setTop (mkF m 92 #[.val (.int p1), .val (.int p2), .val (.int p3), .val (.int bi), .val (.int bt), .val (.ref f), .val (.ref q), .val (.ref o), .val (.int 1), .val (.ref o), .unset] [(.ref o)])) := Steps.trans (Steps.trans cc52 st54) (by
      refine XS.astore Xr54.here hx rfl (own_d hby at_88) rfl rfl rfl ?_
      refine XS.aload Xr54.here hx rfl (own_d hby at_90) rfl rfl ?_
      exact Steps.refl _)
    have fa55 : Exa Z T54.heap o "com/example/garmr/garmr/redis/GarmrOptions" := (fa51.keep Kq54)
    obtain ⟨cq57, kq57, qa57, qb57, qc57⟩ := isOf hZ54 e54 fa55
    obtain ⟨_, _, ⟨T57, L57, k57, n57⟩, -, X57, ⟨Lc57, hQ57, l57, y57, z57⟩, st57⟩ := Xr54.virtualBack hx (y := (⟨"com/example/garmr/garmr/redis/GarmrOptions", "getRedisUri", "()Ljava/lang/String;"⟩ : MethodName)) (z := (⟨"com/example/garmr/garmr/redis/GarmrOptions", "getRedisUri", "()Ljava/lang/String;"⟩ : MethodName)) hown54 (mvT hZ54 w_36) (mvT hZ54 w_37) (notFace_of_selects (args := #[]) (mvT hZ54 w_39)) (mvT hZ54 w_39) (mvT hZ54 w_38) (by decide) (backOf (W := 0) (own_getUri l Z a0 hw o (.ref q) T54.heap n0 Zs7 rfl G254) hZ54 w_40 w_28 (by decide) (by decide)) qa57 qc57 (g := (mkF m 92 #[.val (.int p1), .val (.int p2), .val (.int p3), .val (.int bi), .val (.int bt), .val (.ref f), .val (.ref q), .val (.ref o), .val (.int 1), .val (.ref o), .unset] [(.ref o)])) rfl (by rw [hml]; rfl) (Steps.refl _) (argsL := []) (rest := []) (lenOf own_pd5 rfl) rfl (by show 2 * 0 + _ ≤ _; exact Nat.le_of_eq rfl) (own_d hby at_92) (fun _ _ => ⟨rfl, e54, Nat.le_of_ble_eq_true rfl, Nat.le_of_ble_eq_true rfl⟩)
    dsimp only [Pt.U, Pt.locs, Pt.cells, Pt.slots] at X57 l57 y57 z57 st57 hQ57
    subst l57 y57 z57
    obtain ⟨rfl, Nq57, eq57⟩ := hQ57
    have N57 := Fr.app N54 Nq57
    have e57 : T57.heap = T54.heap := eq57
    have cc59 : Steps p.tables e below S0' (T57.setTop (mkF m 130 #[.val (.int p1), .val (.int p2), .val (.int p3), .val (.int bi), .val (.int bt), .val (.ref f), .val (.ref q), .val (.ref o), .val (.int 1), .val (.ref o), .val (.ref q)] [(.ref q), (.ref q)])) := Steps.trans (Steps.trans cc56 st57) (by
      refine XS.astore X57.here hx rfl (own_d hby at_95) rfl rfl rfl ?_
      refine XS.iload X57.here hx rfl (own_d hby at_97) rfl ?_
      refine XS.ifNo X57.here hx rfl (own_d hby at_99) rfl (i0_eq_f (by decide)) ?_
      refine XS.aload X57.here hx rfl (own_d hby at_102) rfl rfl ?_
      refine XS.aload X57.here hx rfl (own_d hby at_104) rfl rfl ?_
      refine XT.acmpNo X57.here hx rfl (own_d hby at_106) rfl rfl rfl (aa_ne_f rfl) ?_
      refine iconstV X57.here hx rfl 1 (own_d hby at_109) (by decide) ?_
      refine XS.goto X57.here hx rfl (pc0 := 110) rfl (own_d hby at_110) (by decide) rfl ?_
      refine XS.istore X57.here hx rfl (own_d hby at_114) rfl rfl ?_
      refine XS.iload X57.here hx rfl (own_d hby at_116) rfl ?_
      refine XS.ifNo X57.here hx rfl (own_d hby at_118) rfl (i0_eq_f (by decide)) ?_
      refine XS.aload X57.here hx rfl (own_d hby at_121) rfl rfl ?_
      refine XS.ifnullNo X57.here hx rfl (own_d hby at_123) rfl ?_
      refine XS.aload X57.here hx rfl (own_d hby at_126) rfl rfl ?_
      refine XS.aload X57.here hx rfl (own_d hby at_128) rfl rfl ?_
      exact Steps.refl _)
    have fa58 : Exa Z T54.heap q "java/lang/String" := (fa53.keep Kq54)
    obtain ⟨cq60, kq60, qa60, qb60, qc60⟩ := isOf hZ54 e57 fa58
    obtain ⟨_, _, ⟨T60, L60, k60, n60⟩, -, X60, ⟨Lc60, hQ60, l60, y60, z60⟩, st60⟩ := X57.virtualBack hx (y := (⟨"java/lang/String", "equals", "(Ljava/lang/Object;)Z"⟩ : MethodName)) (z := (⟨"java/lang/String", "equals", "(Ljava/lang/Object;)Z"⟩ : MethodName)) hown54 (mvT hZ54 w_61) (mvT hZ54 w_62) (notFace_of_selects (args := #[]) (mvT hZ54 w_64)) (mvT hZ54 w_64) (mvT hZ54 w_63) (by decide) (backOf (W := 0) (own_same l Z a0 hw q T54.heap n0 Zs7 ) hZ54 w_65 w_7 (by decide) (by decide)) qa60 qc60 (g := (mkF m 130 #[.val (.int p1), .val (.int p2), .val (.int p3), .val (.int bi), .val (.int bt), .val (.ref f), .val (.ref q), .val (.ref o), .val (.int 1), .val (.ref o), .val (.ref q)] [(.ref q), (.ref q)])) rfl (by rw [hml]; rfl) (Steps.refl _) (argsL := [(.ref q)]) (rest := []) (lenOf own_pd8 rfl) rfl (by show 2 * 0 + _ ≤ _; exact Nat.le_of_eq rfl) (own_d hby at_130) (fun _ _ => ⟨rfl, e57, Nat.le_of_ble_eq_true rfl, Nat.le_of_ble_eq_true rfl⟩)
    dsimp only [Pt.U, Pt.locs, Pt.cells, Pt.slots] at X60 l60 y60 z60 st60 hQ60
    subst l60 y60 z60
    obtain ⟨rfl, Nq60, eq60⟩ := hQ60
    have N60 := Fr.app N57 Nq60
    have e60 : T60.heap = T54.heap := eq60
    have cc61 : Steps p.tables e below S0' (T60.setTop (mkF m 150 #[.val (.int p1), .val (.int p2), .val (.int p3), .val (.int bi), .val (.int bt), .val (.ref f), .val (.ref q), .val (.ref o), .val (.int 1), .val (.ref o), .val (.ref q)] [(.ref o)])) := Steps.trans (Steps.trans cc59 st60) (by
      refine XS.ifNo X60.here hx rfl (own_d hby at_133) rfl (i0_eq_f (by decide)) ?_
      refine iconstV X60.here hx rfl 1 (own_d hby at_136) (by decide) ?_
      refine XS.goto X60.here hx rfl (pc0 := 137) rfl (own_d hby at_137) (by decide) rfl ?_
      refine XS.istore X60.here hx rfl (own_d hby at_141) rfl rfl ?_
      refine XS.iload X60.here hx rfl (own_d hby at_143) rfl ?_
      refine XS.ifNo X60.here hx rfl (own_d hby at_145) rfl (i0_eq_f (by decide)) ?_
      refine XS.aload X60.here hx rfl (own_d hby at_148) rfl rfl ?_
      exact Steps.refl _)
    obtain ⟨cq62, kq62, qa62, qb62, qc62⟩ := isOf hZ54 e60 fa55
    obtain ⟨_, _, ⟨T62, L62, k62, n62⟩, -, X62, ⟨Lc62, hQ62, l62, y62, z62⟩, st62⟩ := X60.virtualBack hx (y := (⟨"com/example/garmr/garmr/redis/GarmrOptions", "getDefaultLeaseMillis", "()J"⟩ : MethodName)) (z := (⟨"com/example/garmr/garmr/redis/GarmrOptions", "getDefaultLeaseMillis", "()J"⟩ : MethodName)) hown54 (mvT hZ54 w_66) (mvT hZ54 w_67) (notFace_of_selects (args := #[]) (mvT hZ54 w_69)) (mvT hZ54 w_69) (mvT hZ54 w_68) (by decide) (backOf (W := 0) (own_lease l Z a0 hw o (30000 : Int64) T54.heap n0 Zs7 G154) hZ54 w_70 w_28 (by decide) (by decide)) qa62 qc62 (g := (mkF m 150 #[.val (.int p1), .val (.int p2), .val (.int p3), .val (.int bi), .val (.int bt), .val (.ref f), .val (.ref q), .val (.ref o), .val (.int 1), .val (.ref o), .val (.ref q)] [(.ref o)])) rfl (by rw [hml]; rfl) (Steps.refl _) (argsL := []) (rest := []) (lenOf own_pd9 rfl) rfl (by show 2 * 0 + _ ≤ _; exact Nat.le_of_eq rfl) (own_d hby at_150) (fun _ _ => ⟨rfl, e60, Nat.le_of_ble_eq_true rfl, Nat.le_of_ble_eq_true rfl⟩)
    dsimp only [Pt.U, Pt.locs, Pt.cells, Pt.slots] at X62 l62 y62 z62 st62 hQ62
    subst l62 y62 z62
    obtain ⟨rfl, Nq62, eq62⟩ := hQ62
    have N62 := Fr.app N60 Nq62
    have e62 : T62.heap = T54.heap := eq62
    have cc63 : Steps p.tables e below S0' (T62.setTop (mkF m 174 #[.val (.int p1), .val (.int p2), .val (.int p3), .val (.int bi), .val (.int bt), .val (.ref f), .val (.ref q), .val (.ref o), .val (.int 1), .val (.ref o), .val (.ref q)] [(.ref o)])) := Steps.trans (Steps.trans cc61 st62) (by
      refine X62.ldc2J hx hown54 (mvT hZ54 w_71) rfl (own_d hby at_153) ?_
      refine XT.lcmp X62.here hx rfl (own_d hby at_156) rfl ?_
      refine XS.ifNo X62.here hx rfl (own_d hby at_157) rfl (i0_ne_f (by decide)) ?_
      refine iconstV X62.here hx rfl 1 (own_d hby at_160) (by decide) ?_
      refine XS.goto X62.here hx rfl (pc0 := 161) rfl (own_d hby at_161) (by decide) rfl ?_
      refine XS.istore X62.here hx rfl (own_d hby at_165) rfl rfl ?_
      refine XS.iload X62.here hx rfl (own_d hby at_167) rfl ?_
      refine XS.ifNo X62.here hx rfl (own_d hby at_169) rfl (i0_eq_f (by decide)) ?_
      refine XS.aload X62.here hx rfl (own_d hby at_172) rfl rfl ?_
      exact Steps.refl _)
    obtain ⟨cq64, kq64, qa64, qb64, qc64⟩ := isOf hZ54 e62 fa55
    obtain ⟨_, _, ⟨T64, L64, k64, n64⟩, -, X64, ⟨Lc64, hQ64, l64, y64, z64⟩, st64⟩ := X62.virtualBack hx (y := (⟨"com/example/garmr/garmr/redis/GarmrOptions", "isInterruptOnLost", "()Z"⟩ : MethodName)) (z := (⟨"com/example/garmr/garmr/redis/GarmrOptions", "isInterruptOnLost", "()Z"⟩ : MethodName)) hown54 (mvT hZ54 w_72) (mvT hZ54 w_73) (notFace_of_selects (args := #[]) (mvT hZ54 w_75)) (mvT hZ54 w_75) (mvT hZ54 w_74) (by decide) (backOf (W := 0) (own_isInt l Z a0 hw o bi T54.heap n0 Zs7 hb G354) hZ54 w_76 w_28 (by decide) (by decide)) qa64 qc64 (g := (mkF m 174 #[.val (.int p1), .val (.int p2), .val (.int p3), .val (.int bi), .val (.int bt), .val (.ref f), .val (.ref q), .val (.ref o), .val (.int 1), .val (.ref o), .val (.ref q)] [(.ref o)])) rfl (by rw [hml]; rfl) (Steps.refl _) (argsL := []) (rest := []) (lenOf own_pd10 rfl) rfl (by show 2 * 0 + _ ≤ _; exact Nat.le_of_eq rfl) (own_d hby at_174) (fun _ _ => ⟨rfl, e62, Nat.le_of_ble_eq_true rfl, Nat.le_of_ble_eq_true rfl⟩)
    dsimp only [Pt.U, Pt.locs, Pt.cells, Pt.slots] at X64 l64 y64 z64 st64 hQ64
    subst l64 y64 z64
    obtain ⟨rfl, Nq64, eq64⟩ := hQ64
    have N64 := Fr.app N62 Nq64
    have e64 : T64.heap = T54.heap := eq64
    have cc65 : Steps p.tables e below S0' (T64.setTop (mkF m 190 #[.val (.int p1), .val (.int p2), .val (.int p3), .val (.int bi), .val (.int bt), .val (.ref f), .val (.ref q), .val (.ref o), .val (.int 1), .val (.ref o), .val (.ref q)] [(.int 1)])) := Steps.trans (Steps.trans cc63 st64) (by
      refine XS.iloadN X64.here hx rfl (own_d hby at_177) rfl ?_
      refine XS.icmpNo X64.here hx rfl (own_d hby at_178) rfl (ii_ne_f rfl) ?_
      refine iconstV X64.here hx rfl 1 (own_d hby at_181) (by decide) ?_
      refine XS.goto X64.here hx rfl (pc0 := 182) rfl (own_d hby at_182) (by decide) rfl ?_
      refine XS.istore X64.here hx rfl (own_d hby at_186) rfl rfl ?_
      refine XS.iload X64.here hx rfl (own_d hby at_188) rfl ?_
      exact Steps.refl _)
    have cE := cc65
    rw [hS0'] at cE
    obtain ⟨fs, hr, hrun, hended, hE⟩ := X64.leaveW hS54 (by rw [e64]; exact hk54) (v := some (.int 1)) (fun h => by rw [Bd.returns] at h; cases h)
    have CE := C54.trans (CHv.at X64 hZ54 hEL C54.1)
    refine ⟨_, _, cE.trans (X64.ireturnOut hx Bd.returns (rfl) (by simp) (own_d hby at_190) hr), hrun, hended, _, _, rfl, ?_, ?_, hE.1, hE.2.1, hE.2.2.1, hE.2.2.2.mono (by first | decide | omega) (by first | decide | omega)⟩
    · show Q_own_law Z p1 p2 p3 z h0 n0 _ T64.heap _
      rw [e64]
      exact ⟨rfl, N64⟩
    · rw [hh]
      show CHr Z EL s.vm h0 T64.vm T64.heap
      rw [e64]
      exact CE
theorem own_eqS {args : Array Value} {s : State} {C n d : String} {k : Int32} (h : (Jvm.Cond.eq (Term.static C n d) (Term.int k)).before args s = true) : (Term.static C n d).eval args s none [] s = some (.int k) := by
  have hv := Cond.before_iff.mp h
  obtain ⟨a, b, ha, hb, -, hk⟩ := cmp_v (Or.inl hv)
  obtain rfl : b = .int k := Option.some.inj (hb.symm.trans (Term.int_eval k))
  obtain ⟨z, rfl⟩ := hk
  have e : z = k := gotT (Cond.eq_ints ha (Term.int_eval k)) hv
  rw [ha, e]
set_option maxRecDepth 65536 in
set_option maxHeartbeats 40000000 in
theorem comes_1 {Post : Tables → Env → Array Value → State → Outcome → State → Prop} (hpost : ∀ tb e args s v u, (limb_1_1.after args s (.returned v) u = true ∧ limb_1_2.after args s (.returned v) u = true ∧ True) → ReturnedEndW s (.returned v) u (Jvm.fieldLocs frame_1_writes args s ++ Jvm.arrayLocs frame_1_arrays args s ++ Jvm.staticLocs frame_1_statics s) 32 2176 → Post tb e args s (.returned v) u) :
    ArmFor flags0 classFile x code maxLocals ret World_1 tables_1 room_1 Calls_1 rest_1 Pre_1 Post := by
  intro l hfl _ _ p e ha hc hk s m args below hf hA hF happ hP
  obtain ⟨hcalls, hrest, hpre⟩ := hP
  obtain ⟨-, -, -, hnamed, -, -, -, hat⟩ := (Spec.applies_iff hf).mp happ
  obtain ⟨hg, hn⟩ := and_e (Cond.before_iff.mp (show (Jvm.Cond.and given_1 narrow_1).before args s = true from hpre))
  obtain ⟨hcnt, g0⟩ := and_e hg
  obtain ⟨hi0, g1⟩ := and_e g0
  obtain ⟨hi1, g2⟩ := and_e g1
  obtain ⟨w0, w1, w2, rfl⟩ : ∃ w0 w1 w2 : Value, args = #[w0, w1, w2] := by
    have hs : args.size = 3 := by simpa [Cond.value, given_1] using hcnt
    obtain ⟨L⟩ := args
    match L, hs with
    | [w0, w1, w2], _ => exact ⟨w0, w1, w2, rfl⟩
  have hw := fun d (hd : d ∈ tables_1) => atoms_spec (ws := Jvm.Cond.code x code maxLocals ret :: tables_1) hat d (List.mem_cons_of_mem _ hd)
  obtain ⟨hsets, hown0⟩ := atoms_of _ (rest_1_c_eq ▸ (show rest_1_c.before _ s = true from hrest))
  obtain ⟨i0, e0⟩ := is_v hi0
  obtain rfl : w0 = (.int i0) := Option.some.inj e0
  obtain ⟨i1, e1⟩ := is_v hi1
  obtain rfl : w1 = (.int i1) := Option.some.inj e1
  obtain ⟨i2, e2⟩ := is_v g2
  obtain rfl : w2 = (.int i2) := Option.some.inj e2
  have n5 := not_v (Cond.before_iff.mp (hsets _ (List.mem_of_getElem? (i := 2) rfl)))
  obtain ⟨z, ez⟩ := is_v (Cond.before_iff.mp (hsets _ (List.mem_of_getElem? (i := 1) rfl)))
  have S12 : Sta s s.heap "java/lang/String" "COMPACT_STRINGS" "Z" (.int z) := Sta.start ez (Or.inl (hsets _ (List.mem_of_getElem? (i := 0) rfl)))
  have c17 : ¬ (z = (0 : Int32)) := gotF (Cond.eq_ints ez (Term.int_eval (0))) n5
  have hCH0 : CHv s EL s.vm s.heap := CHv.start (own_EW hw) (fun p hp => hcalls.1 p hp) (hsets _ (List.mem_of_getElem? (i := 2) rfl)) (hw _ (List.mem_of_getElem? (i := 19) rfl)) (hw _ (List.mem_of_getElem? (i := 6) rfl))
  obtain ⟨n, o, h1, h2, h3, _, L, rfl, ⟨rfl, N⟩, -, hq⟩ := own_law l s _ hw tables_1 i0 i1 i2 z s.heap s.heap.size (Nat.le_refl _) (Old.start s) S12 c17 p e ha hc hk s m _ below hf ((Spec.applies_iff_loose hf).mp happ).1 ⟨rfl, State.Warmed39.refl s, rfl, hCH0⟩ trivial
  refine ⟨n, _, h1, h2, h3, hpost _ _ _ _ _ _ ⟨Cond.after_iff.mpr rfl, Cond.after_iff.mpr (eq_i res_at (Term.int_eval (1)) rfl), trivial⟩ ⟨hq.1, hq.2.1, hq.2.2.1, (hq.2.2.2.sift fun y hy => Or.inr (N y hy)).mono (by decide) (by decide)⟩⟩
theorem main_1_1 : Claimed_1_1 := comes_1 fun _ _ _ _ _ _ h hF => ⟨h.1, hF⟩
theorem main_1_2 : Claimed_1_2 := comes_1 fun _ _ _ _ _ _ h hF => ⟨h.2.1, hF⟩
end Jvm.Pilot.@@N@@
namespace Jvm.Pilot.@@N@@
open Jvm Jvm.ClassFile Sem Op Lib Jvm.Free Jvm.Stand Jvm.Pilot.@@N@@.Jvm.D
/-! MADE BY PROGRAM (witnessworld.py) out of the Statement's table words and the real class files: 21 classes; the members and pool entries that the words name. The judged class is class 1, her method 2. -/
namespace start1
open Jvm.ClassFile
def u (s : String) : CpInfo := .utf8 (stringToUtf16 s)
/-- a pool by its gaps: so many unusable entries, then the entry; so many at the end -/
def gap : Nat → List CpInfo → List CpInfo
  | 0, r => r
  | n + 1, r => .unusable :: gap n r
def poolList (es : List (Nat × CpInfo)) (last : Nat) : List CpInfo := es.foldr (fun e r => gap e.1 (e.2 :: r)) (gap last [])
def pool (es : List (Nat × CpInfo)) (last : Nat) : Array CpInfo := ⟨poolList es last⟩
def fileOf (pool : Array CpInfo) (this : Nat) (attrs : Array Attribute := #[]) (ms : Array MethodInfo := #[]) (fl : Nat := 33) (sup : Nat := 0) (ifs : Array Nat := #[]) (fds : Array FieldInfo := #[]) : ClassFile where
  minorVersion := 0
  majorVersion := 65
  constantPool := pool
  accessFlags := fl
  thisClass := this
  superClass := sup
  interfaces := ifs
  fields := fds
  methods := ms
  attributes := attrs
def plain (name : String) (sup : Option ClassId) : Class where
  name := name
  kind := .ordinary
  loader := none
  accessFlags := 33
  super := sup
  interfaces := #[]
  cf := none
  fields := #[]
  methods := #[]
  instanceTypes := #[]
  staticTypes := #[]
  resolved := #[]
  callSites := []
  init := .initialized
  statics := none
  mirror := none

def pool0 : Array CpInfo := pool [(5, u "<init>"), (0, u "()V"), (1, .class_ 10), (1, u "java/lang/Object")] 113

def k0c0 : Code := { maxStack := 0, maxLocals := 1, code := object_method_1_code, exceptionTable := #[], attributes := #[] }
def k0m0 : Method := { name := "<init>", desc := "()V", sig := { parameters := [], returnType := none }, accessFlags := 1, code := some k0c0 }
/-- java/lang/Object -/
def k0 : Class := { plain "java/lang/Object" none with
  accessFlags := 33
  interfaces := #[]
  cf := some (fileOf pool0 8 #[] #[{ accessFlags := 1, nameIndex := 5, descriptorIndex := 6, attributes := #[] }] 33 0 #[] #[])
  fields := #[]
  methods := #[k0m0]
  instanceTypes := #[]
  staticTypes := #[]
  resolved := Array.replicate 124 none
  statics := none }

def pool1 : Array CpInfo := pool [(2, .class_ 4), (0, .nameAndType 5 6), (0, u "java/lang/Object"), (0, u "<init>"), (0, u "()V"), (0, .class_ 8), (0, u "java/lang/String"), (0, .methodref 7 10), (0, .nameAndType 5 11), (0, u "([C)V"), (0, .methodref 13 14), (0, .class_ 15), (0, .nameAndType 16 17), (0, u "com/example/garmr/garmr/redis/GarmrOptionsRedisUriPinLaw"), (0, u "draw"), (0, u "(I)Ljava/lang/String;"), (0, .class_ 19), (0, u "com/example/garmr/garmr/redis/GarmrOptions"), (0, .methodref 18 3), (0, .methodref 18 22), (0, .nameAndType 23 24), (0, u "getRedisUri"), (0, u "()Ljava/lang/String;"), (0, .methodref 18 26), (0, .nameAndType 27 28), (0, u "interruptOnLost"), (0, u "(Z)Lcom/example/garmr/garmr/redis/GarmrOptions;"), (0, .methodref 18 30), (0, .nameAndType 31 32), (0, u "redisUri"), (0, u "(Ljava/lang/String;)Lcom/example/garmr/garmr/redis/GarmrOptions;"), (0, .methodref 7 34), (0, .nameAndType 35 36), (0, u "equals"), (0, u "(Ljava/lang/Object;)Z"), (0, .methodref 18 38), (0, .nameAndType 39 40), (0, u "getDefaultLeaseMillis"), (0, u "()J"), (0, .long 30000), (1, .methodref 18 44), (0, .nameAndType 45 46), (0, u "isInterruptOnLost"), (0, u "()Z"), (5, u "law"), (0, u "(III)Z")] 2

def k1m0 : Method := { name := "<init>", desc := "()V", sig := { parameters := [], returnType := none }, accessFlags := 2, code := none }
def k1c1 : Code := { maxStack := 4, maxLocals := 3, code := method_2_code, exceptionTable := #[], attributes := #[] }
def k1m1 : Method := { name := "draw", desc := "(I)Ljava/lang/String;", sig := { parameters := [.int], returnType := some (.object "java/lang/String") }, accessFlags := 10, code := some k1c1 }
def k1c2 : Code := { maxStack := 4, maxLocals := 11, code := code, exceptionTable := #[], attributes := #[] }
def k1m2 : Method := { name := "law", desc := "(III)Z", sig := { parameters := [.int, .int, .int], returnType := some .boolean }, accessFlags := 9, code := some k1c2 }
/-- com/example/garmr/garmr/redis/GarmrOptionsRedisUriPinLaw -/
def k1 : Class := { plain "com/example/garmr/garmr/redis/GarmrOptionsRedisUriPinLaw" (some 0) with
  accessFlags := 49
  interfaces := #[]
  cf := some (fileOf pool1 13 #[] #[{ accessFlags := 2, nameIndex := 5, descriptorIndex := 6, attributes := #[] }, { accessFlags := 10, nameIndex := 16, descriptorIndex := 17, attributes := #[] }, { accessFlags := 9, nameIndex := 52, descriptorIndex := 53, attributes := #[] }] 49 2 #[] #[])
  fields := #[]
  methods := #[k1m0, k1m1, k1m2]
  instanceTypes := #[]
  staticTypes := #[]
  resolved := Array.replicate 56 none
  statics := none }

def pool2 : Array CpInfo := pool [(1, .class_ 2), (0, u "java/io/Serializable"), (0, .class_ 4), (0, u "java/lang/Object")] 2

/-- java/io/Serializable -/
def k2 : Class := { plain "java/io/Serializable" (some 0) with
  accessFlags := 1537
  interfaces := #[]
  cf := some (fileOf pool2 1 #[] #[] 1537 3 #[] #[])
  fields := #[]
  methods := #[]
  instanceTypes := #[]
  staticTypes := #[]
  resolved := Array.replicate 7 none
  statics := none }

def pool3 : Array CpInfo := pool [(1, .class_ 2), (0, u "java/lang/Comparable"), (0, .class_ 4), (0, u "java/lang/Object")] 7

/-- java/lang/Comparable -/
def k3 : Class := { plain "java/lang/Comparable" (some 0) with
  accessFlags := 1537
  interfaces := #[]
  cf := some (fileOf pool3 1 #[] #[] 1537 3 #[] #[])
  fields := #[]
  methods := #[]
  instanceTypes := #[]
  staticTypes := #[]
  resolved := Array.replicate 12 none
  statics := none }

def pool4 : Array CpInfo := pool [(2, .class_ 4), (1, u "java/lang/CharSequence"), (42, .class_ 48), (0, u "java/lang/CharSequence$1CodePointIterator"), (10, .class_ 60), (0, u "java/lang/CharSequence$1CharIterator"), (5, .class_ 67), (0, u "java/lang/Object")] 63

/-- java/lang/CharSequence -/
def k4 : Class := { plain "java/lang/CharSequence" (some 0) with
  accessFlags := 1537
  interfaces := #[]
  cf := some (fileOf pool4 2 #[.nestMembers #[47, 59]] #[] 1537 66 #[] #[])
  fields := #[]
  methods := #[]
  instanceTypes := #[]
  staticTypes := #[]
  resolved := Array.replicate 131 none
  statics := none }

def pool5 : Array CpInfo := pool [(1, .class_ 2), (0, u "java/lang/constant/Constable"), (0, .class_ 4), (0, u "java/lang/Object")] 6

/-- java/lang/constant/Constable -/
def k5 : Class := { plain "java/lang/constant/Constable" (some 0) with
  accessFlags := 1537
  interfaces := #[]
  cf := some (fileOf pool5 1 #[] #[] 1537 3 #[] #[])
  fields := #[]
  methods := #[]
  instanceTypes := #[]
  staticTypes := #[]
  resolved := Array.replicate 11 none
  statics := none }

def pool6 : Array CpInfo := pool [(1, .class_ 2), (0, u "java/lang/constant/ConstantDesc"), (0, .class_ 4), (0, u "java/lang/Object")] 32

/-- java/lang/constant/ConstantDesc -/
def k6 : Class := { plain "java/lang/constant/ConstantDesc" (some 0) with
  accessFlags := 1537
  interfaces := #[]
  cf := some (fileOf pool6 1 #[] #[] 1537 3 #[] #[])
  fields := #[]
  methods := #[]
  instanceTypes := #[]
  staticTypes := #[]
  resolved := Array.replicate 37 none
  statics := none }

def pool7 : Array CpInfo := pool [(1, .methodref 2 3), (0, .class_ 4), (0, .nameAndType 5 6), (0, u "java/lang/Object"), (0, u "<init>"), (0, u "()V"), (0, .string 8), (0, u ""), (0, .fieldref 10 11), (0, .class_ 12), (0, .nameAndType 13 14), (0, u "java/lang/String"), (0, u "value"), (0, u "[B"), (0, .fieldref 10 16), (0, .nameAndType 17 18), (0, u "coder"), (0, u "B"), (2, u "hash"), (0, u "I"), (2, u "hashIsZero"), (0, u "Z"), (0, .methodref 10 28), (0, .nameAndType 5 29), (0, u "([CIILjava/lang/Void;)V"), (8, .fieldref 10 39), (0, .nameAndType 40 26), (0, u "COMPACT_STRINGS"), (1, .class_ 44), (1, u "java/lang/StringUTF16"), (0, u "compress"), (1, .methodref 42 48), (0, .nameAndType 49 50), (0, u "coderFromArrayLen"), (0, u "([BI)B"), (126, .methodref 42 178), (0, .nameAndType 45 179), (0, u "([CII)[B"), (363, u "equals"), (29, u "(Ljava/lang/Object;)Z"), (1, .class_ 576), (0, u "java/lang/CharSequence"), (22, u "CASE_INSENSITIVE_ORDER"), (0, u "Ljava/util/Comparator;"), (409, u "([C)V"), (90, u "serialPersistentFields"), (0, u "[Ljava/io/ObjectStreamField;"), (0, .class_ 1104), (0, u "java/lang/String$CaseInsensitiveComparator"), (1, .class_ 1107), (0, u "java/io/Serializable"), (0, .class_ 1109), (0, u "java/lang/Comparable"), (0, .class_ 1111), (0, u "java/lang/constant/Constable"), (0, .class_ 1113), (0, u "java/lang/constant/ConstantDesc"), (2, u "serialVersionUID"), (0, u "J"), (3, u "REPL"), (0, u "C"), (2, u "LATIN1"), (1, u "UTF16")] 323

def k7m0 : Method := { name := "<init>", desc := "()V", sig := { parameters := [], returnType := none }, accessFlags := 1, code := none }
def k7c1 : Code := { maxStack := 5, maxLocals := 2, code := jdk_42_method_3_code, exceptionTable := #[], attributes := #[] }
def k7m1 : Method := { name := "<init>", desc := "([C)V", sig := { parameters := [(.array .char)], returnType := none }, accessFlags := 1, code := some k7c1 }
def k7c2 : Code := { maxStack := 2, maxLocals := 3, code := jdk_42_method_66_code, exceptionTable := #[], attributes := #[] }
def k7m2 : Method := { name := "equals", desc := "(Ljava/lang/Object;)Z", sig := { parameters := [(.object "java/lang/Object")], returnType := some .boolean }, accessFlags := 1, code := some k7c2 }
def k7c3 : Code := { maxStack := 4, maxLocals := 6, code := jdk_42_method_149_code, exceptionTable := #[], attributes := #[] }
def k7m3 : Method := { name := "<init>", desc := "([CIILjava/lang/Void;)V", sig := { parameters := [(.array .char), .int, .int, (.object "java/lang/Void")], returnType := none }, accessFlags := 2, code := some k7c3 }
/-- java/lang/String -/
def k7 : Class := { plain "java/lang/String" (some 0) with
  accessFlags := 49
  interfaces := #[2, 3, 4, 5, 6]
  cf := some (fileOf pool7 10 #[.nestMembers #[1103]] #[{ accessFlags := 1, nameIndex := 5, descriptorIndex := 6, attributes := #[] }, { accessFlags := 1, nameIndex := 5, descriptorIndex := 1010, attributes := #[] }, { accessFlags := 1, nameIndex := 543, descriptorIndex := 573, attributes := #[] }, { accessFlags := 2, nameIndex := 5, descriptorIndex := 29, attributes := #[] }] 49 2 #[1106, 1108, 575, 1110, 1112] #[{ accessFlags := 18, nameIndex := 13, descriptorIndex := 14, attributes := #[] }, { accessFlags := 18, nameIndex := 17, descriptorIndex := 18, attributes := #[] }, { accessFlags := 2, nameIndex := 21, descriptorIndex := 22, attributes := #[] }, { accessFlags := 2, nameIndex := 25, descriptorIndex := 26, attributes := #[] }, { accessFlags := 26, nameIndex := 1116, descriptorIndex := 1117, attributes := #[] }, { accessFlags := 24, nameIndex := 40, descriptorIndex := 26, attributes := #[] }, { accessFlags := 26, nameIndex := 1101, descriptorIndex := 1102, attributes := #[] }, { accessFlags := 26, nameIndex := 1121, descriptorIndex := 1122, attributes := #[] }, { accessFlags := 25, nameIndex := 599, descriptorIndex := 600, attributes := #[] }, { accessFlags := 24, nameIndex := 1125, descriptorIndex := 18, attributes := #[] }, { accessFlags := 24, nameIndex := 1127, descriptorIndex := 18, attributes := #[] }])
  fields := #[{ name := "value", type := (.array .byte), accessFlags := 18, slot := 0, constantValue := 0 }, { name := "coder", type := .byte, accessFlags := 18, slot := 1, constantValue := 0 }, { name := "hash", type := .int, accessFlags := 2, slot := 2, constantValue := 0 }, { name := "hashIsZero", type := .boolean, accessFlags := 2, slot := 3, constantValue := 0 }, { name := "serialVersionUID", type := .long, accessFlags := 26, slot := 0, constantValue := 0 }, { name := "COMPACT_STRINGS", type := .boolean, accessFlags := 24, slot := 1, constantValue := 0 }, { name := "serialPersistentFields", type := (.array (.object "java/io/ObjectStreamField")), accessFlags := 26, slot := 2, constantValue := 0 }, { name := "REPL", type := .char, accessFlags := 26, slot := 3, constantValue := 0 }, { name := "CASE_INSENSITIVE_ORDER", type := (.object "java/util/Comparator"), accessFlags := 25, slot := 4, constantValue := 0 }, { name := "LATIN1", type := .byte, accessFlags := 24, slot := 5, constantValue := 0 }, { name := "UTF16", type := .byte, accessFlags := 24, slot := 6, constantValue := 0 }]
  methods := #[k7m0, k7m1, k7m2, k7m3]
  instanceTypes := #[(.array .byte), .byte, .int, .boolean]
  staticTypes := #[.long, .boolean, (.array (.object "java/io/ObjectStreamField")), .char, (.object "java/util/Comparator"), .byte, .byte]
  resolved := Array.replicate 1451 none
  statics := some 0 }

def pool8 : Array CpInfo := pool [(1, .methodref 2 3), (0, .class_ 4), (0, .nameAndType 5 6), (0, u "java/lang/Object"), (0, u "<init>"), (0, u "()V"), (0, .long 30000), (1, .fieldref 10 11), (0, .class_ 12), (0, .nameAndType 13 14), (0, u "com/example/garmr/garmr/redis/GarmrOptions"), (0, u "defaultLeaseMillis"), (0, u "J"), (0, .string 16), (0, u "redisUri"), (0, .methodref 18 19), (0, .class_ 20), (0, .nameAndType 21 22), (0, u "java/util/Objects"), (0, u "requireNonNull"), (0, u "(Ljava/lang/Object;Ljava/lang/String;)Ljava/lang/Object;"), (0, .class_ 24), (0, u "java/lang/String"), (0, .fieldref 10 26), (0, .nameAndType 16 27), (0, u "Ljava/lang/String;"), (6, .fieldref 10 35), (0, .nameAndType 36 37), (0, u "interruptOnLost"), (0, u "Z"), (2, u "(Ljava/lang/String;)Lcom/example/garmr/garmr/redis/GarmrOptions;"), (2, u "(Z)Lcom/example/garmr/garmr/redis/GarmrOptions;"), (0, u "getRedisUri"), (0, u "()Ljava/lang/String;"), (0, u "getDefaultLeaseMillis"), (0, u "()J"), (0, u "isInterruptOnLost"), (0, u "()Z")] 2

def k8c0 : Code := { maxStack := 3, maxLocals := 1, code := prog_14_method_1_code, exceptionTable := #[], attributes := #[] }
def k8m0 : Method := { name := "<init>", desc := "()V", sig := { parameters := [], returnType := none }, accessFlags := 1, code := some k8c0 }
def k8c1 : Code := { maxStack := 3, maxLocals := 2, code := prog_14_method_2_code, exceptionTable := #[], attributes := #[] }
def k8m1 : Method := { name := "redisUri", desc := "(Ljava/lang/String;)Lcom/example/garmr/garmr/redis/GarmrOptions;", sig := { parameters := [(.object "java/lang/String")], returnType := some (.object "com/example/garmr/garmr/redis/GarmrOptions") }, accessFlags := 1, code := some k8c1 }
def k8c2 : Code := { maxStack := 2, maxLocals := 2, code := prog_14_method_4_code, exceptionTable := #[], attributes := #[] }
def k8m2 : Method := { name := "interruptOnLost", desc := "(Z)Lcom/example/garmr/garmr/redis/GarmrOptions;", sig := { parameters := [.boolean], returnType := some (.object "com/example/garmr/garmr/redis/GarmrOptions") }, accessFlags := 1, code := some k8c2 }
def k8c3 : Code := { maxStack := 1, maxLocals := 1, code := prog_14_method_5_code, exceptionTable := #[], attributes := #[] }
def k8m3 : Method := { name := "getRedisUri", desc := "()Ljava/lang/String;", sig := { parameters := [], returnType := some (.object "java/lang/String") }, accessFlags := 0, code := some k8c3 }
def k8c4 : Code := { maxStack := 2, maxLocals := 1, code := prog_14_method_6_code, exceptionTable := #[], attributes := #[] }
def k8m4 : Method := { name := "getDefaultLeaseMillis", desc := "()J", sig := { parameters := [], returnType := some .long }, accessFlags := 0, code := some k8c4 }
def k8c5 : Code := { maxStack := 1, maxLocals := 1, code := prog_14_method_7_code, exceptionTable := #[], attributes := #[] }
def k8m5 : Method := { name := "isInterruptOnLost", desc := "()Z", sig := { parameters := [], returnType := some .boolean }, accessFlags := 0, code := some k8c5 }
/-- com/example/garmr/garmr/redis/GarmrOptions -/
def k8 : Class := { plain "com/example/garmr/garmr/redis/GarmrOptions" (some 0) with
  accessFlags := 33
  interfaces := #[]
  cf := some (fileOf pool8 10 #[] #[{ accessFlags := 1, nameIndex := 5, descriptorIndex := 6, attributes := #[] }, { accessFlags := 1, nameIndex := 16, descriptorIndex := 40, attributes := #[] }, { accessFlags := 1, nameIndex := 36, descriptorIndex := 43, attributes := #[] }, { accessFlags := 0, nameIndex := 44, descriptorIndex := 45, attributes := #[] }, { accessFlags := 0, nameIndex := 46, descriptorIndex := 47, attributes := #[] }, { accessFlags := 0, nameIndex := 48, descriptorIndex := 49, attributes := #[] }] 33 2 #[] #[{ accessFlags := 2, nameIndex := 16, descriptorIndex := 27, attributes := #[] }, { accessFlags := 2, nameIndex := 13, descriptorIndex := 14, attributes := #[] }, { accessFlags := 2, nameIndex := 36, descriptorIndex := 37, attributes := #[] }])
  fields := #[{ name := "redisUri", type := (.object "java/lang/String"), accessFlags := 2, slot := 0, constantValue := 0 }, { name := "defaultLeaseMillis", type := .long, accessFlags := 2, slot := 1, constantValue := 0 }, { name := "interruptOnLost", type := .boolean, accessFlags := 2, slot := 2, constantValue := 0 }]
  methods := #[k8m0, k8m1, k8m2, k8m3, k8m4, k8m5]
  instanceTypes := #[(.object "java/lang/String"), .long, .boolean]
  staticTypes := #[]
  resolved := Array.replicate 52 none
  statics := none }

def pool9 : Array CpInfo := pool [(2, .class_ 4), (1, u "java/lang/Object"), (0, u "<init>"), (0, u "()V"), (35, .class_ 44), (1, u "java/util/Objects"), (0, u "requireNonNull"), (48, u "(Ljava/lang/Object;Ljava/lang/String;)Ljava/lang/Object;")] 89

def k9m0 : Method := { name := "<init>", desc := "()V", sig := { parameters := [], returnType := none }, accessFlags := 2, code := none }
def k9c1 : Code := { maxStack := 3, maxLocals := 2, code := jdk_31_method_11_code, exceptionTable := #[], attributes := #[] }
def k9m1 : Method := { name := "requireNonNull", desc := "(Ljava/lang/Object;Ljava/lang/String;)Ljava/lang/Object;", sig := { parameters := [(.object "java/lang/Object"), (.object "java/lang/String")], returnType := some (.object "java/lang/Object") }, accessFlags := 9, code := some k9c1 }
/-- java/util/Objects -/
def k9 : Class := { plain "java/util/Objects" (some 0) with
  accessFlags := 49
  interfaces := #[]
  cf := some (fileOf pool9 42 #[] #[{ accessFlags := 2, nameIndex := 5, descriptorIndex := 6, attributes := #[] }, { accessFlags := 9, nameIndex := 45, descriptorIndex := 94, attributes := #[] }] 49 2 #[] #[])
  fields := #[]
  methods := #[k9m0, k9m1]
  instanceTypes := #[]
  staticTypes := #[]
  resolved := Array.replicate 184 none
  statics := none }

def pool10 : Array CpInfo := pool [(6, .class_ 8), (1, u "java/lang/Object"), (0, u "<init>"), (0, u "()V"), (1, .class_ 14), (1, u "java/lang/StringUTF16"), (31, u "$assertionsDisabled"), (0, u "Z"), (13, u "HI_BYTE_SHIFT"), (0, u "I"), (2, u "LO_BYTE_SHIFT"), (49, .methodref 12 116), (0, .nameAndType 117 118), (0, u "compress"), (0, u "([CI[BII)I"), (3, u "([CII)[B"), (138, u "coderFromArrayLen"), (0, u "([BI)B"), (106, .class_ 371), (1, u "java/lang/StringUTF16$LinesSpliterator"), (58, u "MAX_LENGTH"), (196, .class_ 628), (0, u "java/lang/StringUTF16$CodePointsSpliterator"), (0, .class_ 630), (0, u "java/lang/StringUTF16$CharsSpliterator")] 4

def k10m0 : Method := { name := "<init>", desc := "()V", sig := { parameters := [], returnType := none }, accessFlags := 0, code := none }
def k10c1 : Code := { maxStack := 2, maxLocals := 2, code := jdk_52_method_15_code, exceptionTable := #[], attributes := #[] }
def k10m1 : Method := { name := "coderFromArrayLen", desc := "([BI)B", sig := { parameters := [(.array .byte), .int], returnType := some .byte }, accessFlags := 8, code := some k10c1 }
def k10c2 : Code := { maxStack := 5, maxLocals := 6, code := jdk_52_method_16_code, exceptionTable := #[], attributes := #[] }
def k10m2 : Method := { name := "compress", desc := "([CII)[B", sig := { parameters := [(.array .char), .int, .int], returnType := some (.array .byte) }, accessFlags := 9, code := some k10c2 }
def k10c3 : Code := { maxStack := 3, maxLocals := 7, code := jdk_52_method_21_code, exceptionTable := #[], attributes := #[] }
def k10m3 : Method := { name := "compress", desc := "([CI[BII)I", sig := { parameters := [(.array .char), .int, (.array .byte), .int, .int], returnType := some .int }, accessFlags := 9, code := some k10c3 }
/-- java/lang/StringUTF16 -/
def k10 : Class := { plain "java/lang/StringUTF16" (some 0) with
  accessFlags := 48
  interfaces := #[]
  cf := some (fileOf pool10 12 #[.nestMembers #[627, 629, 369]] #[{ accessFlags := 0, nameIndex := 9, descriptorIndex := 10, attributes := #[] }, { accessFlags := 8, nameIndex := 261, descriptorIndex := 262, attributes := #[] }, { accessFlags := 9, nameIndex := 117, descriptorIndex := 122, attributes := #[] }, { accessFlags := 9, nameIndex := 117, descriptorIndex := 118, attributes := #[] }] 48 6 #[] #[{ accessFlags := 26, nameIndex := 61, descriptorIndex := 62, attributes := #[] }, { accessFlags := 26, nameIndex := 65, descriptorIndex := 62, attributes := #[] }, { accessFlags := 24, nameIndex := 430, descriptorIndex := 62, attributes := #[] }, { accessFlags := 4120, nameIndex := 46, descriptorIndex := 47, attributes := #[] }])
  fields := #[{ name := "HI_BYTE_SHIFT", type := .int, accessFlags := 26, slot := 0, constantValue := 0 }, { name := "LO_BYTE_SHIFT", type := .int, accessFlags := 26, slot := 1, constantValue := 0 }, { name := "MAX_LENGTH", type := .int, accessFlags := 24, slot := 2, constantValue := 0 }, { name := "$assertionsDisabled", type := .boolean, accessFlags := 4120, slot := 3, constantValue := 0 }]
  methods := #[k10m0, k10m1, k10m2, k10m3]
  instanceTypes := #[]
  staticTypes := #[.int, .int, .int, .boolean]
  resolved := Array.replicate 635 none
  statics := none }

def pool11 : Array CpInfo := pool [(4, .class_ 6), (1, u "java/lang/Object"), (0, u "<init>"), (0, u "()V"), (5, .class_ 16), (1, u "java/lang/StringLatin1"), (104, u "$assertionsDisabled"), (0, u "Z"), (98, .class_ 223), (1, u "java/lang/StringLatin1$LinesSpliterator"), (166, .class_ 391), (0, u "java/lang/StringLatin1$CharsSpliterator")] 3

def k11m0 : Method := { name := "<init>", desc := "()V", sig := { parameters := [], returnType := none }, accessFlags := 0, code := none }
/-- java/lang/StringLatin1 -/
def k11 : Class := { plain "java/lang/StringLatin1" (some 0) with
  accessFlags := 48
  interfaces := #[]
  cf := some (fileOf pool11 14 #[.nestMembers #[390, 221]] #[{ accessFlags := 0, nameIndex := 7, descriptorIndex := 8, attributes := #[] }] 48 4 #[] #[{ accessFlags := 4120, nameIndex := 121, descriptorIndex := 122, attributes := #[] }])
  fields := #[{ name := "$assertionsDisabled", type := .boolean, accessFlags := 4120, slot := 0, constantValue := 0 }]
  methods := #[k11m0]
  instanceTypes := #[]
  staticTypes := #[.boolean]
  resolved := Array.replicate 395 none
  statics := none }

def pool12 : Array CpInfo := pool [(2, .class_ 4), (1, u "java/lang/Object"), (0, u "<init>"), (0, u "()V"), (17, .class_ 26), (1, u "jdk/internal/util/Preconditions"), (28, .class_ 56), (0, u "jdk/internal/util/Preconditions$4"), (57, .class_ 115), (0, u "jdk/internal/util/Preconditions$1"), (7, u "SIOOBE_FORMATTER"), (0, u "Ljava/util/function/BiFunction;"), (0, .class_ 126), (0, u "jdk/internal/util/Preconditions$2"), (3, u "AIOOBE_FORMATTER"), (0, .class_ 132), (0, u "jdk/internal/util/Preconditions$3"), (3, u "IOOBE_FORMATTER")] 57

def k12m0 : Method := { name := "<init>", desc := "()V", sig := { parameters := [], returnType := none }, accessFlags := 1, code := none }
/-- jdk/internal/util/Preconditions -/
def k12 : Class := { plain "jdk/internal/util/Preconditions" (some 0) with
  accessFlags := 33
  interfaces := #[]
  cf := some (fileOf pool12 24 #[.nestMembers #[55, 131, 125, 114]] #[{ accessFlags := 1, nameIndex := 5, descriptorIndex := 6, attributes := #[] }] 33 2 #[] #[{ accessFlags := 25, nameIndex := 123, descriptorIndex := 124, attributes := #[] }, { accessFlags := 25, nameIndex := 130, descriptorIndex := 124, attributes := #[] }, { accessFlags := 25, nameIndex := 136, descriptorIndex := 124, attributes := #[] }])
  fields := #[{ name := "SIOOBE_FORMATTER", type := (.object "java/util/function/BiFunction"), accessFlags := 25, slot := 0, constantValue := 0 }, { name := "AIOOBE_FORMATTER", type := (.object "java/util/function/BiFunction"), accessFlags := 25, slot := 1, constantValue := 0 }, { name := "IOOBE_FORMATTER", type := (.object "java/util/function/BiFunction"), accessFlags := 25, slot := 2, constantValue := 0 }]
  methods := #[k12m0]
  instanceTypes := #[]
  staticTypes := #[(.object "java/util/function/BiFunction"), (.object "java/util/function/BiFunction"), (.object "java/util/function/BiFunction")]
  resolved := Array.replicate 194 none
  statics := some 1 }

def pool13 : Array CpInfo := pool [(9, u "<init>"), (6, .class_ 18), (1, u "java/lang/Object"), (0, u "()V"), (1, .class_ 23), (1, u "jdk/internal/util/ArraysSupport"), (0, u "LOG2_ARRAY_LONG_INDEX_SCALE"), (0, u "I"), (2, u "U"), (0, u "Ljdk/internal/misc/Unsafe;"), (8, u "BIG_ENDIAN"), (0, u "Z"), (8, u "LOG2_BYTE_BIT_SIZE"), (4, u "LOG2_ARRAY_INT_INDEX_SCALE"), (54, u "JLA"), (0, u "Ljdk/internal/access/JavaLangAccess;"), (11, u "LOG2_ARRAY_BOOLEAN_INDEX_SCALE"), (9, u "LOG2_ARRAY_BYTE_INDEX_SCALE"), (5, u "LOG2_ARRAY_CHAR_INDEX_SCALE"), (5, u "LOG2_ARRAY_SHORT_INDEX_SCALE"), (18, u "LOG2_ARRAY_FLOAT_INDEX_SCALE"), (24, u "LOG2_ARRAY_DOUBLE_INDEX_SCALE"), (89, u "T_BOOLEAN"), (2, u "T_CHAR"), (1, u "T_FLOAT"), (1, u "T_DOUBLE"), (1, u "T_BYTE"), (1, u "T_SHORT"), (1, u "T_INT"), (1, u "T_LONG"), (1, u "SOFT_MAX_ARRAY_LENGTH")] 83

def k13m0 : Method := { name := "<init>", desc := "()V", sig := { parameters := [], returnType := none }, accessFlags := 2, code := none }
/-- jdk/internal/util/ArraysSupport -/
def k13 : Class := { plain "jdk/internal/util/ArraysSupport" (some 0) with
  accessFlags := 33
  interfaces := #[]
  cf := some (fileOf pool13 21 #[] #[{ accessFlags := 2, nameIndex := 9, descriptorIndex := 19, attributes := #[] }] 33 16 #[] #[{ accessFlags := 24, nameIndex := 28, descriptorIndex := 29, attributes := #[] }, { accessFlags := 26, nameIndex := 38, descriptorIndex := 39, attributes := #[] }, { accessFlags := 25, nameIndex := 121, descriptorIndex := 25, attributes := #[] }, { accessFlags := 25, nameIndex := 131, descriptorIndex := 25, attributes := #[] }, { accessFlags := 25, nameIndex := 137, descriptorIndex := 25, attributes := #[] }, { accessFlags := 25, nameIndex := 143, descriptorIndex := 25, attributes := #[] }, { accessFlags := 25, nameIndex := 53, descriptorIndex := 25, attributes := #[] }, { accessFlags := 25, nameIndex := 24, descriptorIndex := 25, attributes := #[] }, { accessFlags := 25, nameIndex := 162, descriptorIndex := 25, attributes := #[] }, { accessFlags := 25, nameIndex := 187, descriptorIndex := 25, attributes := #[] }, { accessFlags := 26, nameIndex := 48, descriptorIndex := 25, attributes := #[] }, { accessFlags := 25, nameIndex := 277, descriptorIndex := 25, attributes := #[] }, { accessFlags := 25, nameIndex := 280, descriptorIndex := 25, attributes := #[] }, { accessFlags := 25, nameIndex := 282, descriptorIndex := 25, attributes := #[] }, { accessFlags := 25, nameIndex := 284, descriptorIndex := 25, attributes := #[] }, { accessFlags := 25, nameIndex := 286, descriptorIndex := 25, attributes := #[] }, { accessFlags := 25, nameIndex := 288, descriptorIndex := 25, attributes := #[] }, { accessFlags := 25, nameIndex := 290, descriptorIndex := 25, attributes := #[] }, { accessFlags := 25, nameIndex := 292, descriptorIndex := 25, attributes := #[] }, { accessFlags := 26, nameIndex := 108, descriptorIndex := 109, attributes := #[] }, { accessFlags := 25, nameIndex := 294, descriptorIndex := 25, attributes := #[] }])
  fields := #[{ name := "U", type := (.object "jdk/internal/misc/Unsafe"), accessFlags := 24, slot := 0, constantValue := 0 }, { name := "BIG_ENDIAN", type := .boolean, accessFlags := 26, slot := 1, constantValue := 0 }, { name := "LOG2_ARRAY_BOOLEAN_INDEX_SCALE", type := .int, accessFlags := 25, slot := 2, constantValue := 0 }, { name := "LOG2_ARRAY_BYTE_INDEX_SCALE", type := .int, accessFlags := 25, slot := 3, constantValue := 0 }, { name := "LOG2_ARRAY_CHAR_INDEX_SCALE", type := .int, accessFlags := 25, slot := 4, constantValue := 0 }, { name := "LOG2_ARRAY_SHORT_INDEX_SCALE", type := .int, accessFlags := 25, slot := 5, constantValue := 0 }, { name := "LOG2_ARRAY_INT_INDEX_SCALE", type := .int, accessFlags := 25, slot := 6, constantValue := 0 }, { name := "LOG2_ARRAY_LONG_INDEX_SCALE", type := .int, accessFlags := 25, slot := 7, constantValue := 0 }, { name := "LOG2_ARRAY_FLOAT_INDEX_SCALE", type := .int, accessFlags := 25, slot := 8, constantValue := 0 }, { name := "LOG2_ARRAY_DOUBLE_INDEX_SCALE", type := .int, accessFlags := 25, slot := 9, constantValue := 0 }, { name := "LOG2_BYTE_BIT_SIZE", type := .int, accessFlags := 26, slot := 10, constantValue := 0 }, { name := "T_BOOLEAN", type := .int, accessFlags := 25, slot := 11, constantValue := 0 }, { name := "T_CHAR", type := .int, accessFlags := 25, slot := 12, constantValue := 0 }, { name := "T_FLOAT", type := .int, accessFlags := 25, slot := 13, constantValue := 0 }, { name := "T_DOUBLE", type := .int, accessFlags := 25, slot := 14, constantValue := 0 }, { name := "T_BYTE", type := .int, accessFlags := 25, slot := 15, constantValue := 0 }, { name := "T_SHORT", type := .int, accessFlags := 25, slot := 16, constantValue := 0 }, { name := "T_INT", type := .int, accessFlags := 25, slot := 17, constantValue := 0 }, { name := "T_LONG", type := .int, accessFlags := 25, slot := 18, constantValue := 0 }, { name := "JLA", type := (.object "jdk/internal/access/JavaLangAccess"), accessFlags := 26, slot := 19, constantValue := 0 }, { name := "SOFT_MAX_ARRAY_LENGTH", type := .int, accessFlags := 25, slot := 20, constantValue := 0 }]
  methods := #[k13m0]
  instanceTypes := #[]
  staticTypes := #[(.object "jdk/internal/misc/Unsafe"), .boolean, .int, .int, .int, .int, .int, .int, .int, .int, .int, .int, .int, .int, .int, .int, .int, .int, .int, (.object "jdk/internal/access/JavaLangAccess"), .int]
  resolved := Array.replicate 378 none
  statics := none }

def pool14 : Array CpInfo := pool [(1, u "java/lang/Cloneable"), (0, .class_ 1), (0, u "java/lang/Object"), (0, .class_ 3)] 3

/-- java/lang/Cloneable -/
def k14 : Class := { plain "java/lang/Cloneable" (some 0) with
  accessFlags := 1537
  interfaces := #[]
  cf := some (fileOf pool14 2 #[] #[] 1537 4 #[] #[])
  fields := #[]
  methods := #[]
  instanceTypes := #[]
  staticTypes := #[]
  resolved := Array.replicate 8 none
  statics := none }

/-- the primitive byte -/
def k15 : Class := { plain "byte" none with kind := .primitive 'B', accessFlags := 0x411 }
/-- [B -/
def k16 : Class := { plain "[B" (some 0) with kind := .array 15 .byte, interfaces := #[14, 2], accessFlags := 1041 }

/-- the primitive char -/
def k17 : Class := { plain "char" none with kind := .primitive 'C', accessFlags := 0x411 }
/-- [C -/
def k18 : Class := { plain "[C" (some 0) with kind := .array 17 .char, interfaces := #[14, 2], accessFlags := 1041 }

/-- the primitive int -/
def k19 : Class := { plain "int" none with kind := .primitive 'I', accessFlags := 0x411 }
/-- [I -/
def k20 : Class := { plain "[I" (some 0) with kind := .array 19 .int, interfaces := #[14, 2], accessFlags := 1041 }

def heap : Heap := #[{ cls := 7, slots := #[.long 0, .int 1, .null, .int 0, .null, .int 0, .int 0], vm := .statics 7 },
  { cls := 12, slots := #[.null, .null, .null], vm := .statics 12 }]
def classes : Array Class := #[k0, k1, k2, k3, k4, k5, k6, k7, k8, k9, k10, k11, k12, k13, k14, k15, k16, k17, k18, k19, k20]
def interned : List (Array UInt16 × Addr) := []
def slotsUsed : Nat := 10
def theMethod : MethodId := ⟨1, 2⟩
def args0 : Array Value := #[.int 5, .int 5, .int 5]
def aboutOver (below : List Frame) : State where
  vm := { classes := classes, interned := interned.toArray }
  heap := heap
  slotsUsed := slotsUsed
  threads := #[{ frames := .invoking theMethod args0 :: below }]
def below0 : List Frame := [.native { method := ⟨0, 0⟩, args := #[] }]
def about1 : State := aboutOver below0
def p0 : Program := .bare "" "" ""
def e0 : Env := launch0.env 0 0 0
theorem w_frames : about1.frames = Frame.invoking theMethod args0 :: below0 := rfl
set_option maxRecDepth 65536 in
theorem w_args : argsFit about1.vm theMethod args0 = true := by decide +kernel
set_option maxRecDepth 65536 in
theorem w_heap : heapFits about1 = true := by decide +kernel
set_option maxRecDepth 65536 in
theorem w_runnable : about1.curStatus? = some .runnable := by decide +kernel
set_option maxRecDepth 65536 in
theorem w_alone : about1.alone = true := by decide +kernel
set_option maxRecDepth 65536 in
theorem w_named : about1.methodNamed? x = some theMethod := by decide +kernel
set_option maxRecDepth 65536 in
theorem w_hears : about1.hears theMethod below0 = true := by decide +kernel
set_option maxRecDepth 65536 in
theorem w_ripe : about1.ripe theMethod args0 below0 = true := by decide +kernel
theorem w_running : about1.status = .running := rfl
set_option maxRecDepth 65536 in
theorem w_room : about1.hasRoom e0.platform room_1 = true :=
  launch0.hasRoom_least _ room_1 (by decide +kernel) (by decide +kernel) (by decide +kernel) (by decide +kernel) (by decide +kernel) (by decide +kernel)
theorem allAtoms_all (ts : List Jvm.Cond) (a : Array Jvm.Value) (st : Jvm.State) : (allAtoms ts).before a st = ts.all (fun c => c.before a st) := by
  induction ts with
  | nil => rfl
  | cons c t ih =>
    show (Jvm.Cond.and c (allAtoms t)).before a st = _
    rw [Jvm.Cond.before_and, ih, List.all_cons]
def words1 : List Jvm.Cond := Jvm.Cond.code x code maxLocals ret :: tables_1
/-- a 'code' word, met by the world's own term for the bytes: nothing is compared byte by byte -/
theorem code_word {y : MethodName} {bytes : ByteArray} {mx : Nat} {rt : Option FieldType} {a : Array Value} {s : State} {m : MethodId} {meth : Method} {c : Code} (h1 : s.methodNamed? y = some m) (h2 : s.vm.method? m = some meth) (h3 : meth.code = some c) (h4 : c.code = bytes)
    (h5 : (c.maxLocals == mx && c.exceptionTable.isEmpty && decide (c.maxStack ≤ mostOperands) && decide (meth.sig.returnType = rt) && !meth.locks && decide (parseMethodDescriptor y.desc = some meth.sig)) = true) : (Jvm.Cond.code y bytes mx rt).before a s = true := by
  simp only [Bool.and_eq_true, beq_iff_eq, Bool.not_eq_true', decide_eq_true_eq] at h5
  obtain ⟨⟨⟨⟨⟨g1, g2⟩, g3⟩, g4⟩, g5⟩, g6⟩ := h5
  simp [Cond.before, Cond.holds, Cond.value, h1, h2, h3, h4, g1, g2, g3, g4, g5, g6]
def isCode : Jvm.Cond → Bool
  | .code _ _ _ _ => true
  | _ => false
theorem all_split {L : List Jvm.Cond} {P : Jvm.Cond → Bool} (h1 : L.all (fun c => isCode c || P c) = true) (h2 : ∀ c ∈ L.filter isCode, P c = true) : L.all P = true := by
  refine List.all_eq_true.mpr fun c hc => ?_
  have h := List.all_eq_true.mp h1 c hc
  rcases Bool.eq_false_or_eq_true (isCode c) with hi | hi
  · exact h2 c (List.mem_filter.mpr ⟨hc, hi⟩)
  · simpa [hi] using h
set_option maxRecDepth 65536 in
theorem w_c0 : (Jvm.Cond.code x code maxLocals ret).before args0 about1 = true := code_word (m := ⟨1, 2⟩) (meth := k1m2) (c := k1c2) (by decide +kernel) rfl rfl rfl (by decide +kernel)
set_option maxRecDepth 65536 in
theorem w_c1 : (Jvm.Cond.code ({ cls := "com/example/garmr/garmr/redis/GarmrOptionsRedisUriPinLaw", name := "draw", desc := "(I)Ljava/lang/String;" } : Jvm.MethodName) method_2_code (3 : Nat) (Option.some (Jvm.ClassFile.FieldType.object "java/lang/String"))).before args0 about1 = true := code_word (m := ⟨1, 1⟩) (meth := k1m1) (c := k1c1) (by decide +kernel) rfl rfl rfl (by decide +kernel)
set_option maxRecDepth 65536 in
theorem w_c2 : (Jvm.Cond.code ({ cls := "java/lang/String", name := "<init>", desc := "([C)V" } : Jvm.MethodName) jdk_42_method_3_code (2 : Nat) (Option.none : Option Jvm.ClassFile.FieldType)).before args0 about1 = true := code_word (m := ⟨7, 1⟩) (meth := k7m1) (c := k7c1) (by decide +kernel) rfl rfl rfl (by decide +kernel)
set_option maxRecDepth 65536 in
theorem w_c3 : (Jvm.Cond.code ({ cls := "java/lang/String", name := "<init>", desc := "([CIILjava/lang/Void;)V" } : Jvm.MethodName) jdk_42_method_149_code (6 : Nat) (Option.none : Option Jvm.ClassFile.FieldType)).before args0 about1 = true := code_word (m := ⟨7, 3⟩) (meth := k7m3) (c := k7c3) (by decide +kernel) rfl rfl rfl (by decide +kernel)
set_option maxRecDepth 65536 in
theorem w_c4 : (Jvm.Cond.code ({ cls := "java/lang/Object", name := "<init>", desc := "()V" } : Jvm.MethodName) object_method_1_code (1 : Nat) (Option.none : Option Jvm.ClassFile.FieldType)).before args0 about1 = true := code_word (m := ⟨0, 0⟩) (meth := k0m0) (c := k0c0) (by decide +kernel) rfl rfl rfl (by decide +kernel)
set_option maxRecDepth 65536 in
theorem w_c5 : (Jvm.Cond.code ({ cls := "com/example/garmr/garmr/redis/GarmrOptions", name := "<init>", desc := "()V" } : Jvm.MethodName) prog_14_method_1_code (1 : Nat) (Option.none : Option Jvm.ClassFile.FieldType)).before args0 about1 = true := code_word (m := ⟨8, 0⟩) (meth := k8m0) (c := k8c0) (by decide +kernel) rfl rfl rfl (by decide +kernel)
set_option maxRecDepth 65536 in
theorem w_c6 : (Jvm.Cond.code ({ cls := "com/example/garmr/garmr/redis/GarmrOptions", name := "getRedisUri", desc := "()Ljava/lang/String;" } : Jvm.MethodName) prog_14_method_5_code (1 : Nat) (Option.some (Jvm.ClassFile.FieldType.object "java/lang/String"))).before args0 about1 = true := code_word (m := ⟨8, 3⟩) (meth := k8m3) (c := k8c3) (by decide +kernel) rfl rfl rfl (by decide +kernel)
set_option maxRecDepth 65536 in
theorem w_c7 : (Jvm.Cond.code ({ cls := "com/example/garmr/garmr/redis/GarmrOptions", name := "interruptOnLost", desc := "(Z)Lcom/example/garmr/garmr/redis/GarmrOptions;" } : Jvm.MethodName) prog_14_method_4_code (2 : Nat) (Option.some (Jvm.ClassFile.FieldType.object "com/example/garmr/garmr/redis/GarmrOptions"))).before args0 about1 = true := code_word (m := ⟨8, 2⟩) (meth := k8m2) (c := k8c2) (by decide +kernel) rfl rfl rfl (by decide +kernel)
set_option maxRecDepth 65536 in
theorem w_c8 : (Jvm.Cond.code ({ cls := "com/example/garmr/garmr/redis/GarmrOptions", name := "redisUri", desc := "(Ljava/lang/String;)Lcom/example/garmr/garmr/redis/GarmrOptions;" } : Jvm.MethodName) prog_14_method_2_code (2 : Nat) (Option.some (Jvm.ClassFile.FieldType.object "com/example/garmr/garmr/redis/GarmrOptions"))).before args0 about1 = true := code_word (m := ⟨8, 1⟩) (meth := k8m1) (c := k8c1) (by decide +kernel) rfl rfl rfl (by decide +kernel)
set_option maxRecDepth 65536 in
theorem w_c9 : (Jvm.Cond.code ({ cls := "java/util/Objects", name := "requireNonNull", desc := "(Ljava/lang/Object;Ljava/lang/String;)Ljava/lang/Object;" } : Jvm.MethodName) jdk_31_method_11_code (2 : Nat) (Option.some (Jvm.ClassFile.FieldType.object "java/lang/Object"))).before args0 about1 = true := code_word (m := ⟨9, 1⟩) (meth := k9m1) (c := k9c1) (by decide +kernel) rfl rfl rfl (by decide +kernel)
set_option maxRecDepth 65536 in
theorem w_c10 : (Jvm.Cond.code ({ cls := "java/lang/String", name := "equals", desc := "(Ljava/lang/Object;)Z" } : Jvm.MethodName) jdk_42_method_66_code (3 : Nat) (Option.some Jvm.ClassFile.FieldType.boolean)).before args0 about1 = true := code_word (m := ⟨7, 2⟩) (meth := k7m2) (c := k7c2) (by decide +kernel) rfl rfl rfl (by decide +kernel)
set_option maxRecDepth 65536 in
theorem w_c11 : (Jvm.Cond.code ({ cls := "com/example/garmr/garmr/redis/GarmrOptions", name := "getDefaultLeaseMillis", desc := "()J" } : Jvm.MethodName) prog_14_method_6_code (1 : Nat) (Option.some Jvm.ClassFile.FieldType.long)).before args0 about1 = true := code_word (m := ⟨8, 4⟩) (meth := k8m4) (c := k8c4) (by decide +kernel) rfl rfl rfl (by decide +kernel)
set_option maxRecDepth 65536 in
theorem w_c12 : (Jvm.Cond.code ({ cls := "com/example/garmr/garmr/redis/GarmrOptions", name := "isInterruptOnLost", desc := "()Z" } : Jvm.MethodName) prog_14_method_7_code (1 : Nat) (Option.some Jvm.ClassFile.FieldType.boolean)).before args0 about1 = true := code_word (m := ⟨8, 5⟩) (meth := k8m5) (c := k8c5) (by decide +kernel) rfl rfl rfl (by decide +kernel)
set_option maxRecDepth 65536 in
theorem w_c13 : (Jvm.Cond.code ({ cls := "java/lang/StringUTF16", name := "compress", desc := "([CII)[B" } : Jvm.MethodName) jdk_52_method_16_code (6 : Nat) (Option.some (Jvm.ClassFile.FieldType.array Jvm.ClassFile.FieldType.byte))).before args0 about1 = true := code_word (m := ⟨10, 2⟩) (meth := k10m2) (c := k10c2) (by decide +kernel) rfl rfl rfl (by decide +kernel)
set_option maxRecDepth 65536 in
theorem w_c14 : (Jvm.Cond.code ({ cls := "java/lang/StringUTF16", name := "compress", desc := "([CI[BII)I" } : Jvm.MethodName) jdk_52_method_21_code (7 : Nat) (Option.some Jvm.ClassFile.FieldType.int)).before args0 about1 = true := code_word (m := ⟨10, 3⟩) (meth := k10m3) (c := k10c3) (by decide +kernel) rfl rfl rfl (by decide +kernel)
set_option maxRecDepth 65536 in
theorem w_c15 : (Jvm.Cond.code ({ cls := "java/lang/StringUTF16", name := "coderFromArrayLen", desc := "([BI)B" } : Jvm.MethodName) jdk_52_method_15_code (2 : Nat) (Option.some Jvm.ClassFile.FieldType.byte)).before args0 about1 = true := code_word (m := ⟨10, 1⟩) (meth := k10m1) (c := k10c1) (by decide +kernel) rfl rfl rfl (by decide +kernel)
def codes1 : List Jvm.Cond := [Jvm.Cond.code x code maxLocals ret, Jvm.Cond.code ({ cls := "com/example/garmr/garmr/redis/GarmrOptionsRedisUriPinLaw", name := "draw", desc := "(I)Ljava/lang/String;" } : Jvm.MethodName) method_2_code (3 : Nat) (Option.some (Jvm.ClassFile.FieldType.object "java/lang/String")), Jvm.Cond.code ({ cls := "java/lang/String", name := "<init>", desc := "([C)V" } : Jvm.MethodName) jdk_42_method_3_code (2 : Nat) (Option.none : Option Jvm.ClassFile.FieldType), Jvm.Cond.code ({ cls := "java/lang/String", name := "<init>", desc := "([CIILjava/lang/Void;)V" } : Jvm.MethodName) jdk_42_method_149_code (6 : Nat) (Option.none : Option Jvm.ClassFile.FieldType), Jvm.Cond.code ({ cls := "java/lang/Object", name := "<init>", desc := "()V" } : Jvm.MethodName) object_method_1_code (1 : Nat) (Option.none : Option Jvm.ClassFile.FieldType), Jvm.Cond.code ({ cls := "com/example/garmr/garmr/redis/GarmrOptions", name := "<init>", desc := "()V" } : Jvm.MethodName) prog_14_method_1_code (1 : Nat) (Option.none : Option Jvm.ClassFile.FieldType), Jvm.Cond.code ({ cls := "com/example/garmr/garmr/redis/GarmrOptions", name := "getRedisUri", desc := "()Ljava/lang/String;" } : Jvm.MethodName) prog_14_method_5_code (1 : Nat) (Option.some (Jvm.ClassFile.FieldType.object "java/lang/String")), Jvm.Cond.code ({ cls := "com/example/garmr/garmr/redis/GarmrOptions", name := "interruptOnLost", desc := "(Z)Lcom/example/garmr/garmr/redis/GarmrOptions;" } : Jvm.MethodName) prog_14_method_4_code (2 : Nat) (Option.some (Jvm.ClassFile.FieldType.object "com/example/garmr/garmr/redis/GarmrOptions")), Jvm.Cond.code ({ cls := "com/example/garmr/garmr/redis/GarmrOptions", name := "redisUri", desc := "(Ljava/lang/String;)Lcom/example/garmr/garmr/redis/GarmrOptions;" } : Jvm.MethodName) prog_14_method_2_code (2 : Nat) (Option.some (Jvm.ClassFile.FieldType.object "com/example/garmr/garmr/redis/GarmrOptions")), Jvm.Cond.code ({ cls := "java/util/Objects", name := "requireNonNull", desc := "(Ljava/lang/Object;Ljava/lang/String;)Ljava/lang/Object;" } : Jvm.MethodName) jdk_31_method_11_code (2 : Nat) (Option.some (Jvm.ClassFile.FieldType.object "java/lang/Object")), Jvm.Cond.code ({ cls := "java/lang/String", name := "equals", desc := "(Ljava/lang/Object;)Z" } : Jvm.MethodName) jdk_42_method_66_code (3 : Nat) (Option.some Jvm.ClassFile.FieldType.boolean), Jvm.Cond.code ({ cls := "com/example/garmr/garmr/redis/GarmrOptions", name := "getDefaultLeaseMillis", desc := "()J" } : Jvm.MethodName) prog_14_method_6_code (1 : Nat) (Option.some Jvm.ClassFile.FieldType.long), Jvm.Cond.code ({ cls := "com/example/garmr/garmr/redis/GarmrOptions", name := "isInterruptOnLost", desc := "()Z" } : Jvm.MethodName) prog_14_method_7_code (1 : Nat) (Option.some Jvm.ClassFile.FieldType.boolean), Jvm.Cond.code ({ cls := "java/lang/StringUTF16", name := "compress", desc := "([CII)[B" } : Jvm.MethodName) jdk_52_method_16_code (6 : Nat) (Option.some (Jvm.ClassFile.FieldType.array Jvm.ClassFile.FieldType.byte)), Jvm.Cond.code ({ cls := "java/lang/StringUTF16", name := "compress", desc := "([CI[BII)I" } : Jvm.MethodName) jdk_52_method_21_code (7 : Nat) (Option.some Jvm.ClassFile.FieldType.int), Jvm.Cond.code ({ cls := "java/lang/StringUTF16", name := "coderFromArrayLen", desc := "([BI)B" } : Jvm.MethodName) jdk_52_method_15_code (2 : Nat) (Option.some Jvm.ClassFile.FieldType.byte)]
set_option maxRecDepth 65536 in
theorem codes_eq : words1.filter isCode = codes1 := rfl
theorem w_codes : ∀ c ∈ words1.filter isCode, c.before args0 about1 = true := by
  rw [codes_eq]
  intro c hc
  simp only [codes1, List.mem_cons, List.not_mem_nil, or_false] at hc
  rcases hc with rfl | rfl | rfl | rfl | rfl | rfl | rfl | rfl | rfl | rfl | rfl | rfl | rfl | rfl | rfl | rfl
  · exact w_c0
  · exact w_c1
  · exact w_c2
  · exact w_c3
  · exact w_c4
  · exact w_c5
  · exact w_c6
  · exact w_c7
  · exact w_c8
  · exact w_c9
  · exact w_c10
  · exact w_c11
  · exact w_c12
  · exact w_c13
  · exact w_c14
  · exact w_c15
set_option maxRecDepth 65536 in
theorem w_t1 : (words1.take 24).all (fun c => isCode c || c.before args0 about1) = true := by decide +kernel
set_option maxRecDepth 65536 in
theorem w_t2 : ((words1.drop 24).take 24).all (fun c => isCode c || c.before args0 about1) = true := by decide +kernel
set_option maxRecDepth 65536 in
theorem w_t3 : (((words1.drop 24).drop 24).take 24).all (fun c => isCode c || c.before args0 about1) = true := by decide +kernel
set_option maxRecDepth 65536 in
theorem w_t4 : (((words1.drop 24).drop 24).drop 24).all (fun c => isCode c || c.before args0 about1) = true := by decide +kernel
theorem w_tables : (allAtoms (Jvm.Cond.code x code maxLocals ret :: tables_1)).before args0 about1 = true := by
  rw [allAtoms_all]
  show words1.all (fun c => c.before args0 about1) = true
  refine all_split ?_ w_codes
  rw [← List.take_append_drop 24 words1, List.all_append, w_t1, ← List.take_append_drop 24 (words1.drop 24), List.all_append, w_t2, ← List.take_append_drop 24 ((words1.drop 24).drop 24), List.all_append, w_t3, w_t4]
  rfl
set_option maxRecDepth 65536 in
theorem w_rest : rest_1_c.before args0 about1 = true := by decide +kernel
set_option maxRecDepth 65536 in
theorem w_case : (Jvm.Cond.and given_1 narrow_1).before args0 about1 = true := by decide +kernel
set_option maxRecDepth 65536 in
theorem w_consts : constsHeld consts_1 about1 := Jvm.Lit.constsHeldB_iff.mp (by decide +kernel)
theorem w_applies : (headSpec (Jvm.Cond.code x code maxLocals ret :: tables_1) room_1).applies x e0.platform about1 = true :=
  (Spec.applies_iff w_frames).mpr ⟨w_running, w_runnable, w_alone, w_named, w_hears, w_ripe, w_room, w_tables⟩
theorem atStart : AtStart classFile x code maxLocals ret World_1 tables_1 room_1 Calls_1 rest_1 Pre_1 launch0 p0 e0 about1 theMethod args0 below0 :=
  ⟨lists_1, trivial, launch0.admits_env _ _ _, launch0.least_env, fairChoices_fair.cas, fairChoices_fair.clock, w_frames, w_args, w_heap, w_applies, ⟨w_consts, trivial⟩, w_rest, w_case⟩
end start1
theorem witness_1 : WitnessClaimed_1 := ⟨start1.p0, start1.e0, start1.about1, start1.theMethod, start1.args0, start1.below0, start1.atStart⟩
end Jvm.Pilot.@@N@@
