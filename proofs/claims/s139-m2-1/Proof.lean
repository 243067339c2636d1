import JvmDerived
import JvmDerived.Pilot.@@N@@Statement
import JvmDerived.Pilot.@@N@@Code
set_option linter.unusedVariables false
set_option linter.unusedSimpArgs false
/- laws to paste: Road.backT, Road.lenW, Road.empW, Road.U3Z.ext (cut by pick.py; bodies as the Statement names them) -/
namespace Jvm.Pilot.@@N@@
namespace StrChars
open Jvm Sem ClassFile Op Lib Jvm.Stand Jvm.Free.XT Jvm.Free.ALB Jvm.Free.JM Jvm.Free
open Jvm.Lib.Cold (StaticIs)
/-- a char array whose places are chars -/
def Ch (a : Addr) (A : Cell) (U : State) : Prop := Arr .char a A U ∧ Typed .char A
theorem Ch.mv {a : Addr} {A : Cell} {U U' : State} (h : Ch a A U) (hal : U.vm.Alike U'.vm) (hh : U'.heap = U.heap) : Ch a A U' := ⟨h.1.mv hal hh, h.2⟩
theorem Ch.keep {a : Addr} {A : Cell} {U U' : State} (h : Ch a A U) (hal : U.vm.Alike U'.vm) (hk : U'.heap[a]? = some A) : Ch a A U' := ⟨h.1.keep hal hk, h.2⟩
/-- what place i of a char[]'s cell holds -/
def cv (A : Cell) (i : Nat) : Int32 := match A.slots[i]? with | some (.int x) => x | _ => 0
theorem Ch.get {a : Addr} {A : Cell} {U : State} (h : Ch a A U) {i : Nat} (hi : i < A.slots.size) : A.slots[i]? = some (.int (cv A i)) := by
  have e := Array.getElem?_eq_getElem hi
  have f := h.2 i _ e
  unfold cv; rw [e]
  generalize A.slots[i] = v at f
  cases v <;> simp [fits] at f ⊢
/-- the byte that i2b leaves of a char -/
def lo8 (x : Int32) : Int32 := x.toInt8.toInt32
theorem fits_lo8 (y : Int32) : fits .byte (.int (lo8 y)) = true := by
  have h1 := y.toInt8.le_toInt
  have h2 := y.toInt8.toInt_lt
  simp only [lo8, fits, Bool.and_eq_true, decide_eq_true_eq, Int32.le_iff_toInt_le, Int8.toInt_toInt32, show (-128 : Int32).toInt = -128 from by decide, show (127 : Int32).toInt = 127 from by decide]
  omega
/-- A' is A but that each place j of lo .. hi - 1 holds f j -/
def Laid (A A' : Cell) (lo hi : Nat) (f : Nat → Value) : Prop := A'.cls = A.cls ∧ A'.vm = A.vm ∧ A'.slots.size = A.slots.size ∧ ∀ i, A'.slots[i]? = if lo ≤ i ∧ i < hi then some (f i) else A.slots[i]?
theorem Laid.zero (A : Cell) (lo : Nat) (f : Nat → Value) : Laid A A lo (lo + 0) f := ⟨rfl, rfl, rfl, fun i => by rw [if_neg (by omega)]⟩
theorem Laid.step {A Ak : Cell} {lo k : Nat} {f : Nat → Value} {v : Value} (h : Laid A Ak lo k f) (hlo : lo ≤ k) (hk : k < Ak.slots.size) (hv : v = f k) : Laid A (Ak.setSlot k v) lo (k + 1) f := by
  refine ⟨h.1, h.2.1, by simpa [Cell.setSlot] using h.2.2.1, fun i => ?_⟩
  by_cases e : k = i
  · subst e; rw [Cell.slots_setSlot_self v hk, if_pos (by omega), hv]
  · rw [Cell.slots_setSlot_ne v e, h.2.2.2 i]
    by_cases q : lo ≤ i ∧ i < k
    · rw [if_pos q, if_pos (by omega)]
    · rw [if_neg q, if_neg (by omega)]
def U16 : String := "java/lang/StringUTF16"
namespace Cmp5
def yN : MethodName := ⟨"java/lang/StringUTF16", "compress", "([CI[BII)I"⟩
abbrev yB : ByteArray := jdk_52_method_21_code
theorem d0 : decode yB 0 = .ok (.iconst 0, 1) := by decide +kernel
theorem d1 : decode yB 1 = .ok (.istore 5, 2) := by decide +kernel
theorem d3 : decode yB 3 = .ok (.iload 5, 2) := by decide +kernel
theorem d5 : decode yB 5 = .ok (.iload 4, 2) := by decide +kernel
theorem d7 : decode yB 7 = .ok (.if_icmp (.ge) 37, 3) := by decide +kernel
theorem d10 : decode yB 10 = .ok (.aload_n 0, 1) := by decide +kernel
theorem d11 : decode yB 11 = .ok (.iload_n 1, 1) := by decide +kernel
theorem d12 : decode yB 12 = .ok (.caload, 1) := by decide +kernel
theorem d13 : decode yB 13 = .ok (.istore 6, 2) := by decide +kernel
theorem d15 : decode yB 15 = .ok (.iload 6, 2) := by decide +kernel
theorem d17 : decode yB 17 = .ok (.sipush 255, 3) := by decide +kernel
theorem d20 : decode yB 20 = .ok (.if_icmp (.le) 6, 3) := by decide +kernel
theorem d26 : decode yB 26 = .ok (.aload_n 2, 1) := by decide +kernel
theorem d27 : decode yB 27 = .ok (.iload_n 3, 1) := by decide +kernel
theorem d28 : decode yB 28 = .ok (.iload 6, 2) := by decide +kernel
theorem d30 : decode yB 30 = .ok (.i2b, 1) := by decide +kernel
theorem d31 : decode yB 31 = .ok (.bastore, 1) := by decide +kernel
theorem d32 : decode yB 32 = .ok (.iinc 1 1, 3) := by decide +kernel
theorem d35 : decode yB 35 = .ok (.iinc 3 1, 3) := by decide +kernel
theorem d38 : decode yB 38 = .ok (.iinc 5 1, 3) := by decide +kernel
theorem d41 : decode yB 41 = .ok (.goto (-38), 3) := by decide +kernel
theorem d44 : decode yB 44 = .ok (.iload 4, 2) := by decide +kernel
theorem d46 : decode yB 46 = .ok (.ireturn, 1) := by decide +kernel
def site : List Cond := []
def tab : Cond := tabOf yN yB 7 (some .int) site
def P (b : Addr) (A : Cell) (d : Addr) (B : Cell) (o q len : Nat) (args : Array Value) (s : State) : Prop := args = #[.ref b, .int (Int32.ofNat o), .ref d, .int (Int32.ofNat q), .int (Int32.ofNat len)] ∧ Ch b A s ∧ Arr .byte d B s ∧ b ≠ d ∧ o + len ≤ A.slots.size ∧ q + len ≤ B.slots.size ∧ ∀ i, i < len → ¬ 255 < cv A (o + i)
def E (b : Addr) (A : Cell) (d : Addr) (B : Cell) (o q len : Nat) (r : Option Value) (s u : State) : Prop := r = some (.int (Int32.ofNat len)) ∧ ∃ B', Put d B' s u ∧ Laid B B' q (q + len) (fun j => Value.int (lo8 (cv A (o + (j - q)))))
/-- no char of the range above 255: len; the places written hold each char's low byte -/
theorem law (l : Launch) (b : Addr) (A : Cell) (d : Addr) (B : Cell) (o q len : Nat) : Law l yN 5 5 0 0 yB 7 (some .int) site (P b A d B o q len) (E b A d B o q len) (copyLocs d q len) 0 0 := by
  refine Law.of_walk (plainFor_of_name (by decide +kernel)) (by decide +kernel) (by decide +kernel) (by decide) (fun _ _ h => by rw [h.1]; rfl) (fun _ U U' hal hh h => ⟨h.1, h.2.1.mv hal hh, h.2.2.1.mv hal hh, h.2.2.2⟩) (fun r U U' V V' h1 hal h2 h => ⟨h.1, h.2.elim fun B' q => ⟨B', q.1.mv h1 h2, q.2⟩⟩) ?_
  intro p e s m args below meth c s₁ X0 hexec hbytes hml hret hlk hnm hown hh0 W hP
  obtain ⟨rfl, hA, hB, hne, l1, l2, hp⟩ := hP
  have c1 : Steps p.tables e below (s₁.setTop (entryFrame m #[.ref b, .int (Int32.ofNat o), .ref d, .int (Int32.ofNat q), .int (Int32.ofNat len)] 7)) (s₁.setTop (mkF m 0 #[.val (.ref b), .val (.int (Int32.ofNat o)), .val (.ref d), .val (.int (Int32.ofNat q)), .val (.int (Int32.ofNat len)), .unset, .unset] [])) := entry rfl
  have hA0 := hA.1.mv X0.warmed.alike hh0
  have hB0 := hB.mv X0.warmed.alike hh0
  have a31 := hA.1.2.2.2
  have c2 : Steps p.tables e below (s₁.setTop (entryFrame m #[.ref b, .int (Int32.ofNat o), .ref d, .int (Int32.ofNat q), .int (Int32.ofNat len)] 7)) (s₁.setTop (mkF m 3 #[.val (.ref b), .val (.int (Int32.ofNat o)), .val (.ref d), .val (.int (Int32.ofNat q)), .val (.int (Int32.ofNat len)), .val (.int 0), .unset] [])) := c1.trans (by
    refine iconstV X0.here hexec rfl 0 (hb hbytes d0) (by decide) ?_
    refine XS.istore X0.here hexec rfl (hb hbytes d1) rfl rfl ?_
    exact Steps.refl _)
  have loop : ∀ (r i : Nat), i + r = len → ∀ (z : Slot), (z = .unset ∨ ∃ w, z = .val w ∧ w.category = 1) → ∀ (Tl : State) (Bk : Cell), Stand p l e { frames := 0, locals := 0, cells := 0, slots := 0 } s m #[.ref b, .int (Int32.ofNat o), .ref d, .int (Int32.ofNat q), .int (Int32.ofNat len)] below meth c Tl ([] ++ copyLocs d q i) 0 0 → Put d Bk s₁ Tl → Laid B Bk q (q + i) (fun j => Value.int (lo8 (cv A (o + (j - q))))) →
      Steps p.tables e below (s₁.setTop (entryFrame m #[.ref b, .int (Int32.ofNat o), .ref d, .int (Int32.ofNat q), .int (Int32.ofNat len)] 7)) (Tl.setTop (mkF m 3 #[.val (.ref b), .val (.int (Int32.ofNat (o + i))), .val (.ref d), .val (.int (Int32.ofNat (q + i))), .val (.int (Int32.ofNat len)), .val (.int (Int32.ofNat i)), z] [])) → ∃ (T' : State) (B' : Cell) (z' : Slot), Stand p l e { frames := 0, locals := 0, cells := 0, slots := 0 } s m #[.ref b, .int (Int32.ofNat o), .ref d, .int (Int32.ofNat q), .int (Int32.ofNat len)] below meth c T' ([] ++ copyLocs d q len) 0 0 ∧ Put d B' s₁ T' ∧ Laid B B' q (q + len) (fun j => Value.int (lo8 (cv A (o + (j - q))))) ∧
      Steps p.tables e below (s₁.setTop (entryFrame m #[.ref b, .int (Int32.ofNat o), .ref d, .int (Int32.ofNat q), .int (Int32.ofNat len)] 7)) (T'.setTop (mkF m 3 #[.val (.ref b), .val (.int (Int32.ofNat (o + len))), .val (.ref d), .val (.int (Int32.ofNat (q + len))), .val (.int (Int32.ofNat len)), .val (.int (Int32.ofNat len)), z'] [])) := by
    intro r
    induction r with
    | zero =>
      intro i hi z hz Tl Bk Xl pl fl cl
      have hil : i = len := by omega
      rw [hil] at Xl fl cl
      exact ⟨Tl, Bk, z, Xl, pl, fl, cl⟩
    | succ r ih =>
      intro i hi z hz Tl Bk Xl pl fl cl
      have all := X0.warmed.alike.symm.trans Xl.warmed.alike
      have hAl := hA0.keep all (pl.other hne hA0.1)
      have hBk := hB0.like all pl.1 fl.1 fl.2.1 fl.2.2.1
      have hlt : q + i < Bk.slots.size := by rw [fl.2.2.1]; omega
      have c3 : Steps p.tables e below (s₁.setTop (entryFrame m #[.ref b, .int (Int32.ofNat o), .ref d, .int (Int32.ofNat q), .int (Int32.ofNat len)] 7)) (Tl.setTop (mkF m 12 #[.val (.ref b), .val (.int (Int32.ofNat (o + i))), .val (.ref d), .val (.int (Int32.ofNat (q + i))), .val (.int (Int32.ofNat len)), .val (.int (Int32.ofNat i)), z] [.int (Int32.ofNat (o + i)), .ref b])) := cl.trans (by
        refine XS.iload Xl.here hexec rfl (hb hbytes d3) rfl ?_
        refine XS.iload Xl.here hexec rfl (hb hbytes d5) rfl ?_
        refine XS.icmpNo Xl.here hexec rfl (hb hbytes d7) rfl (ii_ge_f (lt32 (by omega) (by omega))) ?_
        refine XS.aloadN Xl.here hexec rfl (hb hbytes d10) rfl rfl ?_
        refine XS.iloadN Xl.here hexec rfl (hb hbytes d11) rfl ?_
        exact Steps.refl _)
      have c4 : Steps p.tables e below (s₁.setTop (entryFrame m #[.ref b, .int (Int32.ofNat o), .ref d, .int (Int32.ofNat q), .int (Int32.ofNat len)] 7)) (Tl.setTop (mkF m 13 #[.val (.ref b), .val (.int (Int32.ofNat (o + i))), .val (.ref d), .val (.int (Int32.ofNat (q + i))), .val (.int (Int32.ofNat len)), .val (.int (Int32.ofNat i)), z] [.int (cv A (o + i))])) := c3.trans (by
        refine Xl.aget hexec hAl rfl (hA.get (i := o + i) (by omega)) rfl rfl (hb hbytes d12) ?_
        exact Steps.refl _)
      have c5 : Steps p.tables e below (s₁.setTop (entryFrame m #[.ref b, .int (Int32.ofNat o), .ref d, .int (Int32.ofNat q), .int (Int32.ofNat len)] 7)) (Tl.setTop (mkF m 15 #[.val (.ref b), .val (.int (Int32.ofNat (o + i))), .val (.ref d), .val (.int (Int32.ofNat (q + i))), .val (.int (Int32.ofNat len)), .val (.int (Int32.ofNat i)), .val (.int (cv A (o + i)))] [])) := c4.trans (by
        refine XS.istoreS Xl.here hexec rfl (hb hbytes d13) rfl rfl hz ?_
        exact Steps.refl _)
      have c6 : Steps p.tables e below (s₁.setTop (entryFrame m #[.ref b, .int (Int32.ofNat o), .ref d, .int (Int32.ofNat q), .int (Int32.ofNat len)] 7)) (Tl.setTop (mkF m 31 #[.val (.ref b), .val (.int (Int32.ofNat (o + i))), .val (.ref d), .val (.int (Int32.ofNat (q + i))), .val (.int (Int32.ofNat len)), .val (.int (Int32.ofNat i)), .val (.int (cv A (o + i)))] [.int (lo8 (cv A (o + i))), .int (Int32.ofNat (q + i)), .ref d])) := c5.trans (by
        refine XS.iload Xl.here hexec rfl (hb hbytes d15) rfl ?_
        refine sipushV Xl.here hexec rfl 255 (hb hbytes d17) (by decide) ?_
        refine XS.icmpYes Xl.here hexec rfl (pc0 := 20) rfl (hb hbytes d20) rfl (ii_le_t (hp i (by omega))) (by decide) rfl ?_
        refine XS.aloadN Xl.here hexec rfl (hb hbytes d26) rfl rfl ?_
        refine XS.iloadN Xl.here hexec rfl (hb hbytes d27) rfl ?_
        refine XS.iload Xl.here hexec rfl (hb hbytes d28) rfl ?_
        refine i2b Xl.here hexec rfl (hb hbytes d30) rfl ?_
        exact Steps.refl _)
      obtain ⟨T7, X7, p7, st7⟩ := Xl.aput hexec hBk rfl hlt rfl (fits_lo8 (cv A (o + i))) (g := (mkF m 31 #[.val (.ref b), .val (.int (Int32.ofNat (o + i))), .val (.ref d), .val (.int (Int32.ofNat (q + i))), .val (.int (Int32.ofNat len)), .val (.int (Int32.ofNat i)), .val (.int (cv A (o + i)))] [.int (lo8 (cv A (o + i))), .int (Int32.ofNat (q + i)), .ref d])) rfl (rest := []) rfl (hb hbytes d31)
      have c8 : Steps p.tables e below (s₁.setTop (entryFrame m #[.ref b, .int (Int32.ofNat o), .ref d, .int (Int32.ofNat q), .int (Int32.ofNat len)] 7)) (T7.setTop (mkF m 32 #[.val (.ref b), .val (.int (Int32.ofNat (o + i))), .val (.ref d), .val (.int (Int32.ofNat (q + i))), .val (.int (Int32.ofNat len)), .val (.int (Int32.ofNat i)), .val (.int (cv A (o + i)))] [])) := c6.trans (st7 _ (Steps.refl _))
      have c9 : Steps p.tables e below (s₁.setTop (entryFrame m #[.ref b, .int (Int32.ofNat o), .ref d, .int (Int32.ofNat q), .int (Int32.ofNat len)] 7)) (T7.setTop (mkF m 3 #[.val (.ref b), .val (.int (Int32.ofNat (o + i) + 1)), .val (.ref d), .val (.int (Int32.ofNat (q + i) + 1)), .val (.int (Int32.ofNat len)), .val (.int (Int32.ofNat i + 1)), .val (.int (cv A (o + i)))] [])) := c8.trans (by
        refine iincV X7.here hexec rfl 1 (hb hbytes d32) (by decide) rfl rfl ?_
        refine iincV X7.here hexec rfl 1 (hb hbytes d35) (by decide) rfl rfl ?_
        refine iincV X7.here hexec rfl 1 (hb hbytes d38) (by decide) rfl rfl ?_
        refine XS.goto X7.here hexec rfl (pc0 := 41) rfl (hb hbytes d41) (by decide) rfl ?_
        exact Steps.refl _)
      have c10 : Steps p.tables e below (s₁.setTop (entryFrame m #[.ref b, .int (Int32.ofNat o), .ref d, .int (Int32.ofNat q), .int (Int32.ofNat len)] 7)) (T7.setTop (mkF m 3 #[.val (.ref b), .val (.int (Int32.ofNat (o + (i + 1)))), .val (.ref d), .val (.int (Int32.ofNat (q + (i + 1)))), .val (.int (Int32.ofNat len)), .val (.int (Int32.ofNat (i + 1))), .val (.int (cv A (o + i)))] [])) := by
        have := c9
        rw [succ32, succ32, succ32] at this
        exact this
      exact ih (i + 1) (by omega) _ (Or.inr ⟨_, rfl, rfl⟩) T7 _ (by rw [copyLocs_step, ← List.append_assoc]; exact X7) (pl.trans p7) (fl.step (by omega) hlt (by simp)) c10
  obtain ⟨T9, B9, z9, X9, p9, f9, g9⟩ := loop len 0 (by omega) .unset (Or.inl rfl) s₁ B (by simpa [copyLocs] using X0) ⟨hB0.1, fun _ _ => rfl, rfl⟩ (Laid.zero _ _ _) c2
  have c11 : Steps p.tables e below (s₁.setTop (entryFrame m #[.ref b, .int (Int32.ofNat o), .ref d, .int (Int32.ofNat q), .int (Int32.ofNat len)] 7)) (T9.setTop (mkF m 46 #[.val (.ref b), .val (.int (Int32.ofNat (o + len))), .val (.ref d), .val (.int (Int32.ofNat (q + len))), .val (.int (Int32.ofNat len)), .val (.int (Int32.ofNat len)), z9] [.int (Int32.ofNat len)])) := g9.trans (by
    refine XS.iload X9.here hexec rfl (hb hbytes d3) rfl ?_
    refine XS.iload X9.here hexec rfl (hb hbytes d5) rfl ?_
    refine XS.icmpYes X9.here hexec rfl (pc0 := 7) rfl (hb hbytes d7) rfl (ii_ge_t (nlt32 (by omega) (Nat.le_refl _))) (by decide) rfl ?_
    refine XS.iload X9.here hexec rfl (hb hbytes d44) rfl ?_
    exact Steps.refl _)
  exact ⟨T9, some (.int (Int32.ofNat len)), _, _, _, X9, by simp, rfl, rfl, (fun h => by cases h), ⟨rfl, B9, p9.from hh0, f9⟩, fun fs hl => c11.trans (X9.ireturnOut hexec hret rfl (Or.inl rfl) (hb hbytes d46) hl)⟩
end Cmp5
namespace Cmp3
def yN : MethodName := ⟨"java/lang/StringUTF16", "compress", "([CII)[B"⟩
abbrev yB : ByteArray := jdk_52_method_16_code
theorem d0 : decode yB 0 = .ok (.iload_n 2, 1) := by decide +kernel
theorem d1 : decode yB 1 = .ok (.newarray .byte, 2) := by decide +kernel
theorem d3 : decode yB 3 = .ok (.astore_n 3, 1) := by decide +kernel
theorem d4 : decode yB 4 = .ok (.aload_n 0, 1) := by decide +kernel
theorem d5 : decode yB 5 = .ok (.iload_n 1, 1) := by decide +kernel
theorem d6 : decode yB 6 = .ok (.aload_n 3, 1) := by decide +kernel
theorem d7 : decode yB 7 = .ok (.iconst 0, 1) := by decide +kernel
theorem d8 : decode yB 8 = .ok (.iload_n 2, 1) := by decide +kernel
theorem d9 : decode yB 9 = .ok (.invokestatic 115, 3) := by decide +kernel
theorem d12 : decode yB 12 = .ok (.istore 4, 2) := by decide +kernel
theorem d14 : decode yB 14 = .ok (.iload 4, 2) := by decide +kernel
theorem d16 : decode yB 16 = .ok (.iload_n 2, 1) := by decide +kernel
theorem d17 : decode yB 17 = .ok (.if_icmp (.eq) 40, 3) := by decide +kernel
theorem d57 : decode yB 57 = .ok (.aload_n 3, 1) := by decide +kernel
theorem d58 : decode yB 58 = .ok (.areturn, 1) := by decide +kernel
def site : List Cond := [.arrayClass .byte, Cmp5.tab] ++ staticW U16 115 Cmp5.yN
def tab : Cond := tabOf yN yB 6 (some (.array .byte)) site
def P (b : Addr) (A : Cell) (o len : Nat) (args : Array Value) (s : State) : Prop := args = #[.ref b, .int (Int32.ofNat o), .int (Int32.ofNat len)] ∧ Ch b A s ∧ o + len ≤ A.slots.size ∧ len ≤ 536870912 ∧ ∀ i, i < len → ¬ 255 < cv A (o + i)
def E (b : Addr) (A : Cell) (o len : Nat) (r : Option Value) (s u : State) : Prop := NewArr .byte "[B" len (fun j => .int (lo8 (cv A (o + j)))) r s u ∧ u.heap.size = s.heap.size + 1
/-- no char of the range above 255: a new byte[] of their low bytes -/
theorem law (l : Launch) (b : Addr) (A : Cell) (o len : Nat) : Law l yN 3 3 1 18 yB 6 (some (.array .byte)) site (P b A o len) (E b A o len) [] 1 len := by
  refine Law.of_walk (plainFor_of_name (by decide +kernel)) (by decide +kernel) (by decide +kernel) (by decide) (fun _ _ h => by rw [h.1]; rfl) (fun _ U U' hal hh h => ⟨h.1, h.2.1.mv hal hh, h.2.2⟩) (fun r U U' V V' h1 hal h2 h => ⟨NewArr.mv r U U' V V' h1 hal h2 h.1, by rw [h1, h2]; exact h.2⟩) ?_
  intro p e s m args below meth c s₁ X0 hexec hbytes hml hret hlk hnm hown hh0 W hP
  obtain ⟨rfl, hA, l1, l2, hp⟩ := hP
  have a31 := hA.1.2.2.2
  have c1 : Steps p.tables e below (s₁.setTop (entryFrame m #[.ref b, .int (Int32.ofNat o), .int (Int32.ofNat len)] 6)) (s₁.setTop (mkF m 0 #[.val (.ref b), .val (.int (Int32.ofNat o)), .val (.int (Int32.ofNat len)), .unset, .unset, .unset] [])) := entry rfl
  have c2 : Steps p.tables e below (s₁.setTop (entryFrame m #[.ref b, .int (Int32.ofNat o), .int (Int32.ofNat len)] 6)) (s₁.setTop (mkF m 1 #[.val (.ref b), .val (.int (Int32.ofNat o)), .val (.int (Int32.ofNat len)), .unset, .unset, .unset] [.int (Int32.ofNat len)])) := c1.trans (by
    refine XS.iloadN X0.here hexec rfl (hb hbytes d0) rfl ?_
    exact Steps.refl _)
  obtain ⟨T3, B3, X3, ba3, bs3, bv3, bh3, bf3, st3⟩ := X0.anew hexec (atype := .byte) (wk W (.arrayClass .byte)) rfl (by show len * 1 ≤ _; omega) (by omega) (g := (mkF m 1 #[.val (.ref b), .val (.int (Int32.ofNat o)), .val (.int (Int32.ofNat len)), .unset, .unset, .unset] [.int (Int32.ofNat len)])) rfl (hb hbytes d1) (rest := []) rfl (Nat.le_refl _) (by show 0 + len ≤ len; omega)
  rw [hh0] at ba3 st3
  have kp3 : XT.Kept s T3 := (XT.Kept.of_eq hh0).push bh3
  have hA3 := hA.keep X3.warmed.alike (kp3 _ _ hA.1.1)
  have hne : b ≠ s.heap.size := hA.1.ne
  have c4 : Steps p.tables e below (s₁.setTop (entryFrame m #[.ref b, .int (Int32.ofNat o), .int (Int32.ofNat len)] 6)) (T3.setTop (mkF m 3 #[.val (.ref b), .val (.int (Int32.ofNat o)), .val (.int (Int32.ofNat len)), .unset, .unset, .unset] [.ref s.heap.size])) := c2.trans (st3 _ (Steps.refl _))
  have c5 : Steps p.tables e below (s₁.setTop (entryFrame m #[.ref b, .int (Int32.ofNat o), .int (Int32.ofNat len)] 6)) (T3.setTop (mkF m 9 #[.val (.ref b), .val (.int (Int32.ofNat o)), .val (.int (Int32.ofNat len)), .val (.ref s.heap.size), .unset, .unset] [.int (Int32.ofNat len), .int 0, .ref s.heap.size, .int (Int32.ofNat o), .ref b])) := c4.trans (by
    refine XS.astoreN X3.here hexec rfl (hb hbytes d3) rfl rfl rfl ?_
    refine XS.aloadN X3.here hexec rfl (hb hbytes d4) rfl rfl ?_
    refine XS.iloadN X3.here hexec rfl (hb hbytes d5) rfl ?_
    refine XS.aloadN X3.here hexec rfl (hb hbytes d6) rfl rfl ?_
    refine iconstV X3.here hexec rfl 0 (hb hbytes d7) (by decide) ?_
    refine XS.iloadN X3.here hexec rfl (hb hbytes d8) rfl ?_
    exact Steps.refl _)
  obtain ⟨v6, T6, X6, E6, g6⟩ := X3.callS hexec (Cmp5.law l b A s.heap.size B3 o 0 len) hown (wks W (staticW U16 115 Cmp5.yN)) (wk W Cmp5.tab) (W := 0) (Nat.le_of_ble_eq_true rfl) (Nat.le_of_ble_eq_true rfl) (Nat.le_refl _) (by show 0 + len + 0 ≤ len; omega) (g := (mkF m 9 #[.val (.ref b), .val (.int (Int32.ofNat o)), .val (.int (Int32.ofNat len)), .val (.ref s.heap.size), .unset, .unset] [.int (Int32.ofNat len), .int (Int32.ofNat 0), .ref s.heap.size, .int (Int32.ofNat o), .ref b])) rfl (by rw [hml]; rfl) c5 (argsL := [.ref b, .int (Int32.ofNat o), .ref s.heap.size, .int (Int32.ofNat 0), .int (Int32.ofNat len)]) (rest := []) rfl rfl (by show 2 * 0 + 0 ≤ _; decide) (hb hbytes d9) (⟨rfl, hA3, ba3, hne, l1, by rw [bs3]; simp, hp⟩)
  obtain ⟨rfl, B6, p6, f6⟩ := E6
  have c7 : Steps p.tables e below (s₁.setTop (entryFrame m #[.ref b, .int (Int32.ofNat o), .int (Int32.ofNat len)] 6)) (T6.setTop (mkF m 12 #[.val (.ref b), .val (.int (Int32.ofNat o)), .val (.int (Int32.ofNat len)), .val (.ref s.heap.size), .unset, .unset] [.int (Int32.ofNat len)])) := g6
  have c8 : Steps p.tables e below (s₁.setTop (entryFrame m #[.ref b, .int (Int32.ofNat o), .int (Int32.ofNat len)] 6)) (T6.setTop (mkF m 58 #[.val (.ref b), .val (.int (Int32.ofNat o)), .val (.int (Int32.ofNat len)), .val (.ref s.heap.size), .val (.int (Int32.ofNat len)), .unset] [.ref s.heap.size])) := c7.trans (by
    refine XS.istore X6.here hexec rfl (hb hbytes d12) rfl rfl ?_
    refine XS.iload X6.here hexec rfl (hb hbytes d14) rfl ?_
    refine XS.iloadN X6.here hexec rfl (hb hbytes d16) rfl ?_
    refine XS.icmpYes X6.here hexec rfl (pc0 := 17) rfl (hb hbytes d17) rfl (ii_eq_t rfl) (by decide) rfl ?_
    refine XS.aloadN X6.here hexec rfl (hb hbytes d57) rfl rfl ?_
    exact Steps.refl _)
  have X8 := X6.wide (L' := []) (cells' := 1) (slots' := len) (fun x hx hlt => by
    simp only [List.nil_append, copyLocs, List.mem_map, List.mem_range] at hx
    obtain ⟨i, -, rfl⟩ := hx
    exact absurd hlt (Nat.lt_irrefl _)) (Nat.le_refl _) (by omega)
  exact ⟨T6, some (.ref s.heap.size), _, _, _, X8, rfl, rfl, rfl, (fun h => by cases h), ⟨⟨rfl, B6, ba3.like (X3.warmed.alike.symm.trans X6.warmed.alike) p6.1 f6.1 f6.2.1 f6.2.2.1, f6.2.1.trans bv3, by rw [X6.warmed.alike.findClass, f6.1]; exact bf3, by rw [f6.2.2.1, bs3]; simp, fun j hj => by rw [f6.2.2.2 j, if_pos (by omega)]; rfl, kp3.put p6 (Nat.le_refl _)⟩, by rw [p6.2.2, bh3, hh0]; simp⟩, fun fs hl => c8.trans (X8.areturnOut hexec rfl hret rfl (hb hbytes d58) hl)⟩
end Cmp3
namespace CodL
def yN : MethodName := ⟨"java/lang/StringUTF16", "coderFromArrayLen", "([BI)B"⟩
abbrev yB : ByteArray := jdk_52_method_15_code
theorem d0 : decode yB 0 = .ok (.iload_n 1, 1) := by decide +kernel
theorem d1 : decode yB 1 = .ok (.aload_n 0, 1) := by decide +kernel
theorem d2 : decode yB 2 = .ok (.arraylength, 1) := by decide +kernel
theorem d3 : decode yB 3 = .ok (.isub, 1) := by decide +kernel
theorem d4 : decode yB 4 = .ok (.bipush 31, 2) := by decide +kernel
theorem d6 : decode yB 6 = .ok (.iushr, 1) := by decide +kernel
theorem d7 : decode yB 7 = .ok (.i2b, 1) := by decide +kernel
theorem d8 : decode yB 8 = .ok (.ireturn, 1) := by decide +kernel
def site : List Cond := []
def tab : Cond := tabOf yN yB 2 (some .byte) site
def P (d : Addr) (B : Cell) (args : Array Value) (s : State) : Prop := args = #[.ref d, .int (Int32.ofNat B.slots.size)] ∧ Arr .byte d B s
def E (r : Option Value) (s u : State) : Prop := XT.PureE (some (.int 0)) r s u
/-- an array as long as the number of chars: LATIN1 -/
theorem law (l : Launch) (d : Addr) (B : Cell) : Law l yN 2 2 0 0 yB 2 (some .byte) site (P d B) E [] 0 0 := by
  refine Law.of_walk (plainFor_of_name (by decide +kernel)) (by decide +kernel) (by decide +kernel) (by decide) (fun _ _ h => by rw [h.1]; rfl) (fun _ U U' hal hh h => ⟨h.1, h.2.mv hal hh⟩) (fun r U U' V V' h1 hal h2 h => XT.PureE.mv r U U' V V' h1 hal h2 h) ?_
  intro p e s m args below meth c s₁ X0 hexec hbytes hml hret hlk hnm hown hh0 W hP
  obtain ⟨rfl, hB⟩ := hP
  have hB0 := hB.mv X0.warmed.alike hh0
  have c1 : Steps p.tables e below (s₁.setTop (entryFrame m #[.ref d, .int (Int32.ofNat B.slots.size)] 2)) (s₁.setTop (mkF m 0 #[.val (.ref d), .val (.int (Int32.ofNat B.slots.size))] [])) := entry rfl
  have c2 : Steps p.tables e below (s₁.setTop (entryFrame m #[.ref d, .int (Int32.ofNat B.slots.size)] 2)) (s₁.setTop (mkF m 2 #[.val (.ref d), .val (.int (Int32.ofNat B.slots.size))] [.ref d, .int (Int32.ofNat B.slots.size)])) := c1.trans (by
    refine XS.iloadN X0.here hexec rfl (hb hbytes d0) rfl ?_
    refine XS.aloadN X0.here hexec rfl (hb hbytes d1) rfl rfl ?_
    exact Steps.refl _)
  have c3 : Steps p.tables e below (s₁.setTop (entryFrame m #[.ref d, .int (Int32.ofNat B.slots.size)] 2)) (s₁.setTop (mkF m 8 #[.val (.ref d), .val (.int (Int32.ofNat B.slots.size))] [.int (lo8 (ushr (Int32.ofNat B.slots.size - Int32.ofNat B.slots.size) 31))])) := c2.trans (by
    refine X0.alen hexec hB0 rfl rfl (hb hbytes d2) ?_
    refine XS.isub X0.here hexec rfl (hb hbytes d3) rfl ?_
    refine bipushV X0.here hexec rfl 31 (hb hbytes d4) (by decide) ?_
    refine iushr X0.here hexec rfl (hb hbytes d6) rfl ?_
    refine i2b X0.here hexec rfl (hb hbytes d7) rfl ?_
    exact Steps.refl _)
  have e0 : lo8 (ushr (Int32.ofNat B.slots.size - Int32.ofNat B.slots.size) 31) = 0 := by rw [Int32.sub_self]; decide
  rw [e0] at c3
  exact ⟨s₁, some (.int 0), _, _, _, X0, rfl, rfl, rfl, (fun h => by cases h), ⟨rfl, hh0⟩, fun fs hl => c3.trans (X0.ireturnOut hexec hret rfl (Or.inr (Or.inr (Or.inl rfl))) (hb hbytes d8) hl)⟩
end CodL
/-- the String at a is Latin-1 over a new byte[] (the heap's one new cell): the low bytes of the len chars of A from o on; every cell but a is kept -/
def Got (a : Addr) (D : Cell) (fV fC : Field) (A : Cell) (o len : Nat) (r : Option Value) (s u : State) : Prop := r = none ∧ ∃ D' V : Cell, Blank "java/lang/String" a D' u ∧ Same D D' [fV.slot, fC.slot] ∧ D'.slots[fV.slot]? = some (.ref s.heap.size) ∧ D'.slots[fC.slot]? = some (.int 0) ∧ Arr .byte s.heap.size V u ∧ V.vm = .none ∧ u.vm.findClass "[B" = some V.cls ∧ V.slots.size = len ∧ (∀ j, j < len → V.slots[j]? = some (.int (lo8 (cv A (o + j))))) ∧ (∀ (y : Addr) (c : Cell), y ≠ a → s.heap[y]? = some c → u.heap[y]? = some c) ∧ u.heap.size = s.heap.size + 1
theorem Got.mv {a : Addr} {D A : Cell} {fV fC : Field} {o len : Nat} : ∀ r (U U' V V' : State), U'.heap = U.heap → V.vm.Alike V'.vm → V'.heap = V.heap → Got a D fV fC A o len r U V → Got a D fV fC A o len r U' V' :=
  fun r U U' V V' h1 hal h2 ⟨e0, D', X, a1, a2, a3, a4, a5, a6, a7, a8, a9, a10, a11⟩ => ⟨e0, D', X, a1.mv hal h2, a2, by rw [h1]; exact a3, a4, by rw [h1]; exact a5.mv hal h2, a6, by rw [hal.findClass]; exact a7, a8, a9, by rw [h1, h2]; exact a10, by rw [h1, h2]; exact a11⟩
namespace New4
def yN : MethodName := ⟨"java/lang/String", "<init>", "([CIILjava/lang/Void;)V"⟩
abbrev yB : ByteArray := jdk_42_method_149_code
theorem d0 : decode yB 0 = .ok (.aload_n 0, 1) := by decide +kernel
theorem d1 : decode yB 1 = .ok (.invokespecial 1, 3) := by decide +kernel
theorem d4 : decode yB 4 = .ok (.iload_n 3, 1) := by decide +kernel
theorem d5 : decode yB 5 = .ok (.ifCond (.ne) 22, 3) := by decide +kernel
theorem d27 : decode yB 27 = .ok (.getstatic 38, 3) := by decide +kernel
theorem d30 : decode yB 30 = .ok (.ifCond (.eq) 28, 3) := by decide +kernel
theorem d33 : decode yB 33 = .ok (.aload_n 1, 1) := by decide +kernel
theorem d34 : decode yB 34 = .ok (.iload_n 2, 1) := by decide +kernel
theorem d35 : decode yB 35 = .ok (.iload_n 3, 1) := by decide +kernel
theorem d36 : decode yB 36 = .ok (.invokestatic 177, 3) := by decide +kernel
theorem d39 : decode yB 39 = .ok (.astore 5, 2) := by decide +kernel
theorem d41 : decode yB 41 = .ok (.aload_n 0, 1) := by decide +kernel
theorem d42 : decode yB 42 = .ok (.aload 5, 2) := by decide +kernel
theorem d44 : decode yB 44 = .ok (.iload_n 3, 1) := by decide +kernel
theorem d45 : decode yB 45 = .ok (.invokestatic 47, 3) := by decide +kernel
theorem d48 : decode yB 48 = .ok (.putfield 15, 3) := by decide +kernel
theorem d51 : decode yB 51 = .ok (.aload_n 0, 1) := by decide +kernel
theorem d52 : decode yB 52 = .ok (.aload 5, 2) := by decide +kernel
theorem d54 : decode yB 54 = .ok (.putfield 9, 3) := by decide +kernel
theorem d57 : decode yB 57 = .ok (.return_, 1) := by decide +kernel
def site : List Cond := [.fieldLink "java/lang/String" 38 "java/lang/String" "COMPACT_STRINGS" "Z", Cmp3.tab, CodL.tab, .laysFinal "java/lang/String" "java/lang/String" "value" "[B", .fieldLink "java/lang/String" 9 "java/lang/String" "value" "[B", .laysFinal "java/lang/String" "java/lang/String" "coder" "B", .fieldLink "java/lang/String" 15 "java/lang/String" "coder" "B"] ++ objW "java/lang/String" 1 ++ staticW "java/lang/String" 177 Cmp3.yN ++ staticW "java/lang/String" 47 CodL.yN
def tab : Cond := tabOf yN yB 6 none site
def P (a : Addr) (D : Cell) (fV fC : Field) (b : Addr) (A : Cell) (z : Int32) (o len : Nat) (args : Array Value) (s : State) : Prop := args = #[.ref a, .ref b, .int (Int32.ofNat o), .int (Int32.ofNat len), .null] ∧ Blank "java/lang/String" a D s ∧ Found "java/lang/String" "value" "[B" fV s ∧ Found "java/lang/String" "coder" "B" fC s ∧ Ch b A s ∧ StaticIs s "java/lang/String" "COMPACT_STRINGS" "Z" (.int z) ∧ ¬ z = 0 ∧ 0 < len ∧ o + len ≤ A.slots.size ∧ len ≤ 536870912 ∧ ∀ i, i < len → ¬ 255 < cv A (o + i)
def E (a : Addr) (D : Cell) (fV fC : Field) (A : Cell) (o len : Nat) (r : Option Value) (s u : State) : Prop := Got a D fV fC A o len r s u
/-- len > 0, no char of the range above 255: a Latin-1 String of their low bytes -/
theorem law (l : Launch) (a : Addr) (D : Cell) (fV fC : Field) (b : Addr) (A : Cell) (z : Int32) (o len : Nat) : Law l yN 5 4 2 35 yB 6 none site (P a D fV fC b A z o len) (E a D fV fC A o len) [⟨a, fC.slot⟩, ⟨a, fV.slot⟩] 1 len := by
  refine Law.of_walk (plainFor_of_name (by decide +kernel)) (by decide +kernel) (by decide +kernel) (by decide) (fun _ _ h => by rw [h.1]; rfl) (fun _ U U' hal hh h => ⟨h.1, h.2.1.mv hal hh, h.2.2.1.al hal, h.2.2.2.1.al hal, h.2.2.2.2.1.mv hal hh, h.2.2.2.2.2.1.there hal hh, h.2.2.2.2.2.2⟩) (fun r U U' V V' h1 hal h2 h => Got.mv r U U' V V' h1 hal h2 h) ?_
  intro p e s m args below meth c s₁ X0 hexec hbytes hml hret hlk hnm hown hh0 W hP
  obtain ⟨rfl, hB, f1, f2, hA, s1, hz, l0, l1, l2, hp⟩ := hP
  have a31 := hA.1.2.2.2
  have c1 : Steps p.tables e below (s₁.setTop (entryFrame m #[.ref a, .ref b, .int (Int32.ofNat o), .int (Int32.ofNat len), .null] 6)) (s₁.setTop (mkF m 0 #[.val (.ref a), .val (.ref b), .val (.int (Int32.ofNat o)), .val (.int (Int32.ofNat len)), .val .null, .unset] [])) := entry rfl
  have c2 : Steps p.tables e below (s₁.setTop (entryFrame m #[.ref a, .ref b, .int (Int32.ofNat o), .int (Int32.ofNat len), .null] 6)) (s₁.setTop (mkF m 1 #[.val (.ref a), .val (.ref b), .val (.int (Int32.ofNat o)), .val (.int (Int32.ofNat len)), .val .null, .unset] [.ref a])) := c1.trans (by
    refine XS.aloadN X0.here hexec rfl (hb hbytes d0) rfl rfl ?_
    exact Steps.refl _)
  obtain ⟨T3, X3, q3, st3⟩ := X0.oinit hexec hown (wks W (objW "java/lang/String" 1)) (g := (mkF m 1 #[.val (.ref a), .val (.ref b), .val (.int (Int32.ofNat o)), .val (.int (Int32.ofNat len)), .val .null, .unset] [.ref a])) rfl (by rw [hml]; rfl) (rest := []) rfl (hb hbytes d1) (W := 0) (by show 2 * 0 + 0 ≤ _; decide) (Nat.le_of_ble_eq_true rfl) (Nat.le_of_ble_eq_true rfl)
  have hh3 := q3.trans hh0
  have c4 : Steps p.tables e below (s₁.setTop (entryFrame m #[.ref a, .ref b, .int (Int32.ofNat o), .int (Int32.ofNat len), .null] 6)) (T3.setTop (mkF m 27 #[.val (.ref a), .val (.ref b), .val (.int (Int32.ofNat o)), .val (.int (Int32.ofNat len)), .val .null, .unset] [])) := (c2.trans (st3 _ (Steps.refl _))).trans (by
    refine XS.iloadN X3.here hexec rfl (hb hbytes d4) rfl ?_
    refine XS.ifYes X3.here hexec rfl (pc0 := 5) rfl (hb hbytes d5) rfl (i0_ne_t (nz32 (by omega) l0)) (by decide) rfl ?_
    exact Steps.refl _)
  obtain ⟨T5, X5, q5, st5⟩ := X3.sget hexec hown (wk W (.fieldLink "java/lang/String" 38 "java/lang/String" "COMPACT_STRINGS" "Z")) s1 (fun _ _ h => by rw [hh3]; exact h) (g := (mkF m 27 #[.val (.ref a), .val (.ref b), .val (.int (Int32.ofNat o)), .val (.int (Int32.ofNat len)), .val .null, .unset] [])) rfl (hb hbytes d27)
  have hh5 := q5.trans hh3
  have c6 : Steps p.tables e below (s₁.setTop (entryFrame m #[.ref a, .ref b, .int (Int32.ofNat o), .int (Int32.ofNat len), .null] 6)) (T5.setTop (mkF m 30 #[.val (.ref a), .val (.ref b), .val (.int (Int32.ofNat o)), .val (.int (Int32.ofNat len)), .val .null, .unset] [.int z])) := c4.trans (st5 _ (Steps.refl _))
  have c7 : Steps p.tables e below (s₁.setTop (entryFrame m #[.ref a, .ref b, .int (Int32.ofNat o), .int (Int32.ofNat len), .null] 6)) (T5.setTop (mkF m 36 #[.val (.ref a), .val (.ref b), .val (.int (Int32.ofNat o)), .val (.int (Int32.ofNat len)), .val .null, .unset] [.int (Int32.ofNat len), .int (Int32.ofNat o), .ref b])) := c6.trans (by
    refine XS.ifNo X5.here hexec rfl (hb hbytes d30) rfl (i0_eq_f hz) ?_
    refine XS.aloadN X5.here hexec rfl (hb hbytes d33) rfl rfl ?_
    refine XS.iloadN X5.here hexec rfl (hb hbytes d34) rfl ?_
    refine XS.iloadN X5.here hexec rfl (hb hbytes d35) rfl ?_
    exact Steps.refl _)
  obtain ⟨v8, T8, X8, E8, g8⟩ := X5.callS hexec (Cmp3.law l b A o len) hown (wks W (staticW "java/lang/String" 177 Cmp3.yN)) (wk W Cmp3.tab) (W := 0) (Nat.le_of_ble_eq_true rfl) (Nat.le_of_ble_eq_true rfl) (Nat.le_refl _) (by show 0 + len ≤ len; omega) (g := (mkF m 36 #[.val (.ref a), .val (.ref b), .val (.int (Int32.ofNat o)), .val (.int (Int32.ofNat len)), .val .null, .unset] [.int (Int32.ofNat len), .int (Int32.ofNat o), .ref b])) rfl (by rw [hml]; rfl) c7 (argsL := [.ref b, .int (Int32.ofNat o), .int (Int32.ofNat len)]) (rest := []) rfl rfl (by show 2 * 0 + 0 ≤ _; decide) (hb hbytes d36) (⟨rfl, hA.mv X5.warmed.alike hh5, l1, l2, hp⟩)
  obtain ⟨e8, z8⟩ := E8
  obtain ⟨rfl, N, n1, n2, n3, n4, n5, n6⟩ := NewArr.mv _ T5 s _ _ hh5.symm (Vm.Alike.refl _) rfl e8
  rw [hh5] at z8
  have hB1 := hB.keep X8.warmed.alike (n6 _ _ hB.1)
  have hne : s.heap.size ≠ a := (Nat.ne_of_lt (Array.getElem?_eq_some_iff.mp hB.1).1).symm
  have c9 : Steps p.tables e below (s₁.setTop (entryFrame m #[.ref a, .ref b, .int (Int32.ofNat o), .int (Int32.ofNat len), .null] 6)) (T8.setTop (mkF m 39 #[.val (.ref a), .val (.ref b), .val (.int (Int32.ofNat o)), .val (.int (Int32.ofNat len)), .val .null, .unset] [.ref s.heap.size])) := g8
  have c10 : Steps p.tables e below (s₁.setTop (entryFrame m #[.ref a, .ref b, .int (Int32.ofNat o), .int (Int32.ofNat len), .null] 6)) (T8.setTop (mkF m 45 #[.val (.ref a), .val (.ref b), .val (.int (Int32.ofNat o)), .val (.int (Int32.ofNat len)), .val .null, .val (.ref s.heap.size)] [.int (Int32.ofNat N.slots.size), .ref s.heap.size, .ref a])) := by
    have hc : Steps p.tables e below (s₁.setTop (entryFrame m #[.ref a, .ref b, .int (Int32.ofNat o), .int (Int32.ofNat len), .null] 6)) (T8.setTop (mkF m 45 #[.val (.ref a), .val (.ref b), .val (.int (Int32.ofNat o)), .val (.int (Int32.ofNat len)), .val .null, .val (.ref s.heap.size)] [.int (Int32.ofNat len), .ref s.heap.size, .ref a])) := c9.trans (by
      refine XS.astore X8.here hexec rfl (hb hbytes d39) rfl rfl rfl ?_
      refine XS.aloadN X8.here hexec rfl (hb hbytes d41) rfl rfl ?_
      refine XS.aload X8.here hexec rfl (hb hbytes d42) rfl rfl ?_
      refine XS.iloadN X8.here hexec rfl (hb hbytes d44) rfl ?_
      exact Steps.refl _)
    rw [n4]; exact hc
  obtain ⟨v11, T11, X11, E11, g11⟩ := X8.callS hexec (CodL.law l s.heap.size N) hown (wks W (staticW "java/lang/String" 47 CodL.yN)) (wk W CodL.tab) (W := 1) (Nat.le_of_ble_eq_true rfl) (Nat.le_of_ble_eq_true rfl) (Nat.le_refl _) (by show 0 + len + 0 ≤ len; omega) (g := (mkF m 45 #[.val (.ref a), .val (.ref b), .val (.int (Int32.ofNat o)), .val (.int (Int32.ofNat len)), .val .null, .val (.ref s.heap.size)] [.int (Int32.ofNat N.slots.size), .ref s.heap.size, .ref a])) rfl (by rw [hml]; rfl) c10 (argsL := [.ref s.heap.size, .int (Int32.ofNat N.slots.size)]) (rest := [.ref a]) rfl rfl (by show 2 * 0 + (1 + 0) ≤ _; decide) (hb hbytes d45) (⟨rfl, n1⟩)
  obtain ⟨rfl, q11⟩ := E11
  have hB11 := hB1.mv (X8.warmed.alike.symm.trans X11.warmed.alike) q11
  have c12 : Steps p.tables e below (s₁.setTop (entryFrame m #[.ref a, .ref b, .int (Int32.ofNat o), .int (Int32.ofNat len), .null] 6)) (T11.setTop (mkF m 48 #[.val (.ref a), .val (.ref b), .val (.int (Int32.ofNat o)), .val (.int (Int32.ofNat len)), .val .null, .val (.ref s.heap.size)] [.int 0, .ref a])) := g11
  obtain ⟨T13, X13, p13, bl13, sl13, st13⟩ := X11.finit hexec hown (wk W (.fieldLink "java/lang/String" 15 "java/lang/String" "coder" "B")) (Or.inr ⟨_, (wk W (.laysFinal "java/lang/String" "java/lang/String" "coder" "B"))⟩) (Or.inl ⟨rfl, hnm⟩) f2 (Or.inl rfl) hB11 (t := .byte) (by decide +kernel) rfl (g := (mkF m 48 #[.val (.ref a), .val (.ref b), .val (.int (Int32.ofNat o)), .val (.int (Int32.ofNat len)), .val .null, .val (.ref s.heap.size)] [.int 0, .ref a])) rfl (rest := []) rfl (hb hbytes d48)
  have c14 : Steps p.tables e below (s₁.setTop (entryFrame m #[.ref a, .ref b, .int (Int32.ofNat o), .int (Int32.ofNat len), .null] 6)) (T13.setTop (mkF m 54 #[.val (.ref a), .val (.ref b), .val (.int (Int32.ofNat o)), .val (.int (Int32.ofNat len)), .val .null, .val (.ref s.heap.size)] [.ref s.heap.size, .ref a])) := (c12.trans (st13 _ (Steps.refl _))).trans (by
    refine XS.aloadN X13.here hexec rfl (hb hbytes d51) rfl rfl ?_
    refine XS.aload X13.here hexec rfl (hb hbytes d52) rfl rfl ?_
    exact Steps.refl _)
  obtain ⟨T15, X15, p15, bl15, sl15, st15⟩ := X13.finit hexec hown (wk W (.fieldLink "java/lang/String" 9 "java/lang/String" "value" "[B")) (Or.inr ⟨_, (wk W (.laysFinal "java/lang/String" "java/lang/String" "value" "[B"))⟩) (Or.inl ⟨rfl, hnm⟩) f1 (Or.inl rfl) bl13 (t := (.array .byte)) (by decide +kernel) rfl (g := (mkF m 54 #[.val (.ref a), .val (.ref b), .val (.int (Int32.ofNat o)), .val (.int (Int32.ofNat len)), .val .null, .val (.ref s.heap.size)] [.ref s.heap.size, .ref a])) rfl (rest := []) rfl (hb hbytes d54)
  have c16 : Steps p.tables e below (s₁.setTop (entryFrame m #[.ref a, .ref b, .int (Int32.ofNat o), .int (Int32.ofNat len), .null] 6)) (T15.setTop (mkF m 57 #[.val (.ref a), .val (.ref b), .val (.int (Int32.ofNat o)), .val (.int (Int32.ofNat len)), .val .null, .val (.ref s.heap.size)] [])) := c14.trans (st15 _ (Steps.refl _))
  have ap := apart (Or.inr ⟨_, (wk W (.laysFinal "java/lang/String" "java/lang/String" "value" "[B"))⟩) (Or.inr ⟨_, (wk W (.laysFinal "java/lang/String" "java/lang/String" "coder" "B"))⟩) f1 f2 (t₁ := .array .byte) (t₂ := .byte) (by decide +kernel) (by decide +kernel) (by decide)
  have al := X8.warmed.alike.symm.trans X15.warmed.alike
  have n7 : T11.heap[s.heap.size]? = some N := by rw [q11]; exact n1.1
  exact ⟨T15, none, _, _, _, X15, by simp, rfl, by omega, (fun _ => rfl), ⟨rfl, _, N, bl15, ((Same.refl D _).set _ (by simp)).set _ (by simp), sl15, (Cell.slots_setSlot_ne _ ap).trans sl13, n1.keep al (p15.other hne (p13.other hne n7)), n2, by rw [al.findClass]; exact n3, n4, n5, fun y c h1 h2 => p15.other h1 (p13.other h1 (by rw [q11]; exact n6 y c h2)), by rw [p15.2.2, p13.2.2, q11]; exact z8⟩, fun fs hl => c16.trans (X15.returnOut hexec hret (hb hbytes d57) hl)⟩
end New4
namespace New1
def yN : MethodName := ⟨"java/lang/String", "<init>", "([C)V"⟩
abbrev yB : ByteArray := jdk_42_method_3_code
theorem d0 : decode yB 0 = .ok (.aload_n 0, 1) := by decide +kernel
theorem d1 : decode yB 1 = .ok (.aload_n 1, 1) := by decide +kernel
theorem d2 : decode yB 2 = .ok (.iconst 0, 1) := by decide +kernel
theorem d3 : decode yB 3 = .ok (.aload_n 1, 1) := by decide +kernel
theorem d4 : decode yB 4 = .ok (.arraylength, 1) := by decide +kernel
theorem d5 : decode yB 5 = .ok (.aconst_null, 1) := by decide +kernel
theorem d6 : decode yB 6 = .ok (.invokespecial 27, 3) := by decide +kernel
theorem d9 : decode yB 9 = .ok (.return_, 1) := by decide +kernel
def site : List Cond := [New4.tab] ++ initW "java/lang/String" 27 New4.yN
def tab : Cond := tabOf yN yB 2 none site
def P (a : Addr) (D : Cell) (fV fC : Field) (b : Addr) (A : Cell) (z : Int32) (args : Array Value) (s : State) : Prop := args = #[.ref a, .ref b] ∧ Blank "java/lang/String" a D s ∧ Found "java/lang/String" "value" "[B" fV s ∧ Found "java/lang/String" "coder" "B" fC s ∧ Ch b A s ∧ StaticIs s "java/lang/String" "COMPACT_STRINGS" "Z" (.int z) ∧ ¬ z = 0 ∧ 0 < A.slots.size ∧ A.slots.size ≤ 536870912 ∧ ∀ i, i < A.slots.size → ¬ 255 < cv A i
def E (a : Addr) (D : Cell) (fV fC : Field) (A : Cell) (r : Option Value) (s u : State) : Prop := Got a D fV fC A 0 A.slots.size r s u
/-- new String(chars), not empty, no char above 255: a Latin-1 String of their low bytes -/
theorem law (l : Launch) (a : Addr) (D : Cell) (fV fC : Field) (b : Addr) (A : Cell) (z : Int32) : Law l yN 2 1 3 52 yB 2 none site (P a D fV fC b A z) (E a D fV fC A) [⟨a, fC.slot⟩, ⟨a, fV.slot⟩] 1 A.slots.size := by
  refine Law.of_walk (plainFor_of_name (by decide +kernel)) (by decide +kernel) (by decide +kernel) (by decide) (fun _ _ h => by rw [h.1]; rfl) (fun _ U U' hal hh h => ⟨h.1, h.2.1.mv hal hh, h.2.2.1.al hal, h.2.2.2.1.al hal, h.2.2.2.2.1.mv hal hh, h.2.2.2.2.2.1.there hal hh, h.2.2.2.2.2.2⟩) (fun r U U' V V' h1 hal h2 h => Got.mv r U U' V V' h1 hal h2 h) ?_
  intro p e s m args below meth c s₁ X0 hexec hbytes hml hret hlk hnm hown hh0 W hP
  obtain ⟨rfl, hB, f1, f2, hA, s1, hz, l0, l2, hp⟩ := hP
  have c1 : Steps p.tables e below (s₁.setTop (entryFrame m #[.ref a, .ref b] 2)) (s₁.setTop (mkF m 0 #[.val (.ref a), .val (.ref b)] [])) := entry rfl
  have c2 : Steps p.tables e below (s₁.setTop (entryFrame m #[.ref a, .ref b] 2)) (s₁.setTop (mkF m 6 #[.val (.ref a), .val (.ref b)] [.null, .int (Int32.ofNat A.slots.size), .int 0, .ref b, .ref a])) := c1.trans (by
    refine XS.aloadN X0.here hexec rfl (hb hbytes d0) rfl rfl ?_
    refine XS.aloadN X0.here hexec rfl (hb hbytes d1) rfl rfl ?_
    refine iconstV X0.here hexec rfl 0 (hb hbytes d2) (by decide) ?_
    refine XS.aloadN X0.here hexec rfl (hb hbytes d3) rfl rfl ?_
    refine X0.alen hexec (hA.1.mv X0.warmed.alike hh0) rfl rfl (hb hbytes d4) ?_
    refine XS.aconstNull X0.here hexec rfl (hb hbytes d5) ?_
    exact Steps.refl _)
  obtain ⟨v3, T3, X3, E3, g3⟩ := X0.callN hexec (New4.law l a D fV fC b A z 0 A.slots.size) rfl hown (wks W (initW "java/lang/String" 27 New4.yN)) (W New4.tab (by simp only [site, List.mem_cons, List.mem_append, true_or, or_true])) (W := 0) (Nat.le_of_ble_eq_true rfl) (Nat.le_of_ble_eq_true rfl) (Nat.le_refl _) (by show 0 + A.slots.size ≤ A.slots.size; omega) (g := (mkF m 6 #[.val (.ref a), .val (.ref b)] [.null, .int (Int32.ofNat A.slots.size), .int (Int32.ofNat 0), .ref b, .ref a])) rfl (by rw [hml]; rfl) c2 (argsL := [.ref b, .int (Int32.ofNat 0), .int (Int32.ofNat A.slots.size), .null]) (rest := []) rfl rfl (by show 2 * 0 + 0 ≤ _; decide) (hb hbytes d6) (⟨rfl, hB.mv X0.warmed.alike hh0, f1.al X0.warmed.alike, f2.al X0.warmed.alike, hA.mv X0.warmed.alike hh0, s1.there X0.warmed.alike hh0, hz, l0, by omega, l2, fun i hi => by rw [Nat.zero_add]; exact hp i hi⟩)
  have e0 := Got.mv _ s₁ s _ _ hh0.symm (Vm.Alike.refl _) rfl E3
  obtain rfl := e0.1
  have c4 : Steps p.tables e below (s₁.setTop (entryFrame m #[.ref a, .ref b] 2)) (T3.setTop (mkF m 9 #[.val (.ref a), .val (.ref b)] [])) := g3
  exact ⟨T3, none, _, _, _, X3, by simp, rfl, by omega, (fun _ => rfl), e0, fun fs hl => c4.trans (X3.returnOut hexec hret (hb hbytes d9) hl)⟩
theorem pays {l : Launch} {R : Room} {p : Program} {e : Env} {below : List Frame} {s : State} {sargs : Array Value} {len W : Nat} (a : Addr) (D : Cell) (fV fC : Field) (b : Addr) (A : Cell) (z : Int32) (htab : tab.before sargs s = true) (hfr : 4 ≤ R.frames) (hlo : W + 65 ≤ R.locals) :
    Back l R p e below s sargs yN len W (fun A₁ a₁ => A₁.cells + 1 ≤ R.cells ∧ A₁.slots + A.slots.size ≤ R.slots ∧ P a D fV fC b A z a₁ A₁.U) (fun A₁ _ v₁ B₁ => E a D fV fC A v₁ A₁.U B₁.U ∧ B₁.locs = A₁.locs ++ [⟨a, fC.slot⟩, ⟨a, fV.slot⟩] ∧ B₁.cells = A₁.cells + 1 ∧ B₁.slots = A₁.slots + A.slots.size) :=
  (law l a D fV fC b A z).pays htab hfr (by omega)
end New1
end StrChars
namespace StrChars.Road
open Jvm Sem ClassFile Op Lib Jvm.Stand Jvm.Free Jvm.Free.XT
open Jvm.Lib.Cold (StaticIs)
abbrev ST : String := "java/lang/String"
/-- every table word that New1's law asks, flat -/
abbrev words : List Jvm.Cond := [.code New1.yN New1.yB 2 none, .initialized ST, .methodLink ST 27 New4.yN, .instanceMethod New4.yN,
  .code New4.yN New4.yB 6 none, .fieldLink ST 38 ST "COMPACT_STRINGS" "Z", .laysFinal ST ST "value" "[B", .fieldLink ST 9 ST "value" "[B", .laysFinal ST ST "coder" "B", .fieldLink ST 15 ST "coder" "B",
  .methodLink ST 1 Lib.objectInit, .instanceMethod Lib.objectInit, .code Lib.objectInit ⟨#[0xb1]⟩ 1 none, .methodLink ST 177 Cmp3.yN, .static Cmp3.yN, .methodLink ST 47 CodL.yN, .static CodL.yN,
  .code Cmp3.yN Cmp3.yB 6 (some (.array .byte)), .initialized U16, .arrayClass .byte, .methodLink U16 115 Cmp5.yN, .static Cmp5.yN, .code Cmp5.yN Cmp5.yB 7 (some .int), .code CodL.yN CodL.yB 2 (some .byte)]
theorem tab_of {a : Array Value} {s : State} (h : ∀ w ∈ words, w.before a s = true) : New1.tab.before a s = true := by
  have h5 : Cmp5.tab.before a s = true := unparts (wk h (.code Cmp5.yN Cmp5.yB 7 (some .int))) (wks h (.initialized Cmp5.yN.cls :: Cmp5.site))
  have hc : CodL.tab.before a s = true := unparts (wk h (.code CodL.yN CodL.yB 2 (some .byte))) (wks h (.initialized CodL.yN.cls :: CodL.site))
  have q5 : ∀ w ∈ Cmp5.tab :: words, w.before a s = true := fun w hw => (List.mem_cons.mp hw).elim (fun e => e ▸ h5) (h w)
  have h3 : Cmp3.tab.before a s = true := unparts (wk q5 (.code Cmp3.yN Cmp3.yB 6 (some (.array .byte)))) (wks q5 (.initialized Cmp3.yN.cls :: Cmp3.site))
  have q3 : ∀ w ∈ Cmp3.tab :: CodL.tab :: words, w.before a s = true := fun w hw => (List.mem_cons.mp hw).elim (fun e => e ▸ h3) fun hw => (List.mem_cons.mp hw).elim (fun e => e ▸ hc) (h w)
  have h4 : New4.tab.before a s = true := unparts (wk q3 (.code New4.yN New4.yB 6 none)) (wks q3 (.initialized New4.yN.cls :: New4.site))
  have q4 : ∀ w ∈ New4.tab :: words, w.before a s = true := fun w hw => (List.mem_cons.mp hw).elim (fun e => e ▸ h4) (h w)
  exact unparts (wk q4 (.code New1.yN New1.yB 2 none)) (wks q4 (.initialized New1.yN.cls :: New1.site))
/-- the words ride from the start Z to the walk's own state -/
theorem moved {Z s : State} {a0 args : Array Value} (hZ : Z.Warmed39 s.vm) (hw : ∀ d ∈ words, d.before a0 Z = true) : ∀ d ∈ words, d.before args s = true := fun d hd => by
  have q := hw d hd
  have t : ∀ d ∈ words, d = .arrayClass .byte ∨ (d.onTables && d.keepsFace) = true := by decide +kernel
  rcases t d hd with rfl | t
  · exact RoadKit.mvA hZ q
  · exact RoadKit.mv hZ q t
/-- WHAT COMES BACK, over the tables of the start Z: h the heap at the call, h' behind it -/
def Q (Z : State) (x : Addr) (A : Cell) (h : Heap) (v : Option Value) (h' : Heap) (L : List Loc) : Prop := v = none ∧ (∀ y ∈ L, y.base = x) ∧ RoadKit.Keep h h' [x] ∧ h'.size = h.size + 1 ∧ RoadKit.Exa Z h' x ST ∧ RoadKit.Fld Z h' x ST "value" "[B" (.ref h.size) ∧ RoadKit.Fld Z h' x ST "coder" "B" (.int 0) ∧
  (∃ V : Cell, RoadKit.Arr Z h' h.size V .byte ∧ V.vm = .none ∧ Z.vm.findClass "[B" = some V.cls ∧ V.slots.size = A.slots.size ∧ ∀ j, j < A.slots.size → V.slots[j]? = some (.int (lo8 (cv A j)))) ∧
  ∀ (O n d : String) (w : Value), RoadKit.Fld Z h x O n d w → RoadKit.slotOf Z O n d ≠ RoadKit.slotOf Z ST "value" "[B" → RoadKit.slotOf Z O n d ≠ RoadKit.slotOf Z ST "coder" "B" → RoadKit.Fld Z h' x O n d w
/-- **new String(chars) AT A CALL, IN THE ROAD'S FORM**: for specialBack behind newO: x the fresh String, b the char[] with the cell A -/
theorem back {p : Program} {l : Launch} {e : Env} {R : Room} {s : State} {args : Array Value} {below : List Frame} {len W : Nat} {Z : State} {a0 : Array Value} {h : Heap} (hZ : Z.Warmed39 s.vm) (hw : ∀ d ∈ words, d.before a0 Z = true) {kI : Nat} (wi : (Jvm.Cond.instantiable ST kI).before a0 Z = true)
    {x b : Addr} {A : Cell} {z : Int32} {v0 c0 : Value} (E : RoadKit.Exa Z h x ST) (V : RoadKit.Fld Z h x ST "value" "[B" v0) (C : RoadKit.Fld Z h x ST "coder" "B" c0) (K : RoadKit.Arr Z h b A .char) (hty : Typed .char A) (S : RoadKit.Sta Z h ST "COMPACT_STRINGS" "Z" (.int z)) (hz : ¬ z = 0)
    (l0 : 0 < A.slots.size) (l2 : A.slots.size ≤ 536870912) (hp : ∀ i, i < A.slots.size → ¬ 255 < cv A i) (hfr : 4 ≤ R.frames) (hlo : W + 65 ≤ R.locals) :
    Back l R p e below s args New1.yN len W (fun P a => a = #[.ref x, .ref b] ∧ P.U.heap = h ∧ P.cells + 1 ≤ R.cells ∧ P.slots + A.slots.size ≤ R.slots)
      (fun P _ v B => ∃ L, Q Z x A h v B.U.heap L ∧ B.locs = P.locs ++ L ∧ B.cells = P.cells + 1 ∧ B.slots = P.slots + A.slots.size) := by
  intro m meth c P g ig mk a X hg hsize hdg hW hn hp'
  obtain ⟨rfl, rfl, r1, r2⟩ := hp'
  have al : Z.vm.Alike P.U.vm := hZ.alike.trans X.warmed.alike
  obtain ⟨D, cfV, kV, iV, fV, hD, gV, stV, knV, obV, asV, slV⟩ := id V
  obtain ⟨D', cfC, kC, iC, fC, hD', gC, stC, -, -, asC, slC⟩ := id C
  cases hD.symm.trans hD'
  obtain ⟨D2, kD, e1, e2, e3, e4, e5⟩ := id E
  cases hD.symm.trans e1
  obtain ⟨c2, k2, i1, i2, i3, -⟩ := Cond.instantiable_spec wi
  cases e2.symm.trans i1
  cases e3.symm.trans i2
  obtain ⟨kU, u1, u2⟩ := al.2.2 _ _ e3
  have hB : Blank ST x D P.U := ⟨hD, ⟨knV, fun q hq => by rw [hq] at obV; cases obV⟩, by rw [al.findClass]; exact e2, kU, u1, by rw [u2]; exact i3, by rw [u2]; exact e5 i3⟩
  have F1 : Found ST "value" "[B" fV P.U := ⟨SBG.found_only al ⟨cfV, kV, iV, gV⟩, stV⟩
  have F2 : Found ST "coder" "B" fC P.U := ⟨SBG.found_only al ⟨cfC, kC, iC, gC⟩, stC⟩
  have hA : Ch b A P.U := ⟨⟨K.1, State.isArrayOf_alike al K.2.1, K.2.2, by omega⟩, hty⟩
  have hS : StaticIs P.U ST "COMPACT_STRINGS" "Z" (.int z) := by
    obtain ⟨cfS, iS, kS, fS, st, cS, t1, t2, t3, t4, t5, t6, t7⟩ := S
    exact StaticIs.there (s := { Z with heap := P.U.heap }) ⟨cfS, iS, kS, fS, st, cS, t1, t2, t3, t4, t5, (fun q => by rw [q] at t6; cases t6), t7⟩ al rfl
  obtain ⟨v, B, X', ⟨⟨hv, E', V', q1, q2, q3, q4, q5, q6, q7, q8, q9, q10, q11⟩, hl, hc, hs⟩, st⟩ := New1.pays x D fV fC b A z (tab_of (moved hZ hw)) hfr hlo m meth c P g ig mk _ X hg hsize hdg hW hn ⟨r1, r2, rfl, hB, F1, F2, hA, hS, hz, l0, l2, hp⟩
  have al' : Z.vm.Alike B.U.vm := hZ.alike.trans X'.warmed.alike
  have hsz : E'.slots.size = D.slots.size := by
    obtain ⟨-, -, -, kB, w1, w2, w3⟩ := q1
    obtain ⟨kB', y1, y2⟩ := al'.2.2 _ _ e3
    rw [q2.2.1] at w1
    cases w1.symm.trans y1
    rw [w3, e5 i3, y2]
  refine ⟨v, B, X', ⟨_, ⟨hv, ?_, ⟨by omega, fun y cy hy hn' => q10 y cy (by simpa using hn') hy, fun y cy hy => ?_⟩, q11, ⟨E', _, q1.1, by rw [q2.2.1]; exact e2, by rw [q2.2.1]; exact e3, by rw [q2.1]; exact obV, fun _ => by rw [hsz]; exact e5 i3⟩,
    ⟨E', cfV, kV, iV, fV, q1.1, gV, stV, by rw [q2.1]; exact knV, by rw [q2.1]; exact obV, by rw [q2.2.1]; exact asV, q3⟩, ⟨E', cfC, kC, iC, fC, q1.1, gC, stC, by rw [q2.1]; exact knV, by rw [q2.1]; exact obV, by rw [q2.2.1]; exact asC, q4⟩,
    ⟨V', ⟨q5.1, State.isArrayOf_alike al'.symm q5.2.1, q5.2.2.1⟩, q6, by rw [← al'.findClass]; exact q7, q8, fun j hj => by have := q9 j hj; rwa [Nat.zero_add] at this⟩, fun O n d w F n1 n2 => ?_⟩, hl, hc, hs⟩, st⟩
  · intro y hy
    simp only [List.mem_cons, List.not_mem_nil, or_false] at hy
    rcases hy with rfl | rfl <;> rfl
  · by_cases q : y = x
    · subst q
      cases hD.symm.trans hy
      exact ⟨E', q1.1, q2.2.1, q2.1, hsz⟩
    · exact ⟨cy, q10 y cy q hy, rfl, rfl, rfl⟩
  · obtain ⟨D3, cf, k, i, f, g1, g2, g3, g4, g5, g6, g7⟩ := F
    cases hD.symm.trans g1
    simp only [RoadKit.slotOf, g2, gV, gC, Option.map_some, Option.getD_some] at n1 n2
    exact ⟨E', cf, k, i, f, q1.1, g2, g3, by rw [q2.1]; exact g4, by rw [q2.1]; exact g5, by rw [q2.2.1]; exact g6, by rw [q2.2.2 f.slot (by simp [n1, n2])]; exact g7⟩
end StrChars.Road
namespace StrChars.Road
open Jvm Sem ClassFile Op Lib Jvm.Stand Jvm.Free Jvm.Free.XT
/-- WHAT COMES BACK, the byte[] as a list of values -/
def QA (Z : State) (x : Addr) (zn : Int32) (cs : List Int32) (h : Heap) (v : Option Value) (h' : Heap) (L : List Loc) : Prop := v = none ∧ (∀ y ∈ L, y.base = x) ∧ RoadKit.Keep h h' [x] ∧ h'.size = h.size + 1 ∧ RoadKit.Exa Z h' x ST ∧ RoadKit.Fld Z h' x ST "value" "[B" (.ref h.size) ∧ RoadKit.Fld Z h' x ST "coder" "B" (.int 0) ∧
  (∃ kb, Z.vm.findClass "[B" = some kb ∧ RoadKit.Arv Z h' h.size kb .byte zn (cs.map fun c => .int (lo8 c)) (.int 0)) ∧
  ∀ (O n d : String) (w : Value), RoadKit.Fld Z h x O n d w → RoadKit.slotOf Z O n d ≠ RoadKit.slotOf Z ST "value" "[B" → RoadKit.slotOf Z O n d ≠ RoadKit.slotOf Z ST "coder" "B" → RoadKit.Fld Z h' x O n d w
/-- **new String(chars) AT A CALL, THE ARRAYS AS LISTS**: the char[] at b holds cs, not empty, no char above 255 -/
theorem backArv {p : Program} {l : Launch} {e : Env} {R : Room} {s : State} {args : Array Value} {below : List Frame} {len W : Nat} {Z : State} {a0 : Array Value} {h : Heap} (hZ : Z.Warmed39 s.vm) (hw : ∀ d ∈ words, d.before a0 Z = true) {kI : Nat} (wi : (Jvm.Cond.instantiable ST kI).before a0 Z = true)
    {x b : Addr} {k : ClassId} {zn z : Int32} {cs : List Int32} {dv v0 c0 : Value} (E : RoadKit.Exa Z h x ST) (V : RoadKit.Fld Z h x ST "value" "[B" v0) (C : RoadKit.Fld Z h x ST "coder" "B" c0) (K : RoadKit.Arv Z h b k .char zn (cs.map Value.int) dv) (S : RoadKit.Sta Z h ST "COMPACT_STRINGS" "Z" (.int z)) (hz : ¬ z = 0)
    (hlen : zn.toNatClampNeg = cs.length) (h0 : 0 < cs.length) (hbig : cs.length ≤ 536870912) (hall : ∀ c ∈ cs, ¬ 255 < c) (hfr : 4 ≤ R.frames) (hlo : W + 65 ≤ R.locals) :
    Back l R p e below s args New1.yN len W (fun P a => a = #[.ref x, .ref b] ∧ P.U.heap = h ∧ P.cells + 1 ≤ R.cells ∧ P.slots + cs.length ≤ R.slots)
      (fun P _ v B => ∃ L, QA Z x zn cs h v B.U.heap L ∧ B.locs = P.locs ++ L ∧ B.cells = P.cells + 1 ∧ B.slots = P.slots + cs.length) := by
  obtain ⟨A, K1, K2, K3, K4, K5, K6⟩ := K
  have e : A.slots.size = cs.length := K3.trans hlen
  have hat : ∀ (i : Nat) (hi : i < cs.length), A.slots[i]? = some (.int cs[i]) := fun i hi => by rw [K5 i (by omega)]; simp [List.getD_eq_getElem?_getD, hi]
  have hcv : ∀ (i : Nat) (hi : i < cs.length), cv A i = cs[i] := fun i hi => by unfold cv; rw [hat i hi]
  have hty : Typed .char A := fun i v hv => by
    have hi : i < A.slots.size := (Array.getElem?_eq_some_iff.mp hv).1
    have q := K5 i hi
    rw [hv] at q
    rw [Option.some.inj q]
    exact K6 i hi
  refine Back.mono (back hZ hw wi E V C K1 hty S hz (by omega) (by omega) (fun i hi => by rw [hcv i (by omega)]; exact hall _ (List.getElem_mem _)) hfr hlo) (fun P a hp => ⟨hp.1, hp.2.1, hp.2.2.1, by rw [e]; exact hp.2.2.2⟩) (fun P a v B hp hq => ?_)
  obtain ⟨L, ⟨q1, q2, q3, q4, q5, q6, q7, ⟨V', v1, v2, v3, v4, v5⟩, q9⟩, hl, hc, hs⟩ := hq
  refine ⟨L, ⟨q1, q2, q3, q4, q5, q6, q7, ⟨V'.cls, v3, V', v1, rfl, by rw [v4, e, hlen], K4, fun i hi => ?_, fun i hi => ?_⟩, q9⟩, hl, hc, by rw [hs, e]⟩
  · have hi' : i < cs.length := by omega
    rw [v5 i (by omega), hcv i hi']; simp [List.getD_eq_getElem?_getD, hi']
  · have hi' : i < cs.length := by omega
    simp only [List.getD_eq_getElem?_getD, List.getElem?_map, List.getElem?_eq_getElem hi', Option.map_some, Option.getD_some]
    exact fits_lo8 _
end StrChars.Road
namespace StrChars.Road
open Jvm Sem ClassFile Op Lib Jvm.Stand Jvm.Free Jvm.Free.XT
/-- WHAT COMES BACK, in the writer's own shape -/
def QV (Z : State) (x : Addr) (N : Int32) (bs : List Int32) (h : Heap) (n0 : Nat) (v : Option Value) (h' : Heap) (L : List Loc) : Prop := v = none ∧ RoadKit.Fr n0 L ∧ RoadKit.Keep h h' [x] ∧ RoadKit.Exa Z h' x ST ∧ RoadKit.Fld Z h' x ST "coder" "B" (.int 0) ∧
  ∃ (t : Addr) (kb : ClassId), n0 ≤ t ∧ h.size ≤ t ∧ ¬ t = x ∧ RoadKit.Fld Z h' x ST "value" "[B" (.ref t) ∧ RoadKit.Arv Z h' t kb .byte N (bs.map Value.int) (.int 0)
/-- **new String(chars) AT A CALL, FOR THE WRITER**: a char[] of n known ints, each 0 to 255 -/
theorem backV {p : Program} {l : Launch} {e : Env} {R : Room} {s : State} {args : Array Value} {below : List Frame} {len W : Nat} {Z : State} {a0 : Array Value} {h : Heap} (hZ : Z.Warmed39 s.vm) (hw : ∀ d ∈ words, d.before a0 Z = true) {kI : Nat} (wi : (Jvm.Cond.instantiable ST kI).before a0 Z = true)
    {x b : Addr} {kC : ClassId} {cs bs : List Int32} {d v0 c0 : Value} {z N : Int32} {n n0 : Nat} (hx0 : n0 ≤ x) (hh0 : n0 ≤ h.size) (E : RoadKit.Exa Z h x ST) (V : RoadKit.Fld Z h x ST "value" "[B" v0) (C : RoadKit.Fld Z h x ST "coder" "B" c0) (K : RoadKit.Arv Z h b kC .char N (cs.map Value.int) d) (S : RoadKit.Sta Z h ST "COMPACT_STRINGS" "Z" (.int z)) (hz : ¬ z = 0)
    (hn : cs.length = n) (hN : N = Int32.ofNat n) (l0 : 0 < n) (l2 : n ≤ 4000) (hp : ∀ c ∈ cs, ¬ c < 0 ∧ ¬ (255 : Int32) < c) (hb : bs = cs.map (fun c => c.toInt8.toInt32)) (hfr : 4 ≤ R.frames) (hlo : W + 65 ≤ R.locals) :
    Back l R p e below s args (⟨"java/lang/String", "<init>", "([C)V"⟩ : MethodName) len W (fun P a => a = #[.ref x, .ref b] ∧ P.U.heap = h ∧ P.cells + 1 ≤ R.cells ∧ P.slots + n ≤ R.slots)
      (fun P _ v B => ∃ L, QV Z x N bs h n0 v B.U.heap L ∧ B.locs = P.locs ++ L ∧ B.cells = P.cells + 1 ∧ B.slots = P.slots + n) := by
  subst hn hN hb
  refine Back.mono (backArv hZ hw wi E V C K S hz (n32 (by omega)) l0 (by omega) (fun c hc => (hp c hc).2) hfr hlo) (fun P a hp => hp) (fun P a v B hp hq => ?_)
  obtain ⟨L, ⟨q1, q2, q3, q4, q5, q6, q7, ⟨kb, v1, v2⟩, q9⟩, hl, hc, hs⟩ := hq
  exact ⟨L, ⟨q1, fun y hy => by rw [q2 y hy]; exact hx0, q3, q5, q7, h.size, kb, hh0, Nat.le_refl _, Nat.ne_of_gt E.lt, q6, by rw [List.map_map]; exact v2⟩, hl, hc, hs⟩
end StrChars.Road
namespace StrChars
open Jvm Sem ClassFile Op Lib Jvm.Stand Jvm.Free.XT Jvm.Free.ALB Jvm.Free.JM Jvm.Free
open Jvm.Lib.Cold (StaticIs)
def hi8 (x : Int32) : Int32 := lo8 (x >>> ((8 : Int32) &&& 31))
/-- what StringUTF16.getChar makes of two bytes -/
def pairCh (u v : Int32) : Int32 := (((u &&& 255) <<< ((0 : Int32) &&& 31)) ||| ((v &&& 255) <<< ((8 : Int32) &&& 31))).toUInt32.toUInt16.toUInt32.toInt32
theorem shr0 (c : Int32) : c >>> ((0 : Int32) &&& 31) = c := by
  have e : ((0 : Int32) &&& 31) = 0 := by decide
  rw [e]
  apply Int32.toBitVec_inj.mp
  rw [Int32.toBitVec_shiftRight]
  have e1 : ((0 : Int32).toBitVec.smod 32) = 0#32 := by decide
  rw [e1, BitVec.sshiftRight_eq']
  exact BitVec.sshiftRight_zero
theorem lo8_and (x : Int32) : (lo8 x &&& 255).toBitVec.toNat = x.toBitVec.toNat % 256 := by
  have h : (lo8 x).toBitVec = (x.toBitVec.signExtend 8).signExtend 32 := by rw [lo8, Int8.toBitVec_toInt32, Int32.toBitVec_toInt8]
  rw [Int32.toBitVec_and, BitVec.toNat_and, h]
  have e : ((x.toBitVec.signExtend 8).signExtend 32).toNat % 256 = x.toBitVec.toNat % 256 := by
    rw [BitVec.toNat_signExtend]
    have hlt := x.toBitVec.isLt
    simp only [BitVec.toNat_setWidth, BitVec.toNat_signExtend]
    split <;> split <;> omega
  rw [← e]
  exact Nat.and_two_pow_sub_one_eq_mod _ 8
theorem pair_says {c : Int32} (h0 : ¬ c < 0) (h1 : ¬ 65535 < c) : pairCh (lo8 c) (hi8 c) = c := by
  rw [Int32.lt_iff_toInt_lt] at h0 h1
  have e0 : (0 : Int32).toInt = 0 := rfl
  have e1 : (65535 : Int32).toInt = 65535 := rfl
  have hc : c.toInt = c.toBitVec.toNat := by
    have := c.toBitVec.isLt
    have e : c.toInt = c.toBitVec.toInt := rfl
    rw [e] at h0 h1
    rw [e]
    rw [BitVec.toInt_eq_toNat_cond] at h0 h1 ⊢
    split at h0 <;> split <;> omega
  have hn : c.toBitVec.toNat < 65536 := by omega
  have a1 := lo8_and c
  have a2 : (hi8 c &&& 255).toBitVec.toNat = c.toBitVec.toNat / 256 := by
    rw [hi8, lo8_and]
    have e : ((8 : Int32) &&& 31) = 8 := by decide
    rw [e, Int32.toBitVec_shiftRight]
    have e2 : ((8 : Int32).toBitVec.smod 32) = 8#32 := by decide
    rw [e2, BitVec.sshiftRight_eq', BitVec.toNat_sshiftRight_of_msb_false (by rw [BitVec.msb_eq_false_iff_two_mul_lt]; omega)]
    show c.toBitVec.toNat >>> 8 % 256 = _
    rw [Nat.shiftRight_eq_div_pow]
    omega
  unfold pairCh
  apply Int32.toBitVec_inj.mp
  apply BitVec.eq_of_toNat_eq
  have f0 : ((0 : Int32) &&& 31) = 0 := by decide
  have f8 : ((8 : Int32) &&& 31) = 8 := by decide
  rw [f0, f8]
  have g : (((lo8 c &&& 255) <<< (0 : Int32)) ||| ((hi8 c &&& 255) <<< (8 : Int32))).toBitVec.toNat = c.toBitVec.toNat := by
    rw [Int32.toBitVec_or, Int32.toBitVec_shiftLeft, Int32.toBitVec_shiftLeft]
    have s0 : ((0 : Int32).toBitVec.smod 32) = 0#32 := by decide
    have s8 : ((8 : Int32).toBitVec.smod 32) = 8#32 := by decide
    rw [s0, s8, BitVec.toNat_or]
    simp only [BitVec.shiftLeft_eq', BitVec.toNat_shiftLeft, a1, a2]
    show (c.toBitVec.toNat % 256) <<< 0 % 2 ^ 32 ||| (c.toBitVec.toNat / 256) <<< 8 % 2 ^ 32 = _
    rw [Nat.shiftLeft_zero, Nat.mod_eq_of_lt (show c.toBitVec.toNat % 256 < 2 ^ 32 by omega), Nat.mod_eq_of_lt (show (c.toBitVec.toNat / 256) <<< 8 < 2 ^ 32 by rw [Nat.shiftLeft_eq]; omega), Nat.or_comm, ← Nat.shiftLeft_add_eq_or_of_lt (by omega), Nat.shiftLeft_eq]
    omega
  show BitVec.toNat (((((lo8 c &&& 255) <<< (0 : Int32)) ||| ((hi8 c &&& 255) <<< (8 : Int32))).toBitVec.setWidth 16).setWidth 32) = _
  rw [BitVec.toNat_setWidth, BitVec.toNat_setWidth, g]
  omega
end StrChars
namespace StrChars
open Jvm Sem ClassFile Op Lib Jvm.Stand Jvm.Free.XT Jvm.Free.ALB Jvm.Free.JM Jvm.Free
open Jvm.Lib.Cold (StaticIs)
theorem shr1 {n : Nat} (h : 2 * n < 2 ^ 31) : Int32.ofNat (2 * n) >>> ((1 : Int32) &&& 31) = Int32.ofNat n := by
  have e : ((1 : Int32) &&& 31) = 1 := by decide
  rw [e]
  apply Int32.toBitVec_inj.mp
  rw [Int32.toBitVec_shiftRight]
  have e1 : ((1 : Int32).toBitVec.smod 32) = 1#32 := by decide
  have hm : (BitVec.ofNat 32 (2 * n)).toNat = 2 * n := by rw [BitVec.toNat_ofNat, Nat.mod_eq_of_lt (by omega)]
  rw [e1, BitVec.sshiftRight_eq']
  apply BitVec.eq_of_toNat_eq
  show ((BitVec.ofNat 32 (2 * n)).sshiftRight 1).toNat = (BitVec.ofNat 32 n).toNat
  rw [BitVec.toNat_sshiftRight_of_msb_false (by rw [BitVec.msb_eq_false_iff_two_mul_lt, hm]; omega), hm, BitVec.toNat_ofNat, Nat.shiftRight_eq_div_pow]
  omega
/-- the array's cell V codes the n chars f 0 .. f (n - 1) by the coder cd, as the JDK does: coder 1 just where some char is above 255 -/
def Cod (cd : Int32) (n : Nat) (f : Nat → Int32) (V : Cell) : Prop := (cd = 0 ∧ V.slots.size = n ∧ ∀ j, j < n → V.slots[j]? = some (.int (lo8 (f j))) ∧ ¬ 255 < f j) ∨ (cd = 1 ∧ V.slots.size = 2 * n ∧ (∀ j, j < n → V.slots[2 * j]? = some (.int (lo8 (f j))) ∧ V.slots[2 * j + 1]? = some (.int (hi8 (f j)))) ∧ ∃ j, j < n ∧ 255 < f j)
theorem Cod.cd {cd : Int32} {n : Nat} {f : Nat → Int32} {V : Cell} (h : Cod cd n f V) : cd = 0 ∨ cd = 1 := h.imp (fun q => q.1) fun q => q.1
theorem Cod.len {cd : Int32} {n : Nat} {f : Nat → Int32} {V : Cell} (h : Cod cd n f V) (hs : V.slots.size < 2 ^ 31) : Int32.ofNat V.slots.size >>> (cd &&& 31) = Int32.ofNat n := by
  rcases h with ⟨rfl, h, -⟩ | ⟨rfl, h, -⟩
  · rw [shr0, h]
  · rw [h, shr1 (by omega)]
/-- **x is a String of the n chars f 0 .. f (n - 1)**, Latin-1 or UTF-16; its array at t has the cell V -/
def Txt (x t : Addr) (V : Cell) (cd : Int32) (n : Nat) (f : Nat → Int32) (U : State) : Prop := Exact "java/lang/String" x U ∧ Has x "java/lang/String" "value" "[B" (.ref t) U ∧ Has x "java/lang/String" "coder" "B" (.int cd) U ∧ XT.Arr .byte t V U ∧ Cod cd n f V ∧ ∀ j, j < n → ¬ f j < 0 ∧ ¬ 65535 < f j
theorem Txt.mv {x t : Addr} {V : Cell} {cd : Int32} {n : Nat} {f : Nat → Int32} {U U' : State} (h : Txt x t V cd n f U) (hal : U.vm.Alike U'.vm) (hh : U'.heap = U.heap) : Txt x t V cd n f U' := ⟨h.1.mv hal hh, h.2.1.mv hal hh, h.2.2.1.mv hal hh, h.2.2.2.1.mv hal hh, h.2.2.2.2⟩
namespace Cdr
def yN : MethodName := ⟨"java/lang/String", "coder", "()B"⟩
abbrev yB : ByteArray := jdk_42_method_152_code
theorem d0 : decode yB 0 = .ok (.getstatic 38, 3) := by decide +kernel
theorem d3 : decode yB 3 = .ok (.ifCond (.eq) 10, 3) := by decide +kernel
theorem d6 : decode yB 6 = .ok (.aload_n 0, 1) := by decide +kernel
theorem d7 : decode yB 7 = .ok (.getfield 15, 3) := by decide +kernel
theorem d10 : decode yB 10 = .ok (.goto 4, 3) := by decide +kernel
theorem d14 : decode yB 14 = .ok (.ireturn, 1) := by decide +kernel
def site : List Cond := [.fieldLink "java/lang/String" 38 "java/lang/String" "COMPACT_STRINGS" "Z", .fieldLink "java/lang/String" 15 "java/lang/String" "coder" "B"]
def tab : Cond := tabOf yN yB 1 (some .byte) site
def P (x : Addr) (cd z : Int32) (args : Array Value) (s : State) : Prop := args = #[.ref x] ∧ Has x "java/lang/String" "coder" "B" (.int cd) s ∧ (cd = 0 ∨ cd = 1) ∧ StaticIs s "java/lang/String" "COMPACT_STRINGS" "Z" (.int z) ∧ ¬ z = 0
def E (cd : Int32) (r : Option Value) (s u : State) : Prop := XT.PureE (some (.int cd)) r s u
theorem law (l : Launch) (x : Addr) (cd z : Int32) : Law l yN 1 0 0 0 yB 1 (some .byte) site (P x cd z) (E cd) [] 0 0 := by
  refine Law.of_walk (plainFor_of_name (by decide +kernel)) (by decide +kernel) (by decide +kernel) (by decide) (fun _ _ h => by rw [h.1]; rfl) (fun _ U U' hal hh h => ⟨h.1, h.2.1.mv hal hh, h.2.2.1, h.2.2.2.1.there hal hh, h.2.2.2.2⟩) (fun r U U' V V' h1 hal h2 h => XT.PureE.mv r U U' V V' h1 hal h2 h) ?_
  intro p e s m args below meth c s₁ X0 hexec hbytes hml hret hlk hnm hown hh0 W hP
  obtain ⟨rfl, hx, hc, s1, hz⟩ := hP
  have c1 : Steps p.tables e below (s₁.setTop (entryFrame m #[.ref x] 1)) (s₁.setTop (mkF m 0 #[.val (.ref x)] [])) := entry rfl
  obtain ⟨T2, X2, q2, st2⟩ := X0.sget hexec hown (wk W (.fieldLink "java/lang/String" 38 "java/lang/String" "COMPACT_STRINGS" "Z")) s1 (fun _ _ h => by rw [hh0]; exact h) (g := (mkF m 0 #[.val (.ref x)] [])) rfl (hb hbytes d0)
  have hh2 := q2.trans hh0
  have c3 : Steps p.tables e below (s₁.setTop (entryFrame m #[.ref x] 1)) (T2.setTop (mkF m 7 #[.val (.ref x)] [.ref x])) := (c1.trans (st2 _ (Steps.refl _))).trans (by
    refine XS.ifNo X2.here hexec rfl (hb hbytes d3) rfl (i0_eq_f hz) ?_
    refine XS.aloadN X2.here hexec rfl (hb hbytes d6) rfl rfl ?_
    exact Steps.refl _)
  obtain ⟨T4, X4, q4, st4⟩ := X2.hget hexec hown (wk W (.fieldLink "java/lang/String" 15 "java/lang/String" "coder" "B")) (hx.mv X2.warmed.alike hh2) (g := (mkF m 7 #[.val (.ref x)] [.ref x])) rfl (rest := []) rfl (hb hbytes d7)
  have c5 : Steps p.tables e below (s₁.setTop (entryFrame m #[.ref x] 1)) (T4.setTop (mkF m 14 #[.val (.ref x)] [.int cd])) := (c3.trans (st4 _ (Steps.refl _))).trans (by
    refine XS.goto X4.here hexec rfl (pc0 := 10) rfl (hb hbytes d10) (by decide) rfl ?_
    exact Steps.refl _)
  exact ⟨T4, some (.int cd), _, _, _, X4, rfl, rfl, rfl, (fun h => by cases h), ⟨rfl, q4.trans hh2⟩, fun fs hl => c5.trans (X4.ireturnOut hexec hret (by rcases hc with rfl | rfl <;> rfl) (Or.inr (Or.inr (Or.inl rfl))) (hb hbytes d14) hl)⟩
end Cdr
namespace Len
def yN : MethodName := ⟨"java/lang/String", "length", "()I"⟩
abbrev yB : ByteArray := jdk_42_method_54_code
theorem d0 : decode yB 0 = .ok (.aload_n 0, 1) := by decide +kernel
theorem d1 : decode yB 1 = .ok (.getfield 9, 3) := by decide +kernel
theorem d4 : decode yB 4 = .ok (.arraylength, 1) := by decide +kernel
theorem d5 : decode yB 5 = .ok (.aload_n 0, 1) := by decide +kernel
theorem d6 : decode yB 6 = .ok (.invokevirtual 335, 3) := by decide +kernel
theorem d9 : decode yB 9 = .ok (.ishr, 1) := by decide +kernel
theorem d10 : decode yB 10 = .ok (.ireturn, 1) := by decide +kernel
def site : List Cond := [.fieldLink "java/lang/String" 9 "java/lang/String" "value" "[B", Cdr.tab] ++ virtW "java/lang/String" 335 "java/lang/String" Cdr.yN Cdr.yN
def tab : Cond := tabOf yN yB 1 (some .int) site
def P (x t : Addr) (V : Cell) (cd : Int32) (n : Nat) (f : Nat → Int32) (z : Int32) (args : Array Value) (s : State) : Prop := args = #[.ref x] ∧ Txt x t V cd n f s ∧ StaticIs s "java/lang/String" "COMPACT_STRINGS" "Z" (.int z) ∧ ¬ z = 0
def E (n : Nat) (r : Option Value) (s u : State) : Prop := XT.PureE (some (.int (Int32.ofNat n))) r s u
/-- length() of a String of n chars, in either coding -/
theorem law (l : Launch) (x t : Addr) (V : Cell) (cd : Int32) (n : Nat) (f : Nat → Int32) (z : Int32) : Law l yN 1 0 1 13 yB 1 (some .int) site (P x t V cd n f z) (E n) [] 0 0 := by
  refine Law.of_walk (plainFor_of_name (by decide +kernel)) (by decide +kernel) (by decide +kernel) (by decide) (fun _ _ h => by rw [h.1]; rfl) (fun _ U U' hal hh h => ⟨h.1, h.2.1.mv hal hh, h.2.2.1.there hal hh, h.2.2.2⟩) (fun r U U' V V' h1 hal h2 h => XT.PureE.mv r U U' V V' h1 hal h2 h) ?_
  intro p e s m args below meth c s₁ X0 hexec hbytes hml hret hlk hnm hown hh0 W hP
  obtain ⟨rfl, hx, s1, hz⟩ := hP
  have v31 := hx.2.2.2.1.2.2.2
  have c1 : Steps p.tables e below (s₁.setTop (entryFrame m #[.ref x] 1)) (s₁.setTop (mkF m 1 #[.val (.ref x)] [.ref x])) := Steps.trans (entry rfl) (by
    show Steps p.tables e below (s₁.setTop (mkF m 0 #[.val (.ref x)] [])) _
    refine XS.aloadN X0.here hexec rfl (hb hbytes d0) rfl rfl ?_
    exact Steps.refl _)
  obtain ⟨T2, X2, q2, st2⟩ := X0.hget hexec hown (wk W (.fieldLink "java/lang/String" 9 "java/lang/String" "value" "[B")) (hx.mv X0.warmed.alike hh0).2.1 (g := (mkF m 1 #[.val (.ref x)] [.ref x])) rfl (rest := []) rfl (hb hbytes d1)
  have hh2 := q2.trans hh0
  have hx2 := hx.mv X2.warmed.alike hh2
  have c3 : Steps p.tables e below (s₁.setTop (entryFrame m #[.ref x] 1)) (T2.setTop (mkF m 6 #[.val (.ref x)] [.ref x, .int (Int32.ofNat V.slots.size)])) := (c1.trans (st2 _ (Steps.refl _))).trans (by
    refine X2.alen hexec hx2.2.2.2.1 rfl rfl (hb hbytes d4) ?_
    refine XS.aloadN X2.here hexec rfl (hb hbytes d5) rfl rfl ?_
    exact Steps.refl _)
  obtain ⟨v4, T4, X4, E4, g4⟩ := X2.callV hexec (Cdr.law l x cd z) hown (wks W (virtW "java/lang/String" 335 "java/lang/String" Cdr.yN Cdr.yN)) rfl (by decide) (wk W Cdr.tab) (W := 1) (Nat.le_of_ble_eq_true rfl) (Nat.le_of_ble_eq_true rfl) (Nat.le_refl _) (Nat.le_refl _) (hx2.1.fc X2.warmed.alike) hx2.1.is (g := (mkF m 6 #[.val (.ref x)] [.ref x, .int (Int32.ofNat V.slots.size)])) rfl (by rw [hml]; rfl) c3 (argsL := []) (rest := [.int (Int32.ofNat V.slots.size)]) rfl rfl (by show 2 * 0 + (1 + 0) ≤ _; decide) (hb hbytes d6) (⟨rfl, hx2.2.2.1, hx.2.2.2.2.1.cd, s1.there X2.warmed.alike hh2, hz⟩)
  obtain ⟨rfl, q4⟩ := E4
  have c5 : Steps p.tables e below (s₁.setTop (entryFrame m #[.ref x] 1)) (T4.setTop (mkF m 10 #[.val (.ref x)] [.int (Int32.ofNat V.slots.size >>> (cd &&& 31))])) := Steps.trans g4 (by
    refine ishr X4.here hexec rfl (hb hbytes d9) rfl ?_
    exact Steps.refl _)
  rw [hx.2.2.2.2.1.len v31] at c5
  exact ⟨T4, some (.int (Int32.ofNat n)), _, _, _, X4, rfl, rfl, rfl, (fun h => by cases h), ⟨rfl, q4.trans hh2⟩, fun fs hl => c5.trans (X4.ireturnOut hexec hret rfl (Or.inl rfl) (hb hbytes d10) hl)⟩
theorem pays {l : Launch} {R : Room} {p : Program} {e : Env} {below : List Frame} {s : State} {sargs : Array Value} {len W : Nat} (x t : Addr) (V : Cell) (cd : Int32) (n : Nat) (f : Nat → Int32) (z : Int32) (htab : tab.before sargs s = true) (hfr : 2 ≤ R.frames) (hlo : W + 25 ≤ R.locals) :
    Back l R p e below s sargs yN len W (fun A₁ a₁ => A₁.cells + 0 ≤ R.cells ∧ A₁.slots + 0 ≤ R.slots ∧ P x t V cd n f z a₁ A₁.U) (fun A₁ _ v₁ B₁ => E n v₁ A₁.U B₁.U ∧ B₁.locs = A₁.locs ++ [] ∧ B₁.cells = A₁.cells + 0 ∧ B₁.slots = A₁.slots + 0) :=
  (law l x t V cd n f z).pays htab hfr (by omega)
end Len
end StrChars
namespace StrChars.Road
open Jvm Sem ClassFile Op Lib Jvm.Stand Jvm.Free Jvm.Free.XT
open Jvm.Lib.Cold (StaticIs)
theorem consq {a : Array Value} {s : State} {c : Jvm.Cond} {L : List Jvm.Cond} (h0 : c.before a s = true) (h : ∀ w ∈ L, w.before a s = true) : ∀ w ∈ c :: L, w.before a s = true := fun w hw => (List.mem_cons.mp hw).elim (fun e => e ▸ h0) (h w)
/-- the words of String.length(), either coding -/
abbrev wordsLen : List Jvm.Cond := [.code Len.yN Len.yB 1 (some .int), .initialized ST, .fieldLink ST 9 ST "value" "[B", .fieldLink ST 38 ST "COMPACT_STRINGS" "Z", .fieldLink ST 15 ST "coder" "B", .code Cdr.yN Cdr.yB 1 (some .byte), .methodLink ST 335 Cdr.yN, .declares Cdr.yN, .selects ST Cdr.yN Cdr.yN, .instanceMethod Cdr.yN]
theorem tabLen_of {a : Array Value} {s : State} (h : ∀ w ∈ wordsLen, w.before a s = true) : Len.tab.before a s = true := by
  have hc : Cdr.tab.before a s = true := unparts (wk h (.code Cdr.yN Cdr.yB 1 (some .byte))) (wks h (.initialized Cdr.yN.cls :: Cdr.site))
  have q := consq hc h
  exact unparts (wk q (.code Len.yN Len.yB 1 (some .int))) (wks q (.initialized Len.yN.cls :: Len.site))
theorem movedLen {Z s : State} {a0 args : Array Value} (hZ : Z.Warmed39 s.vm) (hw : ∀ d ∈ wordsLen, d.before a0 Z = true) : ∀ d ∈ wordsLen, d.before args s = true := fun d hd => by
  have q := hw d hd
  have t : ∀ d ∈ wordsLen, d = .arrayClass .byte ∨ (d.onTables && d.keepsFace) = true := by decide +kernel
  rcases t d hd with rfl | t
  · exact RoadKit.mvA hZ q
  · exact RoadKit.mv hZ q t
/-- the bytes of the chars cs, low before high -/
def wideBytes : List Int32 → List Value
  | [] => []
  | c :: cs => .int (lo8 c) :: .int (hi8 c) :: wideBytes cs
theorem wide_lo (d : Value) : ∀ (cs : List Int32) (j : Nat), j < cs.length → (wideBytes cs).getD (2 * j) d = .int (lo8 (cs.getD j 0))
  | [], j, h => absurd h (Nat.not_lt_zero j)
  | c :: cs, 0, _ => rfl
  | c :: cs, j + 1, h => by
    have q := wide_lo d cs j (by simpa using h)
    rw [show 2 * (j + 1) = 2 * j + 1 + 1 from by omega]
    simpa [wideBytes] using q
theorem wide_hi (d : Value) : ∀ (cs : List Int32) (j : Nat), j < cs.length → (wideBytes cs).getD (2 * j + 1) d = .int (hi8 (cs.getD j 0))
  | [], j, h => absurd h (Nat.not_lt_zero j)
  | c :: cs, 0, _ => rfl
  | c :: cs, j + 1, h => by
    have q := wide_hi d cs j (by simpa using h)
    rw [show 2 * (j + 1) + 1 = 2 * j + 1 + 1 + 1 from by omega]
    simpa [wideBytes] using q
theorem low_at (d : Value) (cs : List Int32) (j : Nat) (h : j < cs.length) : (cs.map fun c => Value.int (lo8 c)).getD j d = .int (lo8 (cs.getD j 0)) := by
  simp [List.getD_eq_getElem?_getD, h]
/-- an array of N2 bytes vs codes the chars cs by the coder cd -/
def CodA (cs : List Int32) (cd N2 : Int32) (vs : List Value) : Prop := (cd = 0 ∧ N2 = Int32.ofNat cs.length ∧ vs = (cs.map fun c => Value.int (lo8 c)) ∧ ∀ c ∈ cs, ¬ 255 < c) ∨ (cd = 1 ∧ N2 = Int32.ofNat (2 * cs.length) ∧ vs = wideBytes cs ∧ ∃ c ∈ cs, 255 < c)
theorem CodA.cod {cs : List Int32} {cd N2 : Int32} {vs : List Value} {V : Cell} (h : CodA cs cd N2 vs) (hn : 2 * cs.length < 2 ^ 31) (hs : V.slots.size = N2.toNatClampNeg) (hv : RoadKit.Has V vs (.int 0)) : Cod cd cs.length (fun j => cs.getD j 0) V := by
  rcases h with ⟨rfl, rfl, rfl, h⟩ | ⟨rfl, rfl, rfl, c, hc, hw⟩
  · rw [n32 (by omega)] at hs
    exact Or.inl ⟨rfl, hs, fun j hj => ⟨by rw [hv j (by omega), low_at _ _ _ hj], by
      have e : cs.getD j 0 = cs[j] := by simp [List.getD_eq_getElem?_getD, hj]
      show ¬ 255 < cs.getD j 0
      rw [e]; exact h _ (List.getElem_mem _)⟩⟩
  · rw [n32 (by omega)] at hs
    obtain ⟨j, hj, rfl⟩ := List.getElem_of_mem hc
    exact Or.inr ⟨rfl, hs, fun j hj => ⟨by rw [hv _ (by omega), wide_lo _ _ _ hj], by rw [hv _ (by omega), wide_hi _ _ _ hj]⟩, j, hj, by
      have e : cs.getD j 0 = cs[j] := by simp [List.getD_eq_getElem?_getD, hj]
      show 255 < cs.getD j 0
      rw [e]; exact hw⟩
/-- an object of exactly java/lang/String, its two fields found: as the laws ask it -/
theorem strObj {Z U : State} {a0 : Array Value} {kI : Nat} (wi : (Jvm.Cond.instantiable ST kI).before a0 Z = true) (al : Z.vm.Alike U.vm) {x : Addr} {v0 c0 : Value} (E : RoadKit.Exa Z U.heap x ST) (V : RoadKit.Fld Z U.heap x ST "value" "[B" v0) (C : RoadKit.Fld Z U.heap x ST "coder" "B" c0) :
    ∃ (D : Cell) (fV fC : Field), Blank ST x D U ∧ Found ST "value" "[B" fV U ∧ Found ST "coder" "B" fC U ∧ D.slots[fV.slot]? = some v0 ∧ D.slots[fC.slot]? = some c0 ∧ RoadKit.slotOf Z ST "value" "[B" = fV.slot ∧ RoadKit.slotOf Z ST "coder" "B" = fC.slot := by
  obtain ⟨D, cfV, kV, iV, fV, hD, gV, stV, knV, obV, asV, slV⟩ := V
  obtain ⟨D', cfC, kC, iC, fC, hD', gC, stC, -, -, asC, slC⟩ := C
  cases hD.symm.trans hD'
  obtain ⟨D2, kD, e1, e2, e3, e4, e5⟩ := E
  cases hD.symm.trans e1
  obtain ⟨c2, k2, i1, i2, i3, -⟩ := Cond.instantiable_spec wi
  cases e2.symm.trans i1
  cases e3.symm.trans i2
  obtain ⟨kU, u1, u2⟩ := al.2.2 _ _ e3
  exact ⟨D, fV, fC, ⟨hD, ⟨knV, fun q hq => by rw [hq] at obV; cases obV⟩, by rw [al.findClass]; exact e2, kU, u1, by rw [u2]; exact i3, by rw [u2]; exact e5 i3⟩, ⟨SBG.found_only al ⟨cfV, kV, iV, gV⟩, stV⟩, ⟨SBG.found_only al ⟨cfC, kC, iC, gC⟩, stC⟩, slV, slC, by simp [RoadKit.slotOf, gV], by simp [RoadKit.slotOf, gC]⟩
theorem sta_is {Z U : State} (al : Z.vm.Alike U.vm) {C n d : String} {v : Value} (S : RoadKit.Sta Z U.heap C n d v) : StaticIs U C n d v := by
  obtain ⟨cfS, iS, kS, fS, st, cS, t1, t2, t3, t4, t5, t6, t7⟩ := S
  exact StaticIs.there (s := { Z with heap := U.heap }) ⟨cfS, iS, kS, fS, st, cS, t1, t2, t3, t4, t5, (fun q => by rw [q] at t6; cases t6), t7⟩ al rfl
/-- **length() OF SUCH A STRING** -/
theorem lenW {p : Program} {l : Launch} {e : Env} {R : Room} {s : State} {args : Array Value} {below : List Frame} {len W : Nat} {Z : State} {a0 : Array Value} {h : Heap} (hZ : Z.Warmed39 s.vm) (hw : ∀ d ∈ wordsLen, d.before a0 Z = true) {kI : Nat} (wi : (Jvm.Cond.instantiable ST kI).before a0 Z = true)
    {x t : Addr} {kb : ClassId} {cs : List Int32} {cd N2 z : Int32} {vs : List Value} (E : RoadKit.Exa Z h x ST) (V : RoadKit.Fld Z h x ST "value" "[B" (.ref t)) (C : RoadKit.Fld Z h x ST "coder" "B" (.int cd)) (K : RoadKit.Arv Z h t kb .byte N2 vs (.int 0)) (hc : CodA cs cd N2 vs) (hb : ∀ c ∈ cs, ¬ c < 0 ∧ ¬ (65535 : Int32) < c)
    (S : RoadKit.Sta Z h ST "COMPACT_STRINGS" "Z" (.int z)) (hz : ¬ z = 0) (l2 : cs.length ≤ 4000) (hfr : 2 ≤ R.frames) (hlo : W + 25 ≤ R.locals) :
    Back l R p e below s args (⟨"java/lang/String", "length", "()I"⟩ : MethodName) len W (fun P a => a = #[.ref x] ∧ P.U.heap = h ∧ P.cells + 0 ≤ R.cells ∧ P.slots + 0 ≤ R.slots)
      (fun P _ v B => ∃ L, (v = some (.int (Int32.ofNat cs.length)) ∧ L = [] ∧ B.U.heap = h) ∧ B.locs = P.locs ++ L ∧ B.cells = P.cells + 0 ∧ B.slots = P.slots + 0) := by
  obtain ⟨A, K1, K2, K3, K4, K5, K6⟩ := K
  have hcod := hc.cod (by omega) K3 K5
  intro m meth c P g ig mk a X hg hsize hdg hW hn hp'
  obtain ⟨rfl, rfl, r1, r2⟩ := hp'
  have al : Z.vm.Alike P.U.vm := hZ.alike.trans X.warmed.alike
  obtain ⟨D, fV, fC, hB, F1, F2, g1, g2, -, -⟩ := strObj wi al E V C
  have hx : Txt x t A cd cs.length (fun j => cs.getD j 0) P.U := ⟨⟨_, hB.2.2.1, D, hB.1, rfl, by cases q : D.vm <;> first | rfl | exact absurd q (hB.2.1.2 _)⟩, Has.of hB F1 g1, Has.of hB F2 g2, ⟨K1.1, State.isArrayOf_alike al K1.2.1, K1.2.2, by rcases hcod with ⟨-, q, -⟩ | ⟨-, q, -⟩ <;> omega⟩, hcod, fun j hj => by
    have e : cs.getD j 0 = cs[j] := by simp [List.getD_eq_getElem?_getD, hj]
    show ¬ cs.getD j 0 < 0 ∧ ¬ 65535 < cs.getD j 0
    rw [e]; exact hb _ (List.getElem_mem _)⟩
  obtain ⟨v, B, X', ⟨⟨hv, hh⟩, hl, hk, hs⟩, st⟩ := Len.pays x t A cd cs.length (fun j => cs.getD j 0) z (tabLen_of (movedLen hZ hw)) hfr hlo m meth c P g ig mk _ X hg hsize hdg hW hn ⟨r1, r2, rfl, hx, sta_is al S, hz⟩
  exact ⟨v, B, X', ⟨[], ⟨hv, rfl, hh⟩, hl, hk, hs⟩, st⟩
end StrChars.Road
namespace StrChars
open Jvm Sem ClassFile Op Lib Jvm.Stand Jvm.Free.XT Jvm.Free.ALB Jvm.Free.JM Jvm.Free
open Jvm.Lib.Cold (StaticIs)
namespace Emp
def yN : MethodName := ⟨"java/lang/String", "isEmpty", "()Z"⟩
abbrev yB : ByteArray := jdk_42_method_55_code
theorem d0 : decode yB 0 = .ok (.aload_n 0, 1) := by decide +kernel
theorem d1 : decode yB 1 = .ok (.getfield 9, 3) := by decide +kernel
theorem d4 : decode yB 4 = .ok (.arraylength, 1) := by decide +kernel
theorem d5 : decode yB 5 = .ok (.ifCond (.ne) 7, 3) := by decide +kernel
theorem d8 : decode yB 8 = .ok (.iconst 1, 1) := by decide +kernel
theorem d9 : decode yB 9 = .ok (.goto 4, 3) := by decide +kernel
theorem d12 : decode yB 12 = .ok (.iconst 0, 1) := by decide +kernel
theorem d13 : decode yB 13 = .ok (.ireturn, 1) := by decide +kernel
def site : List Cond := [.fieldLink "java/lang/String" 9 "java/lang/String" "value" "[B"]
def tab : Cond := tabOf yN yB 1 (some .boolean) site
def P (x t : Addr) (V : Cell) (cd : Int32) (n : Nat) (f : Nat → Int32) (args : Array Value) (s : State) : Prop := args = #[.ref x] ∧ Txt x t V cd n f s
def E (n : Nat) (r : Option Value) (s u : State) : Prop := XT.PureE (some (.int (if n = 0 then 1 else 0))) r s u
/-- isEmpty() of a String of n chars -/
theorem law (l : Launch) (x t : Addr) (V : Cell) (cd : Int32) (n : Nat) (f : Nat → Int32) : Law l yN 1 0 0 0 yB 1 (some .boolean) site (P x t V cd n f) (E n) [] 0 0 := by
  refine Law.of_walk (plainFor_of_name (by decide +kernel)) (by decide +kernel) (by decide +kernel) (by decide) (fun _ _ h => by rw [h.1]; rfl) (fun _ U U' hal hh h => ⟨h.1, h.2.mv hal hh⟩) (fun r U U' V V' h1 hal h2 h => XT.PureE.mv r U U' V V' h1 hal h2 h) ?_
  intro p e s m args below meth c s₁ X0 hexec hbytes hml hret hlk hnm hown hh0 W hP
  obtain ⟨rfl, hx⟩ := hP
  have v31 := hx.2.2.2.1.2.2.2
  have c1 : Steps p.tables e below (s₁.setTop (entryFrame m #[.ref x] 1)) (s₁.setTop (mkF m 1 #[.val (.ref x)] [.ref x])) := Steps.trans (entry rfl) (by
    show Steps p.tables e below (s₁.setTop (mkF m 0 #[.val (.ref x)] [])) _
    refine XS.aloadN X0.here hexec rfl (hb hbytes d0) rfl rfl ?_
    exact Steps.refl _)
  obtain ⟨T2, X2, q2, st2⟩ := X0.hget hexec hown (wk W (.fieldLink "java/lang/String" 9 "java/lang/String" "value" "[B")) (hx.mv X0.warmed.alike hh0).2.1 (g := (mkF m 1 #[.val (.ref x)] [.ref x])) rfl (rest := []) rfl (hb hbytes d1)
  have hh2 := q2.trans hh0
  have hx2 := hx.mv X2.warmed.alike hh2
  have c3 : Steps p.tables e below (s₁.setTop (entryFrame m #[.ref x] 1)) (T2.setTop (mkF m 5 #[.val (.ref x)] [.int (Int32.ofNat V.slots.size)])) := (c1.trans (st2 _ (Steps.refl _))).trans (by
    refine X2.alen hexec hx2.2.2.2.1 rfl rfl (hb hbytes d4) ?_
    exact Steps.refl _)
  have hz : V.slots.size = 0 ↔ n = 0 := by
    rcases hx.2.2.2.2.1 with ⟨-, q, -⟩ | ⟨-, q, -⟩ <;> omega
  by_cases h0 : n = 0
  · have c4 : Steps p.tables e below (s₁.setTop (entryFrame m #[.ref x] 1)) (T2.setTop (mkF m 13 #[.val (.ref x)] [.int 1])) := c3.trans (by
      refine XS.ifNo X2.here hexec rfl (hb hbytes d5) rfl (i0_ne_f (by rw [hz.mpr h0]; rfl)) ?_
      refine iconstV X2.here hexec rfl 1 (hb hbytes d8) (by decide) ?_
      refine XS.goto X2.here hexec rfl (pc0 := 9) rfl (hb hbytes d9) (by decide) rfl ?_
      exact Steps.refl _)
    exact ⟨T2, some (.int 1), _, _, _, X2, rfl, rfl, rfl, (fun h => by cases h), ⟨by rw [if_pos h0], hh2⟩, fun fs hl => c4.trans (X2.ireturnOut hexec hret rfl (Or.inr (Or.inl rfl)) (hb hbytes d13) hl)⟩
  · have c4 : Steps p.tables e below (s₁.setTop (entryFrame m #[.ref x] 1)) (T2.setTop (mkF m 13 #[.val (.ref x)] [.int 0])) := c3.trans (by
      refine XS.ifYes X2.here hexec rfl (pc0 := 5) rfl (hb hbytes d5) rfl (i0_ne_t (nz32 v31 (by omega))) (by decide) rfl ?_
      refine iconstV X2.here hexec rfl 0 (hb hbytes d12) (by decide) ?_
      exact Steps.refl _)
    exact ⟨T2, some (.int 0), _, _, _, X2, rfl, rfl, rfl, (fun h => by cases h), ⟨by rw [if_neg h0], hh2⟩, fun fs hl => c4.trans (X2.ireturnOut hexec hret rfl (Or.inr (Or.inl rfl)) (hb hbytes d13) hl)⟩
theorem pays {l : Launch} {R : Room} {p : Program} {e : Env} {below : List Frame} {s : State} {sargs : Array Value} {len W : Nat} (x t : Addr) (V : Cell) (cd : Int32) (n : Nat) (f : Nat → Int32) (htab : tab.before sargs s = true) (hfr : 1 ≤ R.frames) (hlo : W + 12 ≤ R.locals) :
    Back l R p e below s sargs yN len W (fun A₁ a₁ => A₁.cells + 0 ≤ R.cells ∧ A₁.slots + 0 ≤ R.slots ∧ P x t V cd n f a₁ A₁.U) (fun A₁ _ v₁ B₁ => E n v₁ A₁.U B₁.U ∧ B₁.locs = A₁.locs ++ [] ∧ B₁.cells = A₁.cells + 0 ∧ B₁.slots = A₁.slots + 0) :=
  (law l x t V cd n f).pays htab hfr (by omega)
end Emp
end StrChars
namespace StrChars.Road
open Jvm Sem ClassFile Op Lib Jvm.Stand Jvm.Free Jvm.Free.XT
open Jvm.Lib.Cold (StaticIs)
/-- the words of String.isEmpty() -/
abbrev wordsEmp : List Jvm.Cond := [.code Emp.yN Emp.yB 1 (some .boolean), .initialized ST, .fieldLink ST 9 ST "value" "[B"]
theorem tabEmp_of {a : Array Value} {s : State} (h : ∀ w ∈ wordsEmp, w.before a s = true) : Emp.tab.before a s = true := unparts (wk h (.code Emp.yN Emp.yB 1 (some .boolean))) (wks h (.initialized Emp.yN.cls :: Emp.site))
theorem movedEmp {Z s : State} {a0 args : Array Value} (hZ : Z.Warmed39 s.vm) (hw : ∀ d ∈ wordsEmp, d.before a0 Z = true) : ∀ d ∈ wordsEmp, d.before args s = true := fun d hd => by
  have t : ∀ d ∈ wordsEmp, (d.onTables && d.keepsFace) = true := by decide +kernel
  exact RoadKit.mv hZ (hw d hd) (t d hd)
/-- the road's facts of a String, as the laws ask it -/
theorem txt_of {Z U : State} {a0 : Array Value} {kI : Nat} (wi : (Jvm.Cond.instantiable ST kI).before a0 Z = true) (al : Z.vm.Alike U.vm) {x t : Addr} {kb : ClassId} {cs : List Int32} {cd N2 : Int32} {vs : List Value} (E : RoadKit.Exa Z U.heap x ST) (V : RoadKit.Fld Z U.heap x ST "value" "[B" (.ref t)) (C : RoadKit.Fld Z U.heap x ST "coder" "B" (.int cd)) (K : RoadKit.Arv Z U.heap t kb .byte N2 vs (.int 0)) (hc : CodA cs cd N2 vs) (hb : ∀ c ∈ cs, ¬ c < 0 ∧ ¬ (65535 : Int32) < c) (l2 : cs.length ≤ 4000) :
    ∃ A, Txt x t A cd cs.length (fun j => cs.getD j 0) U := by
  obtain ⟨A, K1, K2, K3, K4, K5, K6⟩ := K
  have hcod := hc.cod (by omega) K3 K5
  obtain ⟨D, fV, fC, hB, F1, F2, g1, g2, -, -⟩ := strObj wi al E V C
  exact ⟨A, ⟨_, hB.2.2.1, D, hB.1, rfl, by cases q : D.vm <;> first | rfl | exact absurd q (hB.2.1.2 _)⟩, Has.of hB F1 g1, Has.of hB F2 g2, ⟨K1.1, State.isArrayOf_alike al K1.2.1, K1.2.2, by rcases hcod with ⟨-, q, -⟩ | ⟨-, q, -⟩ <;> omega⟩, hcod, fun j hj => by
    have e : cs.getD j 0 = cs[j] := by simp [List.getD_eq_getElem?_getD, hj]
    show ¬ cs.getD j 0 < 0 ∧ ¬ 65535 < cs.getD j 0
    rw [e]; exact hb _ (List.getElem_mem _)⟩
/-- **isEmpty() OF SUCH A STRING** -/
theorem empW {p : Program} {l : Launch} {e : Env} {R : Room} {s : State} {args : Array Value} {below : List Frame} {len W : Nat} {Z : State} {a0 : Array Value} {h : Heap} (hZ : Z.Warmed39 s.vm) (hw : ∀ d ∈ wordsEmp, d.before a0 Z = true) {kI : Nat} (wi : (Jvm.Cond.instantiable ST kI).before a0 Z = true)
    {x t : Addr} {kb : ClassId} {cs : List Int32} {cd N2 : Int32} {vs : List Value} (E : RoadKit.Exa Z h x ST) (V : RoadKit.Fld Z h x ST "value" "[B" (.ref t)) (C : RoadKit.Fld Z h x ST "coder" "B" (.int cd)) (K : RoadKit.Arv Z h t kb .byte N2 vs (.int 0)) (hc : CodA cs cd N2 vs) (hb : ∀ c ∈ cs, ¬ c < 0 ∧ ¬ (65535 : Int32) < c) (l2 : cs.length ≤ 4000) (hfr : 1 ≤ R.frames) (hlo : W + 12 ≤ R.locals) :
    Back l R p e below s args (⟨"java/lang/String", "isEmpty", "()Z"⟩ : MethodName) len W (fun P a => a = #[.ref x] ∧ P.U.heap = h ∧ P.cells + 0 ≤ R.cells ∧ P.slots + 0 ≤ R.slots)
      (fun P _ v B => ∃ L, (v = some (.int (if cs.length = 0 then 1 else 0)) ∧ L = [] ∧ B.U.heap = h) ∧ B.locs = P.locs ++ L ∧ B.cells = P.cells + 0 ∧ B.slots = P.slots + 0) := by
  intro m meth c P g ig mk a X hg hsize hdg hW hn hp'
  obtain ⟨rfl, rfl, r1, r2⟩ := hp'
  have al : Z.vm.Alike P.U.vm := hZ.alike.trans X.warmed.alike
  obtain ⟨A, hx⟩ := txt_of wi al E V C K hc hb l2
  obtain ⟨v, B, X', ⟨⟨hv, hh⟩, hl, hk, hs⟩, st⟩ := Emp.pays x t A cd cs.length (fun j => cs.getD j 0) (tabEmp_of (movedEmp hZ hw)) hfr hlo m meth c P g ig mk _ X hg hsize hdg hW hn ⟨r1, r2, rfl, hx⟩
  exact ⟨v, B, X', ⟨[], ⟨hv, rfl, hh⟩, hl, hk, hs⟩, st⟩
end StrChars.Road
end Jvm.Pilot.@@N@@
namespace Jvm.Pilot.@@N@@
namespace StrChars
open Jvm Sem ClassFile Op Lib Jvm.Stand Jvm.Free.XT Jvm.Free.ALB Jvm.Free.JM Jvm.Free
open Jvm.Lib.Cold (StaticIs)
/-- a static whose cell is a class's own -/
def StS (s : State) (C n d : String) (v : Value) : Prop := ∃ (cf i : Nat) (k : Class) (f : Field) (a₁ : Addr) (cell₁ : Cell), s.fieldFound? C n d = some (cf, k, i, f) ∧ f.isStatic = true ∧ k.init = .initialized ∧ k.statics = some a₁ ∧ s.heap[a₁]? = some cell₁ ∧ cell₁.vm.isStatics = true ∧ cell₁.slots[f.slot]? = some v
/-- the cells that hold statics stand -/
def StK (s u : State) : Prop := ∀ (a : Addr) (c : Cell), s.heap[a]? = some c → c.vm.isStatics = true → u.heap[a]? = some c
theorem StK.of_eq {s u : State} (h : u.heap = s.heap) : StK s u := fun _ _ q _ => by rw [h]; exact q
theorem StK.trans {s t u : State} (h : StK s t) (h' : StK t u) : StK s u := fun a c q r => h' a c (h a c q r) r
theorem StK.kept {s u : State} (h : XT.Kept s u) : StK s u := fun a c q _ => h a c q
theorem StK.put {s u : State} {d : Addr} {B B' : Cell} {t : FieldType} (hB : XT.Arr t d B s) (hp : XT.Put d B' s u) : StK s u := fun a c q r => hp.other (fun e => by
  subst e
  have e1 := hB.1.symm.trans q
  rw [Option.some.injEq] at e1
  subst e1
  obtain ⟨ho, -⟩ := hB.2.1
  cases hv : B.vm with
  | statics z => exact ho z hv
  | _ => rw [hv] at r; cases r) q
theorem StS.keep {s u : State} {C n d : String} {v : Value} (h : StS s C n d v) (hal : s.vm.Alike u.vm) (hk : StK s u) : StS u C n d v := by
  obtain ⟨cf, i, k, f, a₁, cell₁, h1, h2, h3, h4, h5, h6, h7⟩ := h
  obtain ⟨k', hk', he⟩ := State.fieldFound?_setVm hal h1
  exact ⟨cf, i, k', f, a₁, cell₁, hk', h2, by rw [he]; exact h3, by rw [he]; exact h4, hk _ _ h5 h6, h6, h7⟩
theorem StS.mv {s u : State} {C n d : String} {v : Value} (h : StS s C n d v) (hal : s.vm.Alike u.vm) (hh : u.heap = s.heap) : StS u C n d v := h.keep hal (StK.of_eq hh)
theorem sgetS {p : Program} {l : Launch} {e : Env} {R : Room} {s : State} {m : MethodId} {args : Array Value} {below : List Frame} {meth : Method} {c : Code} {T : State} {locs : List Loc} {cells slots : Nat} (X : Stand p l e R s m args below meth c T locs cells slots) (hexec : p.tables.exec = Jvm.exec) {own C name desc : String} {index : Nat} (hown : s.vm.findClass own = some m.cls) (hlink : (Cond.fieldLink own index C name desc).before args s = true) {v : Value}
    (hS : StS s C name desc v) (hk : StK s T) {g : JFrame} (hg : g.method = m) (hdg : decode c.code g.pc = .ok (.getstatic index, 3)) :
    ∃ T', Stand p l e R s m args below meth c T' locs cells slots ∧ T'.heap = T.heap ∧ ∀ target, Steps p.tables e below (T'.setTop { g with pc := g.pc + 3, stack := v :: g.stack }) target → Steps p.tables e below (T.setTop g) target := by
  obtain ⟨cf, i, k, f, a₁, cell₁, h1, h2, h3, h4, h5, h6, h7⟩ := hS
  obtain ⟨vm', X', st⟩ := X.getstatic hexec hown hlink h1 h2 h3 h4 (hk _ _ h5 h6) (fun q => by rw [q] at h6; cases h6) h7 hg hdg
  exact ⟨_, X', rfl, st⟩
/-- the three statics of StringUTF16 -/
def U3 (s : State) : Prop := StS s U16 "$assertionsDisabled" "Z" (.int 1) ∧ StS s U16 "HI_BYTE_SHIFT" "I" (.int 0) ∧ StS s U16 "LO_BYTE_SHIFT" "I" (.int 8)
theorem U3.keep {s u : State} (h : U3 s) (hal : s.vm.Alike u.vm) (hk : StK s u) : U3 u := ⟨h.1.keep hal hk, h.2.1.keep hal hk, h.2.2.keep hal hk⟩
theorem U3.mv {s u : State} (h : U3 s) (hal : s.vm.Alike u.vm) (hh : u.heap = s.heap) : U3 u := h.keep hal (StK.of_eq hh)
def stat3 : List Cond := [.fieldLink U16 44 U16 "$assertionsDisabled" "Z", .fieldLink U16 59 U16 "HI_BYTE_SHIFT" "I", .fieldLink U16 63 U16 "LO_BYTE_SHIFT" "I"]
theorem shl1 (n : Nat) : Int32.ofNat n <<< ((1 : Int32) &&& 31) = Int32.ofNat (2 * n) := by
  have e : ((1 : Int32) &&& 31) = 1 := by decide
  rw [e]
  apply Int32.toBitVec_inj.mp
  rw [Int32.toBitVec_shiftLeft]
  have e1 : ((1 : Int32).toBitVec.smod 32) = 1#32 := by decide
  rw [e1, BitVec.shiftLeft_eq']
  apply BitVec.eq_of_toNat_eq
  show ((BitVec.ofNat 32 n) <<< 1).toNat = (BitVec.ofNat 32 (2 * n)).toNat
  rw [BitVec.toNat_shiftLeft, BitVec.toNat_ofNat, BitVec.toNat_ofNat, Nat.shiftLeft_eq]
  omega
theorem Ch.rng {a : Addr} {A : Cell} {U : State} (h : Ch a A U) {i : Nat} (hi : i < A.slots.size) : ¬ cv A i < 0 ∧ ¬ 65535 < cv A i := by
  have f := h.2 i _ (h.get hi)
  simp only [fits, Bool.and_eq_true, decide_eq_true_eq] at f
  exact ⟨Int32.not_lt.mpr f.1, Int32.not_lt.mpr f.2⟩
theorem lo8_shr0 (c : Int32) : (c >>> ((0 : Int32) &&& 31)).toInt8.toInt32 = lo8 c := by rw [shr0]; rfl
namespace NBL
def yN : MethodName := ⟨"java/lang/StringUTF16", "newBytesLength", "(I)I"⟩
abbrev yB : ByteArray := jdk_52_method_3_code
theorem d0 : decode yB 0 = .ok (.iload_n 0, 1) := by decide +kernel
theorem d1 : decode yB 1 = .ok (.ifCond .ge 11, 3) := by decide +kernel
theorem d12 : decode yB 12 = .ok (.iload_n 0, 1) := by decide +kernel
theorem d13 : decode yB 13 = .ok (.ldc 20, 2) := by decide +kernel
theorem d15 : decode yB 15 = .ok (.if_icmp .lt 40, 3) := by decide +kernel
theorem d55 : decode yB 55 = .ok (.iload_n 0, 1) := by decide +kernel
theorem d56 : decode yB 56 = .ok (.iconst 1, 1) := by decide +kernel
theorem d57 : decode yB 57 = .ok (.ishl, 1) := by decide +kernel
theorem d58 : decode yB 58 = .ok (.ireturn, 1) := by decide +kernel
def site : List Cond := [.constant U16 20 1073741823]
def tab : Cond := tabOf yN yB 1 (some .int) site
def P (n : Nat) (args : Array Value) (s : State) : Prop := args = #[.int (Int32.ofNat n)] ∧ n < 1073741823
def E (n : Nat) (r : Option Value) (s u : State) : Prop := XT.PureE (some (.int (Int32.ofNat (2 * n)))) r s u
theorem law (l : Launch) (n : Nat) : Law l yN 1 1 0 0 yB 1 (some .int) site (P n) (E n) [] 0 0 := by
  refine Law.of_walk (plainFor_of_name (by decide +kernel)) (by decide +kernel) (by decide +kernel) (by decide) (fun _ _ h => by rw [h.1]; rfl) (fun _ U U' hal hh h => h) (fun r U U' V V' h1 hal h2 h => XT.PureE.mv r U U' V V' h1 hal h2 h) ?_
  intro p e s m args below meth c s₁ X0 hexec hbytes hml hret hlk hnm hown hh0 W hP
  obtain ⟨rfl, hn⟩ := hP
  have c0 : Steps p.tables e below (s₁.setTop (entryFrame m #[(.int (Int32.ofNat n))] 1)) (s₁.setTop (mkF m 0 #[.val (.int (Int32.ofNat n))] [])) := entry rfl
  have cc1 : Steps p.tables e below (s₁.setTop (entryFrame m #[(.int (Int32.ofNat n))] 1)) (s₁.setTop (mkF m 58 #[.val (.int (Int32.ofNat n))] [(.int ((Int32.ofNat n) <<< ((1 : Int32) &&& 31)))])) := Steps.trans c0 (by
    refine XS.iloadN X0.here hexec rfl (hb hbytes d0) rfl ?_
    refine XS.ifYes X0.here hexec rfl (pc0 := 1) rfl (hb hbytes d1) rfl (i0_ge_t (Int32.ofNat_not_neg (by omega))) (by decide) rfl ?_
    refine XS.iloadN X0.here hexec rfl (hb hbytes d12) rfl ?_
    refine X0.ldcI hexec hown (wk W (.constant U16 20 1073741823)) rfl (hb hbytes d13) ?_
    refine XS.icmpYes X0.here hexec rfl (pc0 := 15) rfl (hb hbytes d15) rfl (ii_lt_t (lt32 (b := 1073741823) (by decide) hn)) (by decide) rfl ?_
    refine XS.iloadN X0.here hexec rfl (hb hbytes d55) rfl ?_
    refine iconstV X0.here hexec rfl 1 (hb hbytes d56) (by decide) ?_
    refine XT.ishl X0.here hexec rfl (hb hbytes d57) rfl ?_
    exact Steps.refl _)
  rw [shl1] at cc1
  exact ⟨s₁, some (.int (Int32.ofNat (2 * n))), _, _, _, X0, rfl, rfl, rfl, (fun h => by cases h), ⟨rfl, hh0⟩, fun fs hl => cc1.trans (X0.ireturnOut hexec hret rfl (Or.inl rfl) (hb hbytes d58) hl)⟩
end NBL
namespace NBF
def yN : MethodName := ⟨"java/lang/StringUTF16", "newBytesFor", "(I)[B"⟩
abbrev yB : ByteArray := jdk_52_method_2_code
theorem d0 : decode yB 0 = .ok (.iload_n 0, 1) := by decide +kernel
theorem d1 : decode yB 1 = .ok (.invokestatic 11, 3) := by decide +kernel
theorem d4 : decode yB 4 = .ok (.newarray .byte, 2) := by decide +kernel
theorem d6 : decode yB 6 = .ok (.areturn, 1) := by decide +kernel
def site : List Cond := [.arrayClass .byte, NBL.tab] ++ staticW U16 11 NBL.yN
def tab : Cond := tabOf yN yB 1 (some (.array .byte)) site
def P (n : Nat) (args : Array Value) (s : State) : Prop := args = #[.int (Int32.ofNat n)] ∧ 2 * n ≤ 536870912
def E (n : Nat) (r : Option Value) (s u : State) : Prop := NewArr .byte "[B" (2 * n) (fun _ => .int 0) r s u ∧ u.heap.size = s.heap.size + 1
theorem law (l : Launch) (n : Nat) : Law l yN 1 1 1 12 yB 1 (some (.array .byte)) site (P n) (E n) [] 1 (2 * n) := by
  refine Law.of_walk (plainFor_of_name (by decide +kernel)) (by decide +kernel) (by decide +kernel) (by decide) (fun _ _ h => by rw [h.1]; rfl) (fun _ U U' hal hh h => h) (fun r U U' V V' h1 hal h2 h => ⟨NewArr.mv r U U' V V' h1 hal h2 h.1, by rw [h1, h2]; exact h.2⟩) ?_
  intro p e s m args below meth c s₁ X0 hexec hbytes hml hret hlk hnm hown hh0 W hP
  obtain ⟨rfl, hn⟩ := hP
  have c0 : Steps p.tables e below (s₁.setTop (entryFrame m #[(.int (Int32.ofNat n))] 1)) (s₁.setTop (mkF m 0 #[.val (.int (Int32.ofNat n))] [])) := entry rfl
  have cc1 : Steps p.tables e below (s₁.setTop (entryFrame m #[(.int (Int32.ofNat n))] 1)) (s₁.setTop (mkF m 1 #[.val (.int (Int32.ofNat n))] [(.int (Int32.ofNat n))])) := Steps.trans c0 (by
    refine XS.iloadN X0.here hexec rfl (hb hbytes d0) rfl ?_
    exact Steps.refl _)
  obtain ⟨v2, T2, X2, E2, g2⟩ := X0.callS hexec (NBL.law l n) hown (wks W (staticW U16 11 NBL.yN)) (wk W NBL.tab) (W := 0) (Nat.le_of_ble_eq_true rfl) (Nat.le_of_ble_eq_true rfl) (Nat.zero_le _) (Nat.zero_le _) (g := (mkF m 1 #[.val (.int (Int32.ofNat n))] [(.int (Int32.ofNat n))])) rfl (by rw [hml]; rfl) cc1 (argsL := [.int (Int32.ofNat n)]) (rest := []) rfl rfl (by show 2 * 0 + 0 ≤ _; decide) (hb hbytes d1) (⟨rfl, by omega⟩)
  obtain ⟨rfl, q2⟩ := E2
  have hh2 := q2.trans hh0
  have cc2 : Steps p.tables e below (s₁.setTop (entryFrame m #[(.int (Int32.ofNat n))] 1)) (T2.setTop (mkF m 4 #[.val (.int (Int32.ofNat n))] [(.int (Int32.ofNat (2 * n)))])) := g2
  obtain ⟨T3, B3, X3, ba3, bs3, bv3, bh3, bf3, st3⟩ := X2.anew hexec (atype := .byte) (wk W (.arrayClass .byte)) (n := 2 * n) rfl (by show 2 * n * 1 ≤ _; omega) (by omega) (g := (mkF m 4 #[.val (.int (Int32.ofNat n))] [(.int (Int32.ofNat (2 * n)))])) rfl (hb hbytes d4) (rest := []) rfl (Nat.le_refl _) (by show 0 + 0 + 2 * n ≤ 2 * n; omega)
  rw [hh2] at ba3 st3
  have kp3 : XT.Kept s T3 := (XT.Kept.of_eq hh2).push bh3
  have cc3 : Steps p.tables e below (s₁.setTop (entryFrame m #[(.int (Int32.ofNat n))] 1)) (T3.setTop (mkF m 6 #[.val (.int (Int32.ofNat n))] [(.ref s.heap.size)])) := (cc2.trans (st3 _ (Steps.refl _)))
  have X4 := X3.wide (L' := []) (cells' := 1) (slots' := 2 * n) (fun x hx hlt => hx) (Nat.le_refl _) (by omega)
  exact ⟨T3, some (.ref s.heap.size), _, _, _, X4, rfl, rfl, rfl, (fun h => by cases h), ⟨⟨rfl, B3, ba3, bv3, by rw [X3.warmed.alike.findClass]; exact bf3, by rw [bs3]; simp, fun j hj => by rw [bs3]; simp [hj]; rfl, kp3⟩, by rw [bh3, hh2]; simp⟩, fun fs hl => cc3.trans (X4.areturnOut hexec rfl hret rfl (hb hbytes d6) hl)⟩
end NBF
namespace PutC
def yN : MethodName := ⟨"java/lang/StringUTF16", "putChar", "([BII)V"⟩
abbrev yB : ByteArray := jdk_52_method_4_code
theorem d0 : decode yB 0 = .ok (.getstatic 44, 3) := by decide +kernel
theorem d3 : decode yB 3 = .ok (.ifCond .ne 25, 3) := by decide +kernel
theorem d28 : decode yB 28 = .ok (.iload_n 1, 1) := by decide +kernel
theorem d29 : decode yB 29 = .ok (.iconst 1, 1) := by decide +kernel
theorem d30 : decode yB 30 = .ok (.ishl, 1) := by decide +kernel
theorem d31 : decode yB 31 = .ok (.istore_n 1, 1) := by decide +kernel
theorem d32 : decode yB 32 = .ok (.aload_n 0, 1) := by decide +kernel
theorem d33 : decode yB 33 = .ok (.iload_n 1, 1) := by decide +kernel
theorem d34 : decode yB 34 = .ok (.iinc 1 1, 3) := by decide +kernel
theorem d37 : decode yB 37 = .ok (.iload_n 2, 1) := by decide +kernel
theorem d38 : decode yB 38 = .ok (.getstatic 59, 3) := by decide +kernel
theorem d41 : decode yB 41 = .ok (.ishr, 1) := by decide +kernel
theorem d42 : decode yB 42 = .ok (.i2b, 1) := by decide +kernel
theorem d43 : decode yB 43 = .ok (.bastore, 1) := by decide +kernel
theorem d44 : decode yB 44 = .ok (.aload_n 0, 1) := by decide +kernel
theorem d45 : decode yB 45 = .ok (.iload_n 1, 1) := by decide +kernel
theorem d46 : decode yB 46 = .ok (.iload_n 2, 1) := by decide +kernel
theorem d47 : decode yB 47 = .ok (.getstatic 63, 3) := by decide +kernel
theorem d50 : decode yB 50 = .ok (.ishr, 1) := by decide +kernel
theorem d51 : decode yB 51 = .ok (.i2b, 1) := by decide +kernel
theorem d52 : decode yB 52 = .ok (.bastore, 1) := by decide +kernel
theorem d53 : decode yB 53 = .ok (.return_, 1) := by decide +kernel
def site : List Cond := stat3
def tab : Cond := tabOf yN yB 3 none site
def P (d : Addr) (B : Cell) (i : Nat) (ch : Int32) (args : Array Value) (s : State) : Prop := args = #[.ref d, .int (Int32.ofNat i), .int ch] ∧ XT.Arr .byte d B s ∧ 2 * i + 1 < B.slots.size ∧ U3 s
def E (d : Addr) (B : Cell) (i : Nat) (ch : Int32) (r : Option Value) (s u : State) : Prop := r = none ∧ XT.Put d ((B.setSlot (2 * i) (.int (lo8 ch))).setSlot (2 * i + 1) (.int (hi8 ch))) s u
theorem law (l : Launch) (d : Addr) (B : Cell) (i : Nat) (ch : Int32) : Law l yN 3 3 0 0 yB 3 none site (P d B i ch) (E d B i ch) [⟨d, 2 * i⟩, ⟨d, 2 * i + 1⟩] 0 0 := by
  refine Law.of_walk (plainFor_of_name (by decide +kernel)) (by decide +kernel) (by decide +kernel) (by decide) (fun _ _ h => by rw [h.1]; rfl) (fun _ U U' hal hh h => ⟨h.1, h.2.1.mv hal hh, h.2.2.1, h.2.2.2.mv hal hh⟩) (fun r U U' V V' h1 hal h2 h => ⟨h.1, h.2.mv h1 h2⟩) ?_
  intro p e s m args below meth c s₁ X0 hexec hbytes hml hret hlk hnm hown hh0 W hP
  obtain ⟨rfl, hB, hi, s1, s2, s3⟩ := hP
  have c0 : Steps p.tables e below (s₁.setTop (entryFrame m #[(.ref d), (.int (Int32.ofNat i)), (.int ch)] 3)) (s₁.setTop (mkF m 0 #[.val (.ref d), .val (.int (Int32.ofNat i)), .val (.int ch)] [])) := entry rfl
  have b31 := hB.2.2.2
  have hB0 := hB.mv X0.warmed.alike hh0
  obtain ⟨Tg1, Xg1, qg1, stg1⟩ := sgetS X0 hexec hown (wk W (.fieldLink U16 44 U16 "$assertionsDisabled" "Z")) s1 (StK.of_eq hh0) (g := (mkF m 0 #[.val (.ref d), .val (.int (Int32.ofNat i)), .val (.int ch)] [])) rfl (hb hbytes d0)
  have hhg1 := qg1.trans hh0
  have cc2 : Steps p.tables e below (s₁.setTop (entryFrame m #[(.ref d), (.int (Int32.ofNat i)), (.int ch)] 3)) (Tg1.setTop (mkF m 31 #[.val (.ref d), .val (.int (Int32.ofNat i)), .val (.int ch)] [(.int ((Int32.ofNat i) <<< ((1 : Int32) &&& 31)))])) := Steps.trans (c0.trans (stg1 _ (Steps.refl _))) (by
    refine XS.ifYes Xg1.here hexec rfl (pc0 := 3) rfl (hb hbytes d3) rfl (i0_ne_t (by decide)) (by decide) rfl ?_
    refine XS.iloadN Xg1.here hexec rfl (hb hbytes d28) rfl ?_
    refine iconstV Xg1.here hexec rfl 1 (hb hbytes d29) (by decide) ?_
    refine XT.ishl Xg1.here hexec rfl (hb hbytes d30) rfl ?_
    exact Steps.refl _)
  rw [shl1] at cc2
  have cc3 : Steps p.tables e below (s₁.setTop (entryFrame m #[(.ref d), (.int (Int32.ofNat i)), (.int ch)] 3)) (Tg1.setTop (mkF m 38 #[.val (.ref d), .val (.int ((Int32.ofNat (2 * i)) + 1)), .val (.int ch)] [(.int ch), (.int (Int32.ofNat (2 * i))), (.ref d)])) := Steps.trans cc2 (by
    refine XS.istoreN Xg1.here hexec rfl (hb hbytes d31) rfl rfl ?_
    refine XS.aloadN Xg1.here hexec rfl (hb hbytes d32) rfl rfl ?_
    refine XS.iloadN Xg1.here hexec rfl (hb hbytes d33) rfl ?_
    refine iincV Xg1.here hexec rfl 1 (hb hbytes d34) (by decide) rfl rfl ?_
    refine XS.iloadN Xg1.here hexec rfl (hb hbytes d37) rfl ?_
    exact Steps.refl _)
  obtain ⟨Tg4, Xg4, qg4, stg4⟩ := sgetS Xg1 hexec hown (wk W (.fieldLink U16 59 U16 "HI_BYTE_SHIFT" "I")) s2 (StK.of_eq hhg1) (g := (mkF m 38 #[.val (.ref d), .val (.int ((Int32.ofNat (2 * i)) + 1)), .val (.int ch)] [(.int ch), (.int (Int32.ofNat (2 * i))), (.ref d)])) rfl (hb hbytes d38)
  have hhg4 := qg4.trans hhg1
  have cc5 : Steps p.tables e below (s₁.setTop (entryFrame m #[(.ref d), (.int (Int32.ofNat i)), (.int ch)] 3)) (Tg4.setTop (mkF m 43 #[.val (.ref d), .val (.int ((Int32.ofNat (2 * i)) + 1)), .val (.int ch)] [(.int ((ch >>> ((0 : Int32) &&& 31)).toInt8.toInt32)), (.int (Int32.ofNat (2 * i))), (.ref d)])) := Steps.trans (cc3.trans (stg4 _ (Steps.refl _))) (by
    refine XT.ishr Xg4.here hexec rfl (hb hbytes d41) rfl ?_
    refine XT.i2b Xg4.here hexec rfl (hb hbytes d42) rfl ?_
    exact Steps.refl _)
  have cz : Steps p.tables e below (s₁.setTop (entryFrame m #[(.ref d), (.int (Int32.ofNat i)), (.int ch)] 3)) (Tg4.setTop (mkF m 43 #[.val (.ref d), .val (.int ((Int32.ofNat (2 * i)) + 1)), .val (.int ch)] [(.int (lo8 ch)), (.int (Int32.ofNat (2 * i))), (.ref d)])) := by
    have := cc5
    rw [lo8_shr0] at this
    exact this
  have hB1 := hB.mv Xg4.warmed.alike hhg4
  obtain ⟨T7, X7, p7, st7⟩ := Xg4.aput hexec hB1 (k := 2 * i) rfl (by omega) rfl (fits_lo8 ch) (g := (mkF m 43 #[.val (.ref d), .val (.int ((Int32.ofNat (2 * i)) + 1)), .val (.int ch)] [(.int (lo8 ch)), (.int (Int32.ofNat (2 * i))), (.ref d)])) rfl (rest := []) rfl (hb hbytes d43)
  have p7' := p7.from hhg4
  have hB7 : XT.Arr .byte d (B.setSlot (2 * i) (.int (lo8 ch))) T7 := hB.like X7.warmed.alike p7.1 rfl rfl (by simp [Cell.setSlot])
  have cc6 : Steps p.tables e below (s₁.setTop (entryFrame m #[(.ref d), (.int (Int32.ofNat i)), (.int ch)] 3)) (T7.setTop (mkF m 47 #[.val (.ref d), .val (.int ((Int32.ofNat (2 * i)) + 1)), .val (.int ch)] [(.int ch), (.int ((Int32.ofNat (2 * i)) + 1)), (.ref d)])) := Steps.trans (cz.trans (st7 _ (Steps.refl _))) (by
    refine XS.aloadN X7.here hexec rfl (hb hbytes d44) rfl rfl ?_
    refine XS.iloadN X7.here hexec rfl (hb hbytes d45) rfl ?_
    refine XS.iloadN X7.here hexec rfl (hb hbytes d46) rfl ?_
    exact Steps.refl _)
  obtain ⟨Tg7, Xg7, qg7, stg7⟩ := sgetS X7 hexec hown (wk W (.fieldLink U16 63 U16 "LO_BYTE_SHIFT" "I")) s3 (StK.put hB p7') (g := (mkF m 47 #[.val (.ref d), .val (.int ((Int32.ofNat (2 * i)) + 1)), .val (.int ch)] [(.int ch), (.int ((Int32.ofNat (2 * i)) + 1)), (.ref d)])) rfl (hb hbytes d47)
  have cc8 : Steps p.tables e below (s₁.setTop (entryFrame m #[(.ref d), (.int (Int32.ofNat i)), (.int ch)] 3)) (Tg7.setTop (mkF m 52 #[.val (.ref d), .val (.int ((Int32.ofNat (2 * i)) + 1)), .val (.int ch)] [(.int ((ch >>> ((8 : Int32) &&& 31)).toInt8.toInt32)), (.int ((Int32.ofNat (2 * i)) + 1)), (.ref d)])) := Steps.trans (cc6.trans (stg7 _ (Steps.refl _))) (by
    refine XT.ishr Xg7.here hexec rfl (hb hbytes d50) rfl ?_
    refine XT.i2b Xg7.here hexec rfl (hb hbytes d51) rfl ?_
    exact Steps.refl _)
  have hB9 := hB7.mv (X7.warmed.alike.symm.trans Xg7.warmed.alike) qg7
  have cy : Steps p.tables e below (s₁.setTop (entryFrame m #[(.ref d), (.int (Int32.ofNat i)), (.int ch)] 3)) (Tg7.setTop (mkF m 52 #[.val (.ref d), .val (.int (Int32.ofNat (2 * i + 1))), .val (.int ch)] [(.int (hi8 ch)), (.int (Int32.ofNat (2 * i + 1))), (.ref d)])) := by
    have := cc8
    rw [succ32] at this
    exact this
  obtain ⟨T11, X11, p11, st11⟩ := Xg7.aput hexec hB9 (k := 2 * i + 1) rfl (by simpa [Cell.setSlot] using hi) rfl (fits_lo8 (ch >>> ((8 : Int32) &&& 31))) (g := (mkF m 52 #[.val (.ref d), .val (.int (Int32.ofNat (2 * i + 1))), .val (.int ch)] [(.int (hi8 ch)), (.int (Int32.ofNat (2 * i + 1))), (.ref d)])) rfl (rest := []) rfl (hb hbytes d52)
  have cc9 : Steps p.tables e below (s₁.setTop (entryFrame m #[(.ref d), (.int (Int32.ofNat i)), (.int ch)] 3)) (T11.setTop (mkF m 53 #[.val (.ref d), .val (.int (Int32.ofNat (2 * i + 1))), .val (.int ch)] [])) := (cy.trans (st11 _ (Steps.refl _)))
  exact ⟨T11, none, _, _, _, X11, by simp, rfl, rfl, (fun _ => rfl), ⟨rfl, (p7'.trans (p11.from qg7))⟩, fun fs hl => cc9.trans (X11.returnOut hexec hret (hb hbytes d53) hl)⟩
end PutC
namespace GetC
def yN : MethodName := ⟨"java/lang/StringUTF16", "getChar", "([BI)C"⟩
abbrev yB : ByteArray := jdk_52_method_5_code
theorem d0 : decode yB 0 = .ok (.getstatic 44, 3) := by decide +kernel
theorem d3 : decode yB 3 = .ok (.ifCond .ne 25, 3) := by decide +kernel
theorem d28 : decode yB 28 = .ok (.iload_n 1, 1) := by decide +kernel
theorem d29 : decode yB 29 = .ok (.iconst 1, 1) := by decide +kernel
theorem d30 : decode yB 30 = .ok (.ishl, 1) := by decide +kernel
theorem d31 : decode yB 31 = .ok (.istore_n 1, 1) := by decide +kernel
theorem d32 : decode yB 32 = .ok (.aload_n 0, 1) := by decide +kernel
theorem d33 : decode yB 33 = .ok (.iload_n 1, 1) := by decide +kernel
theorem d34 : decode yB 34 = .ok (.iinc 1 1, 3) := by decide +kernel
theorem d37 : decode yB 37 = .ok (.baload, 1) := by decide +kernel
theorem d38 : decode yB 38 = .ok (.sipush 255, 3) := by decide +kernel
theorem d41 : decode yB 41 = .ok (.iand, 1) := by decide +kernel
theorem d42 : decode yB 42 = .ok (.getstatic 59, 3) := by decide +kernel
theorem d45 : decode yB 45 = .ok (.ishl, 1) := by decide +kernel
theorem d46 : decode yB 46 = .ok (.aload_n 0, 1) := by decide +kernel
theorem d47 : decode yB 47 = .ok (.iload_n 1, 1) := by decide +kernel
theorem d48 : decode yB 48 = .ok (.baload, 1) := by decide +kernel
theorem d49 : decode yB 49 = .ok (.sipush 255, 3) := by decide +kernel
theorem d52 : decode yB 52 = .ok (.iand, 1) := by decide +kernel
theorem d53 : decode yB 53 = .ok (.getstatic 63, 3) := by decide +kernel
theorem d56 : decode yB 56 = .ok (.ishl, 1) := by decide +kernel
theorem d57 : decode yB 57 = .ok (.ior, 1) := by decide +kernel
theorem d58 : decode yB 58 = .ok (.i2c, 1) := by decide +kernel
theorem d59 : decode yB 59 = .ok (.ireturn, 1) := by decide +kernel
def site : List Cond := stat3
def tab : Cond := tabOf yN yB 2 (some .char) site
def P (d : Addr) (V : Cell) (i : Nat) (u w : Int32) (args : Array Value) (s : State) : Prop := args = #[.ref d, .int (Int32.ofNat i)] ∧ XT.Arr .byte d V s ∧ V.slots[2 * i]? = some (.int u) ∧ V.slots[2 * i + 1]? = some (.int w) ∧ U3 s
def E (u w : Int32) (r : Option Value) (s t : State) : Prop := XT.PureE (some (.int (pairCh u w))) r s t
theorem law (l : Launch) (d : Addr) (V : Cell) (i : Nat) (u w : Int32) : Law l yN 2 2 0 0 yB 2 (some .char) site (P d V i u w) (E u w) [] 0 0 := by
  refine Law.of_walk (plainFor_of_name (by decide +kernel)) (by decide +kernel) (by decide +kernel) (by decide) (fun _ _ h => by rw [h.1]; rfl) (fun _ U U' hal hh h => ⟨h.1, h.2.1.mv hal hh, h.2.2.1, h.2.2.2.1, h.2.2.2.2.mv hal hh⟩) (fun r U U' V V' h1 hal h2 h => XT.PureE.mv r U U' V V' h1 hal h2 h) ?_
  intro p e s m args below meth c s₁ X0 hexec hbytes hml hret hlk hnm hown hh0 W hP
  obtain ⟨rfl, hV, hu, hw, s1, s2, s3⟩ := hP
  have c0 : Steps p.tables e below (s₁.setTop (entryFrame m #[(.ref d), (.int (Int32.ofNat i))] 2)) (s₁.setTop (mkF m 0 #[.val (.ref d), .val (.int (Int32.ofNat i))] [])) := entry rfl
  have v31 := hV.2.2.2
  have hi : 2 * i + 1 < V.slots.size := (Array.getElem?_eq_some_iff.mp hw).1
  obtain ⟨Tg1, Xg1, qg1, stg1⟩ := sgetS X0 hexec hown (wk W (.fieldLink U16 44 U16 "$assertionsDisabled" "Z")) s1 (StK.of_eq hh0) (g := (mkF m 0 #[.val (.ref d), .val (.int (Int32.ofNat i))] [])) rfl (hb hbytes d0)
  have hhg1 := qg1.trans hh0
  have cc2 : Steps p.tables e below (s₁.setTop (entryFrame m #[(.ref d), (.int (Int32.ofNat i))] 2)) (Tg1.setTop (mkF m 31 #[.val (.ref d), .val (.int (Int32.ofNat i))] [(.int ((Int32.ofNat i) <<< ((1 : Int32) &&& 31)))])) := Steps.trans (c0.trans (stg1 _ (Steps.refl _))) (by
    refine XS.ifYes Xg1.here hexec rfl (pc0 := 3) rfl (hb hbytes d3) rfl (i0_ne_t (by decide)) (by decide) rfl ?_
    refine XS.iloadN Xg1.here hexec rfl (hb hbytes d28) rfl ?_
    refine iconstV Xg1.here hexec rfl 1 (hb hbytes d29) (by decide) ?_
    refine XT.ishl Xg1.here hexec rfl (hb hbytes d30) rfl ?_
    exact Steps.refl _)
  rw [shl1] at cc2
  have cc3 : Steps p.tables e below (s₁.setTop (entryFrame m #[(.ref d), (.int (Int32.ofNat i))] 2)) (Tg1.setTop (mkF m 42 #[.val (.ref d), .val (.int ((Int32.ofNat (2 * i)) + 1))] [(.int (u &&& (255 : Int32)))])) := Steps.trans cc2 (by
    refine XS.istoreN Xg1.here hexec rfl (hb hbytes d31) rfl rfl ?_
    refine XS.aloadN Xg1.here hexec rfl (hb hbytes d32) rfl rfl ?_
    refine XS.iloadN Xg1.here hexec rfl (hb hbytes d33) rfl ?_
    refine iincV Xg1.here hexec rfl 1 (hb hbytes d34) (by decide) rfl rfl ?_
    refine Xg1.aget hexec (hV.mv Xg1.warmed.alike hhg1) (k := 2 * i) rfl hu rfl rfl (hb hbytes d37) ?_
    refine sipushV Xg1.here hexec rfl 255 (hb hbytes d38) (by decide) ?_
    refine XS.iand Xg1.here hexec rfl (hb hbytes d41) rfl ?_
    exact Steps.refl _)
  obtain ⟨Tg4, Xg4, qg4, stg4⟩ := sgetS Xg1 hexec hown (wk W (.fieldLink U16 59 U16 "HI_BYTE_SHIFT" "I")) s2 (StK.of_eq hhg1) (g := (mkF m 42 #[.val (.ref d), .val (.int ((Int32.ofNat (2 * i)) + 1))] [(.int (u &&& (255 : Int32)))])) rfl (hb hbytes d42)
  have hhg4 := qg4.trans hhg1
  have cc5 : Steps p.tables e below (s₁.setTop (entryFrame m #[(.ref d), (.int (Int32.ofNat i))] 2)) (Tg4.setTop (mkF m 48 #[.val (.ref d), .val (.int ((Int32.ofNat (2 * i)) + 1))] [(.int ((Int32.ofNat (2 * i)) + 1)), (.ref d), (.int ((u &&& (255 : Int32)) <<< ((0 : Int32) &&& 31)))])) := Steps.trans (cc3.trans (stg4 _ (Steps.refl _))) (by
    refine XT.ishl Xg4.here hexec rfl (hb hbytes d45) rfl ?_
    refine XS.aloadN Xg4.here hexec rfl (hb hbytes d46) rfl rfl ?_
    refine XS.iloadN Xg4.here hexec rfl (hb hbytes d47) rfl ?_
    exact Steps.refl _)
  have cz : Steps p.tables e below (s₁.setTop (entryFrame m #[(.ref d), (.int (Int32.ofNat i))] 2)) (Tg4.setTop (mkF m 48 #[.val (.ref d), .val (.int (Int32.ofNat (2 * i + 1)))] [(.int (Int32.ofNat (2 * i + 1))), (.ref d), (.int ((u &&& (255 : Int32)) <<< ((0 : Int32) &&& 31)))])) := by
    have := cc5
    rw [succ32] at this
    exact this
  have cc6 : Steps p.tables e below (s₁.setTop (entryFrame m #[(.ref d), (.int (Int32.ofNat i))] 2)) (Tg4.setTop (mkF m 53 #[.val (.ref d), .val (.int (Int32.ofNat (2 * i + 1)))] [(.int (w &&& (255 : Int32))), (.int ((u &&& (255 : Int32)) <<< ((0 : Int32) &&& 31)))])) := Steps.trans cz (by
    refine Xg4.aget hexec (hV.mv Xg4.warmed.alike hhg4) (k := 2 * i + 1) rfl hw rfl rfl (hb hbytes d48) ?_
    refine sipushV Xg4.here hexec rfl 255 (hb hbytes d49) (by decide) ?_
    refine XS.iand Xg4.here hexec rfl (hb hbytes d52) rfl ?_
    exact Steps.refl _)
  obtain ⟨Tg7, Xg7, qg7, stg7⟩ := sgetS Xg4 hexec hown (wk W (.fieldLink U16 63 U16 "LO_BYTE_SHIFT" "I")) s3 (StK.of_eq hhg4) (g := (mkF m 53 #[.val (.ref d), .val (.int (Int32.ofNat (2 * i + 1)))] [(.int (w &&& (255 : Int32))), (.int ((u &&& (255 : Int32)) <<< ((0 : Int32) &&& 31)))])) rfl (hb hbytes d53)
  have hhg7 := qg7.trans hhg4
  have cc8 : Steps p.tables e below (s₁.setTop (entryFrame m #[(.ref d), (.int (Int32.ofNat i))] 2)) (Tg7.setTop (mkF m 59 #[.val (.ref d), .val (.int (Int32.ofNat (2 * i + 1)))] [(.int ((((u &&& (255 : Int32)) <<< ((0 : Int32) &&& 31)) ||| ((w &&& (255 : Int32)) <<< ((8 : Int32) &&& 31))).toUInt32.toUInt16.toUInt32.toInt32))])) := Steps.trans (cc6.trans (stg7 _ (Steps.refl _))) (by
    refine XT.ishl Xg7.here hexec rfl (hb hbytes d56) rfl ?_
    refine XT.ior Xg7.here hexec rfl (hb hbytes d57) rfl ?_
    refine XT.i2c Xg7.here hexec rfl (hb hbytes d58) rfl ?_
    exact Steps.refl _)
  exact ⟨Tg7, some (.int (pairCh u w)), _, _, _, Xg7, rfl, rfl, rfl, (fun h => by cases h), ⟨rfl, hhg7⟩, fun fs hl => cc8.trans (Xg7.ireturnOut hexec hret (narrow_c _) (Or.inr (Or.inr (Or.inr (Or.inl rfl)))) (hb hbytes d59) hl)⟩
end GetC
/-- byte j of the chars of A from o on, low before high -/
def wb (A : Cell) (o j : Nat) : Value := .int (if j % 2 = 0 then lo8 (cv A (o + j / 2)) else hi8 (cv A (o + j / 2)))
theorem wb_lo (A : Cell) (o i : Nat) : wb A o (2 * i) = .int (lo8 (cv A (o + i))) := by unfold wb; rw [if_pos (by omega), show 2 * i / 2 = i by omega]
theorem wb_hi (A : Cell) (o i : Nat) : wb A o (2 * i + 1) = .int (hi8 (cv A (o + i))) := by unfold wb; rw [if_neg (by omega), show (2 * i + 1) / 2 = i by omega]
namespace ToB
def yN : MethodName := ⟨"java/lang/StringUTF16", "toBytes", "([CII)[B"⟩
abbrev yB : ByteArray := jdk_52_method_14_code
theorem d0 : decode yB 0 = .ok (.iload_n 2, 1) := by decide +kernel
theorem d1 : decode yB 1 = .ok (.invokestatic 107, 3) := by decide +kernel
theorem d4 : decode yB 4 = .ok (.astore_n 3, 1) := by decide +kernel
theorem d5 : decode yB 5 = .ok (.iconst 0, 1) := by decide +kernel
theorem d6 : decode yB 6 = .ok (.istore 4, 2) := by decide +kernel
theorem d8 : decode yB 8 = .ok (.iload 4, 2) := by decide +kernel
theorem d10 : decode yB 10 = .ok (.iload_n 2, 1) := by decide +kernel
theorem d11 : decode yB 11 = .ok (.if_icmp .ge 21, 3) := by decide +kernel
theorem d14 : decode yB 14 = .ok (.aload_n 3, 1) := by decide +kernel
theorem d15 : decode yB 15 = .ok (.iload 4, 2) := by decide +kernel
theorem d17 : decode yB 17 = .ok (.aload_n 0, 1) := by decide +kernel
theorem d18 : decode yB 18 = .ok (.iload_n 1, 1) := by decide +kernel
theorem d19 : decode yB 19 = .ok (.caload, 1) := by decide +kernel
theorem d20 : decode yB 20 = .ok (.invokestatic 111, 3) := by decide +kernel
theorem d23 : decode yB 23 = .ok (.iinc 1 1, 3) := by decide +kernel
theorem d26 : decode yB 26 = .ok (.iinc 4 1, 3) := by decide +kernel
theorem d29 : decode yB 29 = .ok (.goto (-21), 3) := by decide +kernel
theorem d32 : decode yB 32 = .ok (.aload_n 3, 1) := by decide +kernel
theorem d33 : decode yB 33 = .ok (.areturn, 1) := by decide +kernel
def site : List Cond := [NBF.tab, PutC.tab] ++ staticW U16 107 NBF.yN ++ staticW U16 111 PutC.yN
def tab : Cond := tabOf yN yB 5 (some (.array .byte)) site
def P (b : Addr) (A : Cell) (o len : Nat) (args : Array Value) (s : State) : Prop := args = #[.ref b, .int (Int32.ofNat o), .int (Int32.ofNat len)] ∧ Ch b A s ∧ o + len ≤ A.slots.size ∧ 2 * len ≤ 536870912 ∧ U3 s
def E (b : Addr) (A : Cell) (o len : Nat) (r : Option Value) (s u : State) : Prop := NewArr .byte "[B" (2 * len) (wb A o) r s u ∧ u.heap.size = s.heap.size + 1
theorem law (l : Launch) (b : Addr) (A : Cell) (o len : Nat) : Law l yN 3 3 2 28 yB 5 (some (.array .byte)) site (P b A o len) (E b A o len) [] 1 (2 * len) := by
  refine Law.of_walk (plainFor_of_name (by decide +kernel)) (by decide +kernel) (by decide +kernel) (by decide) (fun _ _ h => by rw [h.1]; rfl) (fun _ U U' hal hh h => ⟨h.1, h.2.1.mv hal hh, h.2.2.1, h.2.2.2.1, h.2.2.2.2.mv hal hh⟩) (fun r U U' V V' h1 hal h2 h => ⟨NewArr.mv r U U' V V' h1 hal h2 h.1, by rw [h1, h2]; exact h.2⟩) ?_
  intro p e s m args below meth c s₁ X0 hexec hbytes hml hret hlk hnm hown hh0 W hP
  obtain ⟨rfl, hA, l1, l2, u3⟩ := hP
  have c0 : Steps p.tables e below (s₁.setTop (entryFrame m #[(.ref b), (.int (Int32.ofNat o)), (.int (Int32.ofNat len))] 5)) (s₁.setTop (mkF m 0 #[.val (.ref b), .val (.int (Int32.ofNat o)), .val (.int (Int32.ofNat len)), .unset, .unset] [])) := entry rfl
  have a31 := hA.1.2.2.2
  have cc1 : Steps p.tables e below (s₁.setTop (entryFrame m #[(.ref b), (.int (Int32.ofNat o)), (.int (Int32.ofNat len))] 5)) (s₁.setTop (mkF m 1 #[.val (.ref b), .val (.int (Int32.ofNat o)), .val (.int (Int32.ofNat len)), .unset, .unset] [(.int (Int32.ofNat len))])) := Steps.trans c0 (by
    refine XS.iloadN X0.here hexec rfl (hb hbytes d0) rfl ?_
    exact Steps.refl _)
  obtain ⟨v2, T2, X2, E2, g2⟩ := X0.callS hexec (NBF.law l len) hown (wks W (staticW U16 107 NBF.yN)) (wk W NBF.tab) (W := 0) (Nat.le_of_ble_eq_true rfl) (Nat.le_of_ble_eq_true rfl) (Nat.le_refl _) (by show 0 + 2 * len ≤ 2 * len; omega) (g := (mkF m 1 #[.val (.ref b), .val (.int (Int32.ofNat o)), .val (.int (Int32.ofNat len)), .unset, .unset] [(.int (Int32.ofNat len))])) rfl (by rw [hml]; rfl) cc1 (argsL := [.int (Int32.ofNat len)]) (rest := []) rfl rfl (by show 2 * 0 + 0 ≤ _; decide) (hb hbytes d1) (⟨rfl, l2⟩)
  obtain ⟨e2, z2⟩ := E2
  obtain ⟨rfl, B2, n1, n2, n3, n4, n5, n6⟩ := NewArr.mv _ s₁ s _ _ hh0.symm (Vm.Alike.refl _) rfl e2
  rw [hh0] at z2
  have X2' := X2.wide (L' := []) (cells' := 1) (slots' := 2 * len) (fun x hx hlt => by simpa using hx) (by omega) (by omega)
  have cc2 : Steps p.tables e below (s₁.setTop (entryFrame m #[(.ref b), (.int (Int32.ofNat o)), (.int (Int32.ofNat len))] 5)) (T2.setTop (mkF m 8 #[.val (.ref b), .val (.int (Int32.ofNat o)), .val (.int (Int32.ofNat len)), .val (.ref s.heap.size), .val (.int 0)] [])) := Steps.trans g2 (by
    refine XS.astoreN X2'.here hexec rfl (hb hbytes d4) rfl rfl rfl ?_
    refine iconstV X2'.here hexec rfl 0 (hb hbytes d5) (by decide) ?_
    refine XS.istore X2'.here hexec rfl (hb hbytes d6) rfl rfl ?_
    exact Steps.refl _)
  have hbd : b ≠ s.heap.size := hA.1.ne
  have loop : ∀ (r i : Nat), i + r = len → ∀ (Tl : State) (Bk : Cell), Stand p l e { frames := 2, locals := 28, cells := 1, slots := 2 * len } s m #[(.ref b), (.int (Int32.ofNat o)), (.int (Int32.ofNat len))] below meth c Tl [] 1 (2 * len) → XT.Put s.heap.size Bk T2 Tl → Laid B2 Bk 0 (2 * i) (wb A o) → Steps p.tables e below (s₁.setTop (entryFrame m #[(.ref b), (.int (Int32.ofNat o)), (.int (Int32.ofNat len))] 5)) (Tl.setTop (mkF m 8 #[.val (.ref b), .val (.int (Int32.ofNat (o + i))), .val (.int (Int32.ofNat len)), .val (.ref s.heap.size), .val (.int (Int32.ofNat i))] [])) →
      ∃ (T' : State) (B' : Cell), Stand p l e { frames := 2, locals := 28, cells := 1, slots := 2 * len } s m #[(.ref b), (.int (Int32.ofNat o)), (.int (Int32.ofNat len))] below meth c T' [] 1 (2 * len) ∧ XT.Put s.heap.size B' T2 T' ∧ Laid B2 B' 0 (2 * len) (wb A o) ∧ Steps p.tables e below (s₁.setTop (entryFrame m #[(.ref b), (.int (Int32.ofNat o)), (.int (Int32.ofNat len))] 5)) (T'.setTop (mkF m 8 #[.val (.ref b), .val (.int (Int32.ofNat (o + len))), .val (.int (Int32.ofNat len)), .val (.ref s.heap.size), .val (.int (Int32.ofNat len))] [])) := by
    intro r
    induction r with
    | zero =>
      intro i hi Tl Bk Xl pl fl cl
      have hil : i = len := by omega
      subst hil
      exact ⟨Tl, Bk, Xl, pl, fl, cl⟩
    | succ r ih =>
      intro i hi Tl Bk Xl pl fl cl
      have all := X2.warmed.alike.symm.trans Xl.warmed.alike
      have hAl := hA.keep Xl.warmed.alike (pl.other hbd (n6 _ _ hA.1.1))
      have hBk := n1.like all pl.1 fl.1 fl.2.1 fl.2.2.1
      have sBk : Bk.slots.size = 2 * len := fl.2.2.1.trans n4
      have u3l : U3 Tl := (u3.keep X2.warmed.alike (StK.kept n6)).keep all (StK.put n1 pl)
      have cc3 : Steps p.tables e below (s₁.setTop (entryFrame m #[(.ref b), (.int (Int32.ofNat o)), (.int (Int32.ofNat len))] 5)) (Tl.setTop (mkF m 20 #[.val (.ref b), .val (.int (Int32.ofNat (o + i))), .val (.int (Int32.ofNat len)), .val (.ref s.heap.size), .val (.int (Int32.ofNat i))] [(.int (cv A (o + i))), (.int (Int32.ofNat i)), (.ref s.heap.size)])) := Steps.trans cl (by
        refine XS.iload Xl.here hexec rfl (hb hbytes d8) rfl ?_
        refine XS.iloadN Xl.here hexec rfl (hb hbytes d10) rfl ?_
        refine XS.icmpNo Xl.here hexec rfl (hb hbytes d11) rfl (ii_ge_f (lt32 (by omega) (by omega))) ?_
        refine XS.aloadN Xl.here hexec rfl (hb hbytes d14) rfl rfl ?_
        refine XS.iload Xl.here hexec rfl (hb hbytes d15) rfl ?_
        refine XS.aloadN Xl.here hexec rfl (hb hbytes d17) rfl rfl ?_
        refine XS.iloadN Xl.here hexec rfl (hb hbytes d18) rfl ?_
        refine Xl.aget hexec hAl.1 rfl (hA.get (i := o + i) (by omega)) rfl rfl (hb hbytes d19) ?_
        exact Steps.refl _)
      obtain ⟨v6, T6, X6, E6, g6⟩ := Xl.callS hexec (PutC.law l s.heap.size Bk i (cv A (o + i))) hown (wks W (staticW U16 111 PutC.yN)) (wk W PutC.tab) (W := 0) (Nat.le_of_ble_eq_true rfl) (Nat.le_of_ble_eq_true rfl) (Nat.le_refl _) (Nat.le_refl _) (g := (mkF m 20 #[.val (.ref b), .val (.int (Int32.ofNat (o + i))), .val (.int (Int32.ofNat len)), .val (.ref s.heap.size), .val (.int (Int32.ofNat i))] [(.int (cv A (o + i))), (.int (Int32.ofNat i)), (.ref s.heap.size)])) rfl (by rw [hml]; rfl) cc3 (argsL := [.ref s.heap.size, .int (Int32.ofNat i), .int (cv A (o + i))]) (rest := []) rfl rfl (by show 2 * 0 + 0 ≤ _; decide) (hb hbytes d20) (⟨rfl, hBk, by omega, u3l⟩)
      obtain ⟨rfl, p6⟩ := E6
      have X6' := X6.wide (L' := []) (cells' := 1) (slots' := 2 * len) (fun x hx hlt => by
        simp only [List.nil_append, List.mem_cons, List.not_mem_nil, or_false] at hx
        rcases hx with rfl | rfl <;> exact absurd hlt (Nat.lt_irrefl _)) (by omega) (by omega)
      have cc4 : Steps p.tables e below (s₁.setTop (entryFrame m #[(.ref b), (.int (Int32.ofNat o)), (.int (Int32.ofNat len))] 5)) (T6.setTop (mkF m 8 #[.val (.ref b), .val (.int ((Int32.ofNat (o + i)) + 1)), .val (.int (Int32.ofNat len)), .val (.ref s.heap.size), .val (.int ((Int32.ofNat i) + 1))] [])) := Steps.trans g6 (by
        refine iincV X6'.here hexec rfl 1 (hb hbytes d23) (by decide) rfl rfl ?_
        refine iincV X6'.here hexec rfl 1 (hb hbytes d26) (by decide) rfl rfl ?_
        refine XS.goto X6'.here hexec rfl (pc0 := 29) rfl (hb hbytes d29) (by decide) rfl ?_
        exact Steps.refl _)
      have cn : Steps p.tables e below (s₁.setTop (entryFrame m #[(.ref b), (.int (Int32.ofNat o)), (.int (Int32.ofNat len))] 5)) (T6.setTop (mkF m 8 #[.val (.ref b), .val (.int (Int32.ofNat (o + (i + 1)))), .val (.int (Int32.ofNat len)), .val (.ref s.heap.size), .val (.int (Int32.ofNat (i + 1)))] [])) := by
        have := cc4
        rw [succ32, succ32] at this
        exact this
      exact ih (i + 1) (by omega) T6 _ X6' (pl.trans p6) ((fl.step (v := .int (lo8 (cv A (o + i)))) (Nat.zero_le _) (by omega) (wb_lo A o i).symm).step (v := .int (hi8 (cv A (o + i)))) (Nat.zero_le _) (by simp [Cell.setSlot]; omega) (wb_hi A o i).symm) cn
  obtain ⟨T9, B9, X9, p9, f9, g9⟩ := loop len 0 (by omega) T2 B2 X2' ⟨n1.1, fun _ _ => rfl, rfl⟩ (Laid.zero _ _ _) cc2
  have cc5 : Steps p.tables e below (s₁.setTop (entryFrame m #[(.ref b), (.int (Int32.ofNat o)), (.int (Int32.ofNat len))] 5)) (T9.setTop (mkF m 33 #[.val (.ref b), .val (.int (Int32.ofNat (o + len))), .val (.int (Int32.ofNat len)), .val (.ref s.heap.size), .val (.int (Int32.ofNat len))] [(.ref s.heap.size)])) := Steps.trans g9 (by
    refine XS.iload X9.here hexec rfl (hb hbytes d8) rfl ?_
    refine XS.iloadN X9.here hexec rfl (hb hbytes d10) rfl ?_
    refine XS.icmpYes X9.here hexec rfl (pc0 := 11) rfl (hb hbytes d11) rfl (ii_ge_t (nlt32 (by omega) (Nat.le_refl _))) (by decide) rfl ?_
    refine XS.aloadN X9.here hexec rfl (hb hbytes d32) rfl rfl ?_
    exact Steps.refl _)
  exact ⟨T9, some (.ref s.heap.size), _, _, _, X9, rfl, rfl, rfl, (fun h => by cases h), ⟨⟨rfl, B9, n1.like (X2.warmed.alike.symm.trans X9.warmed.alike) p9.1 f9.1 f9.2.1 f9.2.2.1, f9.2.1.trans n2, by rw [X9.warmed.alike.findClass, f9.1, ← X2.warmed.alike.findClass]; exact n3, f9.2.2.1.trans n4, fun j hj => by rw [f9.2.2.2 j, if_pos ⟨Nat.zero_le _, hj⟩], n6.put p9 (Nat.le_refl _)⟩, p9.2.2.trans z2⟩, fun fs hl => cc5.trans (X9.areturnOut hexec rfl hret rfl (hb hbytes d33) hl)⟩
end ToB
namespace Cmp5w
def yN : MethodName := ⟨"java/lang/StringUTF16", "compress", "([CI[BII)I"⟩
abbrev yB : ByteArray := jdk_52_method_21_code
theorem d0 : decode yB 0 = .ok (.iconst 0, 1) := by decide +kernel
theorem d1 : decode yB 1 = .ok (.istore 5, 2) := by decide +kernel
theorem d3 : decode yB 3 = .ok (.iload 5, 2) := by decide +kernel
theorem d5 : decode yB 5 = .ok (.iload 4, 2) := by decide +kernel
theorem d7 : decode yB 7 = .ok (.if_icmp .ge 37, 3) := by decide +kernel
theorem d10 : decode yB 10 = .ok (.aload_n 0, 1) := by decide +kernel
theorem d11 : decode yB 11 = .ok (.iload_n 1, 1) := by decide +kernel
theorem d12 : decode yB 12 = .ok (.caload, 1) := by decide +kernel
theorem d13 : decode yB 13 = .ok (.istore 6, 2) := by decide +kernel
theorem d15 : decode yB 15 = .ok (.iload 6, 2) := by decide +kernel
theorem d17 : decode yB 17 = .ok (.sipush 255, 3) := by decide +kernel
theorem d20 : decode yB 20 = .ok (.if_icmp .le 6, 3) := by decide +kernel
theorem d23 : decode yB 23 = .ok (.iload 5, 2) := by decide +kernel
theorem d25 : decode yB 25 = .ok (.ireturn, 1) := by decide +kernel
theorem d26 : decode yB 26 = .ok (.aload_n 2, 1) := by decide +kernel
theorem d27 : decode yB 27 = .ok (.iload_n 3, 1) := by decide +kernel
theorem d28 : decode yB 28 = .ok (.iload 6, 2) := by decide +kernel
theorem d30 : decode yB 30 = .ok (.i2b, 1) := by decide +kernel
theorem d31 : decode yB 31 = .ok (.bastore, 1) := by decide +kernel
theorem d32 : decode yB 32 = .ok (.iinc 1 1, 3) := by decide +kernel
theorem d35 : decode yB 35 = .ok (.iinc 3 1, 3) := by decide +kernel
theorem d38 : decode yB 38 = .ok (.iinc 5 1, 3) := by decide +kernel
theorem d41 : decode yB 41 = .ok (.goto (-38), 3) := by decide +kernel
def site : List Cond := []
def tab : Cond := tabOf yN yB 7 (some .int) site
def P (b : Addr) (A : Cell) (d : Addr) (B : Cell) (o q len w : Nat) (args : Array Value) (s : State) : Prop := args = #[.ref b, .int (Int32.ofNat o), .ref d, .int (Int32.ofNat q), .int (Int32.ofNat len)] ∧ Ch b A s ∧ XT.Arr .byte d B s ∧ b ≠ d ∧ o + len ≤ A.slots.size ∧ q + len ≤ B.slots.size ∧ w < len ∧ (∀ i, i < w → ¬ 255 < cv A (o + i)) ∧ 255 < cv A (o + w)
def E (b : Addr) (A : Cell) (d : Addr) (B : Cell) (o q w : Nat) (r : Option Value) (s u : State) : Prop := r = some (.int (Int32.ofNat w)) ∧ ∃ B', XT.Put d B' s u ∧ Laid B B' q (q + w) (fun j => Value.int (lo8 (cv A (o + (j - q)))))
theorem law (l : Launch) (b : Addr) (A : Cell) (d : Addr) (B : Cell) (o q len w : Nat) : Law l yN 5 5 0 0 yB 7 (some .int) site (P b A d B o q len w) (E b A d B o q w) (copyLocs d q w) 0 0 := by
  refine Law.of_walk (plainFor_of_name (by decide +kernel)) (by decide +kernel) (by decide +kernel) (by decide) (fun _ _ h => by rw [h.1]; rfl) (fun _ U U' hal hh h => ⟨h.1, h.2.1.mv hal hh, h.2.2.1.mv hal hh, h.2.2.2⟩) (fun r U U' V V' h1 hal h2 h => ⟨h.1, h.2.elim fun B' q => ⟨B', q.1.mv h1 h2, q.2⟩⟩) ?_
  intro p e s m args below meth c s₁ X0 hexec hbytes hml hret hlk hnm hown hh0 W hP
  obtain ⟨rfl, hA, hB, hne, l1, l2, hw, hp, hwd⟩ := hP
  have c0 : Steps p.tables e below (s₁.setTop (entryFrame m #[(.ref b), (.int (Int32.ofNat o)), (.ref d), (.int (Int32.ofNat q)), (.int (Int32.ofNat len))] 7)) (s₁.setTop (mkF m 0 #[.val (.ref b), .val (.int (Int32.ofNat o)), .val (.ref d), .val (.int (Int32.ofNat q)), .val (.int (Int32.ofNat len)), .unset, .unset] [])) := entry rfl
  have hA0 := hA.1.mv X0.warmed.alike hh0
  have hB0 := hB.mv X0.warmed.alike hh0
  have a31 := hA.1.2.2.2
  have cc1 : Steps p.tables e below (s₁.setTop (entryFrame m #[(.ref b), (.int (Int32.ofNat o)), (.ref d), (.int (Int32.ofNat q)), (.int (Int32.ofNat len))] 7)) (s₁.setTop (mkF m 3 #[.val (.ref b), .val (.int (Int32.ofNat o)), .val (.ref d), .val (.int (Int32.ofNat q)), .val (.int (Int32.ofNat len)), .val (.int 0), .unset] [])) := Steps.trans c0 (by
    refine iconstV X0.here hexec rfl 0 (hb hbytes d0) (by decide) ?_
    refine XS.istore X0.here hexec rfl (hb hbytes d1) rfl rfl ?_
    exact Steps.refl _)
  have loop : ∀ (r i : Nat), i + r = w → ∀ (z : Slot), (z = .unset ∨ ∃ w, z = .val w ∧ w.category = 1) → ∀ (Tl : State) (Bk : Cell), Stand p l e { frames := 0, locals := 0, cells := 0, slots := 0 } s m #[(.ref b), (.int (Int32.ofNat o)), (.ref d), (.int (Int32.ofNat q)), (.int (Int32.ofNat len))] below meth c Tl ([] ++ copyLocs d q i) 0 0 → XT.Put d Bk s₁ Tl → Laid B Bk q (q + i) (fun j => Value.int (lo8 (cv A (o + (j - q))))) → Steps p.tables e below (s₁.setTop (entryFrame m #[(.ref b), (.int (Int32.ofNat o)), (.ref d), (.int (Int32.ofNat q)), (.int (Int32.ofNat len))] 7)) (Tl.setTop (mkF m 3 #[.val (.ref b), .val (.int (Int32.ofNat (o + i))), .val (.ref d), .val (.int (Int32.ofNat (q + i))), .val (.int (Int32.ofNat len)), .val (.int (Int32.ofNat i)), z] [])) →
      ∃ (T' : State) (B' : Cell) (z' : Slot), (z' = .unset ∨ ∃ w, z' = .val w ∧ w.category = 1) ∧ Stand p l e { frames := 0, locals := 0, cells := 0, slots := 0 } s m #[(.ref b), (.int (Int32.ofNat o)), (.ref d), (.int (Int32.ofNat q)), (.int (Int32.ofNat len))] below meth c T' ([] ++ copyLocs d q w) 0 0 ∧ XT.Put d B' s₁ T' ∧ Laid B B' q (q + w) (fun j => Value.int (lo8 (cv A (o + (j - q))))) ∧ Steps p.tables e below (s₁.setTop (entryFrame m #[(.ref b), (.int (Int32.ofNat o)), (.ref d), (.int (Int32.ofNat q)), (.int (Int32.ofNat len))] 7)) (T'.setTop (mkF m 3 #[.val (.ref b), .val (.int (Int32.ofNat (o + w))), .val (.ref d), .val (.int (Int32.ofNat (q + w))), .val (.int (Int32.ofNat len)), .val (.int (Int32.ofNat w)), z'] [])) := by
    intro r
    induction r with
    | zero =>
      intro i hi z hz Tl Bk Xl pl fl cl
      have hil : i = w := by omega
      subst hil
      exact ⟨Tl, Bk, z, hz, Xl, pl, fl, cl⟩
    | succ r ih =>
      intro i hi z hz Tl Bk Xl pl fl cl
      have all := X0.warmed.alike.symm.trans Xl.warmed.alike
      have hAl := hA0.keep all (pl.other hne hA0.1)
      have hBk := hB0.like all pl.1 fl.1 fl.2.1 fl.2.2.1
      have hlt : q + i < Bk.slots.size := by rw [fl.2.2.1]; omega
      have cc2 : Steps p.tables e below (s₁.setTop (entryFrame m #[(.ref b), (.int (Int32.ofNat o)), (.ref d), (.int (Int32.ofNat q)), (.int (Int32.ofNat len))] 7)) (Tl.setTop (mkF m 31 #[.val (.ref b), .val (.int (Int32.ofNat (o + i))), .val (.ref d), .val (.int (Int32.ofNat (q + i))), .val (.int (Int32.ofNat len)), .val (.int (Int32.ofNat i)), .val (.int (cv A (o + i)))] [(.int ((cv A (o + i)).toInt8.toInt32)), (.int (Int32.ofNat (q + i))), (.ref d)])) := Steps.trans cl (by
        refine XS.iload Xl.here hexec rfl (hb hbytes d3) rfl ?_
        refine XS.iload Xl.here hexec rfl (hb hbytes d5) rfl ?_
        refine XS.icmpNo Xl.here hexec rfl (hb hbytes d7) rfl (ii_ge_f (lt32 (by omega) (by omega))) ?_
        refine XS.aloadN Xl.here hexec rfl (hb hbytes d10) rfl rfl ?_
        refine XS.iloadN Xl.here hexec rfl (hb hbytes d11) rfl ?_
        refine Xl.aget hexec hAl rfl (hA.get (i := o + i) (by omega)) rfl rfl (hb hbytes d12) ?_
        refine XS.istoreS Xl.here hexec rfl (hb hbytes d13) rfl rfl hz ?_
        refine XS.iload Xl.here hexec rfl (hb hbytes d15) rfl ?_
        refine sipushV Xl.here hexec rfl 255 (hb hbytes d17) (by decide) ?_
        refine XS.icmpYes Xl.here hexec rfl (pc0 := 20) rfl (hb hbytes d20) rfl (ii_le_t (hp i (by omega))) (by decide) rfl ?_
        refine XS.aloadN Xl.here hexec rfl (hb hbytes d26) rfl rfl ?_
        refine XS.iloadN Xl.here hexec rfl (hb hbytes d27) rfl ?_
        refine XS.iload Xl.here hexec rfl (hb hbytes d28) rfl ?_
        refine XT.i2b Xl.here hexec rfl (hb hbytes d30) rfl ?_
        exact Steps.refl _)
      obtain ⟨T7, X7, p7, st7⟩ := Xl.aput hexec hBk rfl hlt rfl (fits_lo8 (cv A (o + i))) (g := (mkF m 31 #[.val (.ref b), .val (.int (Int32.ofNat (o + i))), .val (.ref d), .val (.int (Int32.ofNat (q + i))), .val (.int (Int32.ofNat len)), .val (.int (Int32.ofNat i)), .val (.int (cv A (o + i)))] [(.int (lo8 (cv A (o + i)))), (.int (Int32.ofNat (q + i))), (.ref d)])) rfl (rest := []) rfl (hb hbytes d31)
      have cc3 : Steps p.tables e below (s₁.setTop (entryFrame m #[(.ref b), (.int (Int32.ofNat o)), (.ref d), (.int (Int32.ofNat q)), (.int (Int32.ofNat len))] 7)) (T7.setTop (mkF m 3 #[.val (.ref b), .val (.int ((Int32.ofNat (o + i)) + 1)), .val (.ref d), .val (.int ((Int32.ofNat (q + i)) + 1)), .val (.int (Int32.ofNat len)), .val (.int ((Int32.ofNat i) + 1)), .val (.int (cv A (o + i)))] [])) := Steps.trans (cc2.trans (st7 _ (Steps.refl _))) (by
        refine iincV X7.here hexec rfl 1 (hb hbytes d32) (by decide) rfl rfl ?_
        refine iincV X7.here hexec rfl 1 (hb hbytes d35) (by decide) rfl rfl ?_
        refine iincV X7.here hexec rfl 1 (hb hbytes d38) (by decide) rfl rfl ?_
        refine XS.goto X7.here hexec rfl (pc0 := 41) rfl (hb hbytes d41) (by decide) rfl ?_
        exact Steps.refl _)
      have cn : Steps p.tables e below (s₁.setTop (entryFrame m #[(.ref b), (.int (Int32.ofNat o)), (.ref d), (.int (Int32.ofNat q)), (.int (Int32.ofNat len))] 7)) (T7.setTop (mkF m 3 #[.val (.ref b), .val (.int (Int32.ofNat (o + (i + 1)))), .val (.ref d), .val (.int (Int32.ofNat (q + (i + 1)))), .val (.int (Int32.ofNat len)), .val (.int (Int32.ofNat (i + 1))), (.val (.int (cv A (o + i))))] [])) := by
        have := cc3
        rw [succ32, succ32, succ32] at this
        exact this
      exact ih (i + 1) (by omega) _ (Or.inr ⟨_, rfl, rfl⟩) T7 _ (by rw [copyLocs_step, ← List.append_assoc]; exact X7) (pl.trans p7) (fl.step (by omega) hlt (by simp)) cn
  obtain ⟨T9, B9, z9, hz9, X9, p9, f9, g9⟩ := loop w 0 (by omega) .unset (Or.inl rfl) s₁ B (by simpa [copyLocs] using X0) ⟨hB0.1, fun _ _ => rfl, rfl⟩ (Laid.zero _ _ _) cc1
  have al9 := X0.warmed.alike.symm.trans X9.warmed.alike
  have hA9 := hA0.keep al9 (p9.other hne hA0.1)
  have cc4 : Steps p.tables e below (s₁.setTop (entryFrame m #[(.ref b), (.int (Int32.ofNat o)), (.ref d), (.int (Int32.ofNat q)), (.int (Int32.ofNat len))] 7)) (T9.setTop (mkF m 25 #[.val (.ref b), .val (.int (Int32.ofNat (o + w))), .val (.ref d), .val (.int (Int32.ofNat (q + w))), .val (.int (Int32.ofNat len)), .val (.int (Int32.ofNat w)), .val (.int (cv A (o + w)))] [(.int (Int32.ofNat w))])) := Steps.trans g9 (by
    refine XS.iload X9.here hexec rfl (hb hbytes d3) rfl ?_
    refine XS.iload X9.here hexec rfl (hb hbytes d5) rfl ?_
    refine XS.icmpNo X9.here hexec rfl (hb hbytes d7) rfl (ii_ge_f (lt32 (by omega) (by omega))) ?_
    refine XS.aloadN X9.here hexec rfl (hb hbytes d10) rfl rfl ?_
    refine XS.iloadN X9.here hexec rfl (hb hbytes d11) rfl ?_
    refine X9.aget hexec hA9 rfl (hA.get (i := o + w) (by omega)) rfl rfl (hb hbytes d12) ?_
    refine XS.istoreS X9.here hexec rfl (hb hbytes d13) rfl rfl hz9 ?_
    refine XS.iload X9.here hexec rfl (hb hbytes d15) rfl ?_
    refine sipushV X9.here hexec rfl 255 (hb hbytes d17) (by decide) ?_
    refine XS.icmpNo X9.here hexec rfl (hb hbytes d20) rfl (ii_le_f hwd) ?_
    refine XS.iload X9.here hexec rfl (hb hbytes d23) rfl ?_
    exact Steps.refl _)
  exact ⟨T9, some (.int (Int32.ofNat w)), _, _, _, X9, by simp, rfl, rfl, (fun h => by cases h), ⟨rfl, B9, p9.from hh0, f9⟩, fun fs hl => cc4.trans (X9.ireturnOut hexec hret rfl (Or.inl rfl) (hb hbytes d25) hl)⟩
end Cmp5w
/-- two new byte[]s: the second, of 2 * len bytes, is the answer; every old cell is kept -/
def NewW (len : Nat) (f : Nat → Value) (r : Option Value) (s u : State) : Prop := r = some (.ref (s.heap.size + 1)) ∧ ∃ B : Cell, XT.Arr .byte (s.heap.size + 1) B u ∧ B.vm = .none ∧ u.vm.findClass "[B" = some B.cls ∧ B.slots.size = 2 * len ∧ (∀ j, j < 2 * len → B.slots[j]? = some (f j)) ∧ XT.Kept s u ∧ u.heap.size = s.heap.size + 2
theorem NewW.mv {len : Nat} {f : Nat → Value} : ∀ r (U U' V V' : State), U'.heap = U.heap → V.vm.Alike V'.vm → V'.heap = V.heap → NewW len f r U V → NewW len f r U' V' :=
  fun r U U' V V' h1 hal h2 ⟨e0, B, e1, e2, e3, e4, e5, e6, e7⟩ => ⟨by rw [h1]; exact e0, B, by rw [h1]; exact e1.mv hal h2, e2, by rw [hal.findClass]; exact e3, e4, e5, e6.mv h1 h2, by rw [h1, h2]; exact e7⟩
namespace Cmp3w
def yN : MethodName := ⟨"java/lang/StringUTF16", "compress", "([CII)[B"⟩
abbrev yB : ByteArray := jdk_52_method_16_code
theorem d0 : decode yB 0 = .ok (.iload_n 2, 1) := by decide +kernel
theorem d1 : decode yB 1 = .ok (.newarray .byte, 2) := by decide +kernel
theorem d3 : decode yB 3 = .ok (.astore_n 3, 1) := by decide +kernel
theorem d4 : decode yB 4 = .ok (.aload_n 0, 1) := by decide +kernel
theorem d5 : decode yB 5 = .ok (.iload_n 1, 1) := by decide +kernel
theorem d6 : decode yB 6 = .ok (.aload_n 3, 1) := by decide +kernel
theorem d7 : decode yB 7 = .ok (.iconst 0, 1) := by decide +kernel
theorem d8 : decode yB 8 = .ok (.iload_n 2, 1) := by decide +kernel
theorem d9 : decode yB 9 = .ok (.invokestatic 115, 3) := by decide +kernel
theorem d12 : decode yB 12 = .ok (.istore 4, 2) := by decide +kernel
theorem d14 : decode yB 14 = .ok (.iload 4, 2) := by decide +kernel
theorem d16 : decode yB 16 = .ok (.iload_n 2, 1) := by decide +kernel
theorem d17 : decode yB 17 = .ok (.if_icmp .eq 40, 3) := by decide +kernel
theorem d20 : decode yB 20 = .ok (.aload_n 0, 1) := by decide +kernel
theorem d21 : decode yB 21 = .ok (.iload_n 1, 1) := by decide +kernel
theorem d22 : decode yB 22 = .ok (.iload_n 2, 1) := by decide +kernel
theorem d23 : decode yB 23 = .ok (.invokestatic 119, 3) := by decide +kernel
theorem d26 : decode yB 26 = .ok (.astore 5, 2) := by decide +kernel
theorem d28 : decode yB 28 = .ok (.aload 5, 2) := by decide +kernel
theorem d30 : decode yB 30 = .ok (.iload 4, 2) := by decide +kernel
theorem d32 : decode yB 32 = .ok (.invokestatic 71, 3) := by decide +kernel
theorem d35 : decode yB 35 = .ok (.sipush 255, 3) := by decide +kernel
theorem d38 : decode yB 38 = .ok (.if_icmp .gt 16, 3) := by decide +kernel
theorem d54 : decode yB 54 = .ok (.aload 5, 2) := by decide +kernel
theorem d56 : decode yB 56 = .ok (.areturn, 1) := by decide +kernel
def site : List Cond := [.arrayClass .byte, Cmp5w.tab, ToB.tab, GetC.tab] ++ staticW U16 115 Cmp5w.yN ++ staticW U16 119 ToB.yN ++ staticW U16 71 GetC.yN
def tab : Cond := tabOf yN yB 6 (some (.array .byte)) site
def P (b : Addr) (A : Cell) (o len w : Nat) (args : Array Value) (s : State) : Prop := args = #[.ref b, .int (Int32.ofNat o), .int (Int32.ofNat len)] ∧ Ch b A s ∧ o + len ≤ A.slots.size ∧ 2 * len ≤ 536870912 ∧ w < len ∧ (∀ i, i < w → ¬ 255 < cv A (o + i)) ∧ 255 < cv A (o + w) ∧ U3 s
def E (b : Addr) (A : Cell) (o len : Nat) (r : Option Value) (s u : State) : Prop := NewW len (wb A o) r s u
theorem law (l : Launch) (b : Addr) (A : Cell) (o len w : Nat) : Law l yN 3 3 3 44 yB 6 (some (.array .byte)) site (P b A o len w) (E b A o len) [] 2 (len + 2 * len) := by
  refine Law.of_walk (plainFor_of_name (by decide +kernel)) (by decide +kernel) (by decide +kernel) (by decide) (fun _ _ h => by rw [h.1]; rfl) (fun _ U U' hal hh h => ⟨h.1, h.2.1.mv hal hh, h.2.2.1, h.2.2.2.1, h.2.2.2.2.1, h.2.2.2.2.2.1, h.2.2.2.2.2.2.1, h.2.2.2.2.2.2.2.mv hal hh⟩) (fun r U U' V V' h1 hal h2 h => NewW.mv r U U' V V' h1 hal h2 h) ?_
  intro p e s m args below meth c s₁ X0 hexec hbytes hml hret hlk hnm hown hh0 W hP
  obtain ⟨rfl, hA, l1, l2, hw, hp, hwd, u3⟩ := hP
  have c0 : Steps p.tables e below (s₁.setTop (entryFrame m #[(.ref b), (.int (Int32.ofNat o)), (.int (Int32.ofNat len))] 6)) (s₁.setTop (mkF m 0 #[.val (.ref b), .val (.int (Int32.ofNat o)), .val (.int (Int32.ofNat len)), .unset, .unset, .unset] [])) := entry rfl
  have a31 := hA.1.2.2.2
  have cc1 : Steps p.tables e below (s₁.setTop (entryFrame m #[(.ref b), (.int (Int32.ofNat o)), (.int (Int32.ofNat len))] 6)) (s₁.setTop (mkF m 1 #[.val (.ref b), .val (.int (Int32.ofNat o)), .val (.int (Int32.ofNat len)), .unset, .unset, .unset] [(.int (Int32.ofNat len))])) := Steps.trans c0 (by
    refine XS.iloadN X0.here hexec rfl (hb hbytes d0) rfl ?_
    exact Steps.refl _)
  obtain ⟨T3, B3, X3, ba3, bs3, bv3, bh3, bf3, st3⟩ := X0.anew hexec (atype := .byte) (wk W (.arrayClass .byte)) rfl (by show len * 1 ≤ _; omega) (by omega) (g := (mkF m 1 #[.val (.ref b), .val (.int (Int32.ofNat o)), .val (.int (Int32.ofNat len)), .unset, .unset, .unset] [(.int (Int32.ofNat len))])) rfl (hb hbytes d1) (rest := []) rfl (Nat.le_of_ble_eq_true rfl) (by show 0 + len ≤ len + 2 * len; omega)
  rw [hh0] at ba3 st3
  have kp3 : XT.Kept s T3 := (XT.Kept.of_eq hh0).push bh3
  have hA3 := hA.keep X3.warmed.alike (kp3 _ _ hA.1.1)
  have hne : b ≠ s.heap.size := hA.1.ne
  have cc2 : Steps p.tables e below (s₁.setTop (entryFrame m #[(.ref b), (.int (Int32.ofNat o)), (.int (Int32.ofNat len))] 6)) (T3.setTop (mkF m 9 #[.val (.ref b), .val (.int (Int32.ofNat o)), .val (.int (Int32.ofNat len)), .val (.ref s.heap.size), .unset, .unset] [(.int (Int32.ofNat len)), (.int 0), (.ref s.heap.size), (.int (Int32.ofNat o)), (.ref b)])) := Steps.trans (cc1.trans (st3 _ (Steps.refl _))) (by
    refine XS.astoreN X3.here hexec rfl (hb hbytes d3) rfl rfl rfl ?_
    refine XS.aloadN X3.here hexec rfl (hb hbytes d4) rfl rfl ?_
    refine XS.iloadN X3.here hexec rfl (hb hbytes d5) rfl ?_
    refine XS.aloadN X3.here hexec rfl (hb hbytes d6) rfl rfl ?_
    refine iconstV X3.here hexec rfl 0 (hb hbytes d7) (by decide) ?_
    refine XS.iloadN X3.here hexec rfl (hb hbytes d8) rfl ?_
    exact Steps.refl _)
  obtain ⟨v6, T6, X6, E6, g6⟩ := X3.callS hexec (Cmp5w.law l b A s.heap.size B3 o 0 len w) hown (wks W (staticW U16 115 Cmp5w.yN)) (wk W Cmp5w.tab) (W := 0) (Nat.le_of_ble_eq_true rfl) (Nat.le_of_ble_eq_true rfl) (Nat.le_of_ble_eq_true rfl) (by show 0 + len + 0 ≤ len + 2 * len; omega) (g := (mkF m 9 #[.val (.ref b), .val (.int (Int32.ofNat o)), .val (.int (Int32.ofNat len)), .val (.ref s.heap.size), .unset, .unset] [(.int (Int32.ofNat len)), (.int 0), (.ref s.heap.size), (.int (Int32.ofNat o)), (.ref b)])) rfl (by rw [hml]; rfl) cc2 (argsL := [.ref b, .int (Int32.ofNat o), .ref s.heap.size, .int (Int32.ofNat 0), .int (Int32.ofNat len)]) (rest := []) rfl rfl (by show 2 * 0 + 0 ≤ _; decide) (hb hbytes d9) (⟨rfl, hA3, ba3, hne, l1, by rw [bs3]; simp, hw, hp, hwd⟩)
  obtain ⟨rfl, B6, p6, f6⟩ := E6
  have kp6 : XT.Kept s T6 := kp3.put p6 (Nat.le_refl _)
  have hA6 := hA.keep X6.warmed.alike (kp6 _ _ hA.1.1)
  have z6 : T6.heap.size = s.heap.size + 1 := by rw [p6.2.2, bh3, hh0]; simp
  have cc3 : Steps p.tables e below (s₁.setTop (entryFrame m #[(.ref b), (.int (Int32.ofNat o)), (.int (Int32.ofNat len))] 6)) (T6.setTop (mkF m 23 #[.val (.ref b), .val (.int (Int32.ofNat o)), .val (.int (Int32.ofNat len)), .val (.ref s.heap.size), .val (.int (Int32.ofNat w)), .unset] [(.int (Int32.ofNat len)), (.int (Int32.ofNat o)), (.ref b)])) := Steps.trans g6 (by
    refine XS.istore X6.here hexec rfl (hb hbytes d12) rfl rfl ?_
    refine XS.iload X6.here hexec rfl (hb hbytes d14) rfl ?_
    refine XS.iloadN X6.here hexec rfl (hb hbytes d16) rfl ?_
    refine XS.icmpNo X6.here hexec rfl (hb hbytes d17) rfl (ii_eq_f (ne32 (by omega) (by omega) (by omega))) ?_
    refine XS.aloadN X6.here hexec rfl (hb hbytes d20) rfl rfl ?_
    refine XS.iloadN X6.here hexec rfl (hb hbytes d21) rfl ?_
    refine XS.iloadN X6.here hexec rfl (hb hbytes d22) rfl ?_
    exact Steps.refl _)
  obtain ⟨v9, T9, X9, E9, g9⟩ := X6.callS hexec (ToB.law l b A o len) hown (wks W (staticW U16 119 ToB.yN)) (wk W ToB.tab) (W := 0) (Nat.le_of_ble_eq_true rfl) (Nat.le_of_ble_eq_true rfl) (Nat.le_of_ble_eq_true rfl) (by show 0 + len + 0 + 2 * len ≤ len + 2 * len; omega) (g := (mkF m 23 #[.val (.ref b), .val (.int (Int32.ofNat o)), .val (.int (Int32.ofNat len)), .val (.ref s.heap.size), .val (.int (Int32.ofNat w)), .unset] [(.int (Int32.ofNat len)), (.int (Int32.ofNat o)), (.ref b)])) rfl (by rw [hml]; rfl) cc3 (argsL := [.ref b, .int (Int32.ofNat o), .int (Int32.ofNat len)]) (rest := []) rfl rfl (by show 2 * 0 + 0 ≤ _; decide) (hb hbytes d23) (⟨rfl, hA6, l1, l2, u3.keep X6.warmed.alike (StK.kept kp6)⟩)
  obtain ⟨⟨rfl, B9, n1, n2, n3, n4, n5, n6⟩, z9⟩ := E9
  rw [z6] at n1 z9
  have kp9 : XT.Kept s T9 := kp6.trans n6
  have cc4 : Steps p.tables e below (s₁.setTop (entryFrame m #[(.ref b), (.int (Int32.ofNat o)), (.int (Int32.ofNat len))] 6)) (T9.setTop (mkF m 26 #[.val (.ref b), .val (.int (Int32.ofNat o)), .val (.int (Int32.ofNat len)), .val (.ref s.heap.size), .val (.int (Int32.ofNat w)), .unset] [(.ref T6.heap.size)])) := g9
  have cz : Steps p.tables e below (s₁.setTop (entryFrame m #[(.ref b), (.int (Int32.ofNat o)), (.int (Int32.ofNat len))] 6)) (T9.setTop (mkF m 26 #[.val (.ref b), .val (.int (Int32.ofNat o)), .val (.int (Int32.ofNat len)), .val (.ref s.heap.size), .val (.int (Int32.ofNat w)), .unset] [(.ref (s.heap.size + 1))])) := by
    have := cc4
    rw [z6] at this
    exact this
  have cc5 : Steps p.tables e below (s₁.setTop (entryFrame m #[(.ref b), (.int (Int32.ofNat o)), (.int (Int32.ofNat len))] 6)) (T9.setTop (mkF m 32 #[.val (.ref b), .val (.int (Int32.ofNat o)), .val (.int (Int32.ofNat len)), .val (.ref s.heap.size), .val (.int (Int32.ofNat w)), .val (.ref (s.heap.size + 1))] [(.int (Int32.ofNat w)), (.ref (s.heap.size + 1))])) := Steps.trans cz (by
    refine XS.astore X9.here hexec rfl (hb hbytes d26) rfl rfl rfl ?_
    refine XS.aload X9.here hexec rfl (hb hbytes d28) rfl rfl ?_
    refine XS.iload X9.here hexec rfl (hb hbytes d30) rfl ?_
    exact Steps.refl _)
  obtain ⟨v12, T12, X12, E12, g12⟩ := X9.callS hexec (GetC.law l (s.heap.size + 1) B9 w (lo8 (cv A (o + w))) (hi8 (cv A (o + w)))) hown (wks W (staticW U16 71 GetC.yN)) (wk W GetC.tab) (W := 0) (Nat.le_of_ble_eq_true rfl) (Nat.le_of_ble_eq_true rfl) (Nat.le_of_ble_eq_true rfl) (by show 0 + len + 0 + 2 * len + 0 ≤ len + 2 * len; omega) (g := (mkF m 32 #[.val (.ref b), .val (.int (Int32.ofNat o)), .val (.int (Int32.ofNat len)), .val (.ref s.heap.size), .val (.int (Int32.ofNat w)), .val (.ref (s.heap.size + 1))] [(.int (Int32.ofNat w)), (.ref (s.heap.size + 1))])) rfl (by rw [hml]; rfl) cc5 (argsL := [.ref (s.heap.size + 1), .int (Int32.ofNat w)]) (rest := []) rfl rfl (by show 2 * 0 + 0 ≤ _; decide) (hb hbytes d32) (⟨rfl, n1, by rw [n5 _ (by omega), wb_lo], by rw [n5 _ (by omega), wb_hi], u3.keep X9.warmed.alike (StK.kept kp9)⟩)
  obtain ⟨rfl, q12⟩ := E12
  have cc6 : Steps p.tables e below (s₁.setTop (entryFrame m #[(.ref b), (.int (Int32.ofNat o)), (.int (Int32.ofNat len))] 6)) (T12.setTop (mkF m 35 #[.val (.ref b), .val (.int (Int32.ofNat o)), .val (.int (Int32.ofNat len)), .val (.ref s.heap.size), .val (.int (Int32.ofNat w)), .val (.ref (s.heap.size + 1))] [(.int (pairCh (lo8 (cv A (o + w))) (hi8 (cv A (o + w)))))])) := g12
  have cy : Steps p.tables e below (s₁.setTop (entryFrame m #[(.ref b), (.int (Int32.ofNat o)), (.int (Int32.ofNat len))] 6)) (T12.setTop (mkF m 35 #[.val (.ref b), .val (.int (Int32.ofNat o)), .val (.int (Int32.ofNat len)), .val (.ref s.heap.size), .val (.int (Int32.ofNat w)), .val (.ref (s.heap.size + 1))] [(.int (cv A (o + w)))])) := by
    have := cc6
    rw [pair_says (hA.rng (by omega)).1 (hA.rng (by omega)).2] at this
    exact this
  have cc7 : Steps p.tables e below (s₁.setTop (entryFrame m #[(.ref b), (.int (Int32.ofNat o)), (.int (Int32.ofNat len))] 6)) (T12.setTop (mkF m 56 #[.val (.ref b), .val (.int (Int32.ofNat o)), .val (.int (Int32.ofNat len)), .val (.ref s.heap.size), .val (.int (Int32.ofNat w)), .val (.ref (s.heap.size + 1))] [(.ref (s.heap.size + 1))])) := Steps.trans cy (by
    refine sipushV X12.here hexec rfl 255 (hb hbytes d35) (by decide) ?_
    refine XS.icmpYes X12.here hexec rfl (pc0 := 38) rfl (hb hbytes d38) rfl (ii_gt_t hwd) (by decide) rfl ?_
    refine XS.aload X12.here hexec rfl (hb hbytes d54) rfl rfl ?_
    exact Steps.refl _)
  have X13 := X12.wide (L' := []) (cells' := 2) (slots' := len + 2 * len) (fun x hx hlt => by
    simp only [List.nil_append, List.append_nil, copyLocs, List.mem_map, List.mem_range] at hx
    obtain ⟨i, -, rfl⟩ := hx
    exact absurd hlt (Nat.lt_irrefl _)) (by omega) (by omega)
  have al := X9.warmed.alike.symm.trans X12.warmed.alike
  exact ⟨T12, some (.ref (s.heap.size + 1)), _, _, _, X13, rfl, rfl, rfl, (fun h => by cases h), ⟨rfl, B9, n1.mv al q12, n2, by rw [al.findClass]; exact n3, n4, n5, kp9.trans (XT.Kept.of_eq q12), by rw [q12]; exact z9⟩, fun fs hl => cc7.trans (X13.areturnOut hexec rfl hret rfl (hb hbytes d56) hl)⟩
end Cmp3w
theorem top_bit {n : Nat} (h0 : 0 < n) (h1 : n < 2 ^ 30) : lo8 (XT.ushr (Int32.ofNat n - Int32.ofNat (2 * n)) (31 : Int32)) = 1 := by
  have e : XT.ushr (Int32.ofNat n - Int32.ofNat (2 * n)) (31 : Int32) = 1 := by
    apply Int32.toBitVec_inj.mp
    apply BitVec.eq_of_toNat_eq
    show (((BitVec.ofNat 32 n - BitVec.ofNat 32 (2 * n)) >>> 31#32)).toNat = 1
    have e1 : (BitVec.ofNat 32 n).toNat = n := by rw [BitVec.toNat_ofNat]; exact Nat.mod_eq_of_lt (by omega)
    have e2 : (BitVec.ofNat 32 (2 * n)).toNat = 2 * n := by rw [BitVec.toNat_ofNat]; exact Nat.mod_eq_of_lt (by omega)
    rw [BitVec.ushiftRight_eq', BitVec.toNat_ushiftRight, BitVec.toNat_sub, e1, e2]
    show ((2 ^ 32 - 2 * n + n) % 2 ^ 32) >>> 31 = 1
    rw [Nat.mod_eq_of_lt (by omega), Nat.shiftRight_eq_div_pow]
    omega
  rw [e]; decide
namespace CodW
def yN : MethodName := ⟨"java/lang/StringUTF16", "coderFromArrayLen", "([BI)B"⟩
abbrev yB : ByteArray := jdk_52_method_15_code
theorem d0 : decode yB 0 = .ok (.iload_n 1, 1) := by decide +kernel
theorem d1 : decode yB 1 = .ok (.aload_n 0, 1) := by decide +kernel
theorem d2 : decode yB 2 = .ok (.arraylength, 1) := by decide +kernel
theorem d3 : decode yB 3 = .ok (.isub, 1) := by decide +kernel
theorem d4 : decode yB 4 = .ok (.bipush 31, 2) := by decide +kernel
theorem d6 : decode yB 6 = .ok (.iushr, 1) := by decide +kernel
theorem d7 : decode yB 7 = .ok (.i2b, 1) := by decide +kernel
theorem d8 : decode yB 8 = .ok (.ireturn, 1) := by decide +kernel
def site : List Cond := []
def tab : Cond := tabOf yN yB 2 (some .byte) site
def P (d : Addr) (B : Cell) (n : Nat) (args : Array Value) (s : State) : Prop := args = #[.ref d, .int (Int32.ofNat n)] ∧ XT.Arr .byte d B s ∧ 0 < n ∧ n < 2 ^ 30 ∧ B.slots.size = 2 * n
def E (r : Option Value) (s u : State) : Prop := XT.PureE (some (.int 1)) r s u
theorem law (l : Launch) (d : Addr) (B : Cell) (n : Nat) : Law l yN 2 2 0 0 yB 2 (some .byte) site (P d B n) E [] 0 0 := by
  refine Law.of_walk (plainFor_of_name (by decide +kernel)) (by decide +kernel) (by decide +kernel) (by decide) (fun _ _ h => by rw [h.1]; rfl) (fun _ U U' hal hh h => ⟨h.1, h.2.1.mv hal hh, h.2.2⟩) (fun r U U' V V' h1 hal h2 h => XT.PureE.mv r U U' V V' h1 hal h2 h) ?_
  intro p e s m args below meth c s₁ X0 hexec hbytes hml hret hlk hnm hown hh0 W hP
  obtain ⟨rfl, hB, h0, h1, h2⟩ := hP
  have c0 : Steps p.tables e below (s₁.setTop (entryFrame m #[(.ref d), (.int (Int32.ofNat n))] 2)) (s₁.setTop (mkF m 0 #[.val (.ref d), .val (.int (Int32.ofNat n))] [])) := entry rfl
  have hB0 := hB.mv X0.warmed.alike hh0
  have cc1 : Steps p.tables e below (s₁.setTop (entryFrame m #[(.ref d), (.int (Int32.ofNat n))] 2)) (s₁.setTop (mkF m 8 #[.val (.ref d), .val (.int (Int32.ofNat n))] [(.int ((XT.ushr ((Int32.ofNat n) - (Int32.ofNat B.slots.size)) (31 : Int32)).toInt8.toInt32))])) := Steps.trans c0 (by
    refine XS.iloadN X0.here hexec rfl (hb hbytes d0) rfl ?_
    refine XS.aloadN X0.here hexec rfl (hb hbytes d1) rfl rfl ?_
    refine X0.alen hexec hB0 rfl rfl (hb hbytes d2) ?_
    refine XS.isub X0.here hexec rfl (hb hbytes d3) rfl ?_
    refine bipushV X0.here hexec rfl 31 (hb hbytes d4) (by decide) ?_
    refine XT.iushr X0.here hexec rfl (hb hbytes d6) rfl ?_
    refine XT.i2b X0.here hexec rfl (hb hbytes d7) rfl ?_
    exact Steps.refl _)
  have cz : Steps p.tables e below (s₁.setTop (entryFrame m #[(.ref d), (.int (Int32.ofNat n))] 2)) (s₁.setTop (mkF m 8 #[.val (.ref d), .val (.int (Int32.ofNat n))] [(.int 1)])) := by
    have := cc1
    rw [h2] at this
    rw [← top_bit h0 h1]
    exact this
  exact ⟨s₁, some (.int 1), _, _, _, X0, rfl, rfl, rfl, (fun h => by cases h), ⟨rfl, hh0⟩, fun fs hl => cz.trans (X0.ireturnOut hexec hret rfl (Or.inr (Or.inr (Or.inl rfl))) (hb hbytes d8) hl)⟩
end CodW
/-- the String at a is UTF-16 over a new byte[]: the bytes of the len chars of A from o on; every cell but a is kept -/
def GotW (a : Addr) (D : Cell) (fV fC : Field) (A : Cell) (o len : Nat) (r : Option Value) (s u : State) : Prop := r = none ∧ ∃ D' V : Cell, Blank "java/lang/String" a D' u ∧ Same D D' [fV.slot, fC.slot] ∧ D'.slots[fV.slot]? = some (.ref (s.heap.size + 1)) ∧ D'.slots[fC.slot]? = some (.int 1) ∧ XT.Arr .byte (s.heap.size + 1) V u ∧ V.vm = .none ∧ u.vm.findClass "[B" = some V.cls ∧ V.slots.size = 2 * len ∧ (∀ j, j < 2 * len → V.slots[j]? = some (wb A o j)) ∧ (∀ (y : Addr) (c : Cell), y ≠ a → s.heap[y]? = some c → u.heap[y]? = some c) ∧ u.heap.size = s.heap.size + 2
theorem GotW.mv {a : Addr} {D A : Cell} {fV fC : Field} {o len : Nat} : ∀ r (U U' V V' : State), U'.heap = U.heap → V.vm.Alike V'.vm → V'.heap = V.heap → GotW a D fV fC A o len r U V → GotW a D fV fC A o len r U' V' :=
  fun r U U' V V' h1 hal h2 ⟨e0, D', X, a1, a2, a3, a4, a5, a6, a7, a8, a9, a10, a11⟩ => ⟨e0, D', X, a1.mv hal h2, a2, by rw [h1]; exact a3, a4, by rw [h1]; exact a5.mv hal h2, a6, by rw [hal.findClass]; exact a7, a8, a9, by rw [h1, h2]; exact a10, by rw [h1, h2]; exact a11⟩
namespace New4w
def yN : MethodName := ⟨"java/lang/String", "<init>", "([CIILjava/lang/Void;)V"⟩
abbrev yB : ByteArray := jdk_42_method_149_code
theorem d0 : decode yB 0 = .ok (.aload_n 0, 1) := by decide +kernel
theorem d1 : decode yB 1 = .ok (.invokespecial 1, 3) := by decide +kernel
theorem d4 : decode yB 4 = .ok (.iload_n 3, 1) := by decide +kernel
theorem d5 : decode yB 5 = .ok (.ifCond .ne 22, 3) := by decide +kernel
theorem d27 : decode yB 27 = .ok (.getstatic 38, 3) := by decide +kernel
theorem d30 : decode yB 30 = .ok (.ifCond .eq 28, 3) := by decide +kernel
theorem d33 : decode yB 33 = .ok (.aload_n 1, 1) := by decide +kernel
theorem d34 : decode yB 34 = .ok (.iload_n 2, 1) := by decide +kernel
theorem d35 : decode yB 35 = .ok (.iload_n 3, 1) := by decide +kernel
theorem d36 : decode yB 36 = .ok (.invokestatic 177, 3) := by decide +kernel
theorem d39 : decode yB 39 = .ok (.astore 5, 2) := by decide +kernel
theorem d41 : decode yB 41 = .ok (.aload_n 0, 1) := by decide +kernel
theorem d42 : decode yB 42 = .ok (.aload 5, 2) := by decide +kernel
theorem d44 : decode yB 44 = .ok (.iload_n 3, 1) := by decide +kernel
theorem d45 : decode yB 45 = .ok (.invokestatic 47, 3) := by decide +kernel
theorem d48 : decode yB 48 = .ok (.putfield 15, 3) := by decide +kernel
theorem d51 : decode yB 51 = .ok (.aload_n 0, 1) := by decide +kernel
theorem d52 : decode yB 52 = .ok (.aload 5, 2) := by decide +kernel
theorem d54 : decode yB 54 = .ok (.putfield 9, 3) := by decide +kernel
theorem d57 : decode yB 57 = .ok (.return_, 1) := by decide +kernel
def site : List Cond := [.fieldLink "java/lang/String" 38 "java/lang/String" "COMPACT_STRINGS" "Z", Cmp3w.tab, CodW.tab, .laysFinal "java/lang/String" "java/lang/String" "value" "[B", .fieldLink "java/lang/String" 9 "java/lang/String" "value" "[B", .laysFinal "java/lang/String" "java/lang/String" "coder" "B", .fieldLink "java/lang/String" 15 "java/lang/String" "coder" "B"] ++ objW "java/lang/String" 1 ++ staticW "java/lang/String" 177 Cmp3w.yN ++ staticW "java/lang/String" 47 CodW.yN
def tab : Cond := tabOf yN yB 6 none site
def P (a : Addr) (D : Cell) (fV fC : Field) (b : Addr) (A : Cell) (z : Int32) (o len w : Nat) (args : Array Value) (s : State) : Prop := args = #[.ref a, .ref b, .int (Int32.ofNat o), .int (Int32.ofNat len), .null] ∧ Blank "java/lang/String" a D s ∧ Found "java/lang/String" "value" "[B" fV s ∧ Found "java/lang/String" "coder" "B" fC s ∧ Ch b A s ∧ StaticIs s "java/lang/String" "COMPACT_STRINGS" "Z" (.int z) ∧ ¬ z = 0 ∧ o + len ≤ A.slots.size ∧ 2 * len ≤ 536870912 ∧ w < len ∧ (∀ i, i < w → ¬ 255 < cv A (o + i)) ∧ 255 < cv A (o + w) ∧ U3 s
def E (a : Addr) (D : Cell) (fV fC : Field) (A : Cell) (o len : Nat) (r : Option Value) (s u : State) : Prop := GotW a D fV fC A o len r s u
theorem law (l : Launch) (a : Addr) (D : Cell) (fV fC : Field) (b : Addr) (A : Cell) (z : Int32) (o len w : Nat) : Law l yN 5 4 4 61 yB 6 none site (P a D fV fC b A z o len w) (E a D fV fC A o len) [⟨a, fC.slot⟩, ⟨a, fV.slot⟩] 2 (len + 2 * len) := by
  refine Law.of_walk (plainFor_of_name (by decide +kernel)) (by decide +kernel) (by decide +kernel) (by decide) (fun _ _ h => by rw [h.1]; rfl) (fun _ U U' hal hh h => ⟨h.1, h.2.1.mv hal hh, h.2.2.1.al hal, h.2.2.2.1.al hal, h.2.2.2.2.1.mv hal hh, h.2.2.2.2.2.1.there hal hh, h.2.2.2.2.2.2.1, h.2.2.2.2.2.2.2.1, h.2.2.2.2.2.2.2.2.1, h.2.2.2.2.2.2.2.2.2.1, h.2.2.2.2.2.2.2.2.2.2.1, h.2.2.2.2.2.2.2.2.2.2.2.1, h.2.2.2.2.2.2.2.2.2.2.2.2.mv hal hh⟩) (fun r U U' V V' h1 hal h2 h => GotW.mv r U U' V V' h1 hal h2 h) ?_
  intro p e s m args below meth c s₁ X0 hexec hbytes hml hret hlk hnm hown hh0 W hP
  obtain ⟨rfl, hB, f1, f2, hA, s1, hz, l1, l2, hw, hp, hwd, u3⟩ := hP
  have c0 : Steps p.tables e below (s₁.setTop (entryFrame m #[(.ref a), (.ref b), (.int (Int32.ofNat o)), (.int (Int32.ofNat len)), .null] 6)) (s₁.setTop (mkF m 0 #[.val (.ref a), .val (.ref b), .val (.int (Int32.ofNat o)), .val (.int (Int32.ofNat len)), .val .null, .unset] [])) := entry rfl
  have a31 := hA.1.2.2.2
  have cc1 : Steps p.tables e below (s₁.setTop (entryFrame m #[(.ref a), (.ref b), (.int (Int32.ofNat o)), (.int (Int32.ofNat len)), .null] 6)) (s₁.setTop (mkF m 1 #[.val (.ref a), .val (.ref b), .val (.int (Int32.ofNat o)), .val (.int (Int32.ofNat len)), .val .null, .unset] [(.ref a)])) := Steps.trans c0 (by
    refine XS.aloadN X0.here hexec rfl (hb hbytes d0) rfl rfl ?_
    exact Steps.refl _)
  obtain ⟨T3, X3, q3, st3⟩ := X0.oinit hexec hown (wks W (objW "java/lang/String" 1)) (g := (mkF m 1 #[.val (.ref a), .val (.ref b), .val (.int (Int32.ofNat o)), .val (.int (Int32.ofNat len)), .val .null, .unset] [(.ref a)])) rfl (by rw [hml]; rfl) (rest := []) rfl (hb hbytes d1) (W := 0) (by show 2 * 0 + 0 ≤ _; decide) (Nat.le_of_ble_eq_true rfl) (Nat.le_of_ble_eq_true rfl)
  have hh3 := q3.trans hh0
  have cc2 : Steps p.tables e below (s₁.setTop (entryFrame m #[(.ref a), (.ref b), (.int (Int32.ofNat o)), (.int (Int32.ofNat len)), .null] 6)) (T3.setTop (mkF m 27 #[.val (.ref a), .val (.ref b), .val (.int (Int32.ofNat o)), .val (.int (Int32.ofNat len)), .val .null, .unset] [])) := Steps.trans (cc1.trans (st3 _ (Steps.refl _))) (by
    refine XS.iloadN X3.here hexec rfl (hb hbytes d4) rfl ?_
    refine XS.ifYes X3.here hexec rfl (pc0 := 5) rfl (hb hbytes d5) rfl (i0_ne_t (nz32 (by omega) (by omega))) (by decide) rfl ?_
    exact Steps.refl _)
  obtain ⟨T5, X5, q5, st5⟩ := X3.sget hexec hown (wk W (.fieldLink "java/lang/String" 38 "java/lang/String" "COMPACT_STRINGS" "Z")) s1 (fun _ _ h => by rw [hh3]; exact h) (g := (mkF m 27 #[.val (.ref a), .val (.ref b), .val (.int (Int32.ofNat o)), .val (.int (Int32.ofNat len)), .val .null, .unset] [])) rfl (hb hbytes d27)
  have hh5 := q5.trans hh3
  have cc3 : Steps p.tables e below (s₁.setTop (entryFrame m #[(.ref a), (.ref b), (.int (Int32.ofNat o)), (.int (Int32.ofNat len)), .null] 6)) (T5.setTop (mkF m 36 #[.val (.ref a), .val (.ref b), .val (.int (Int32.ofNat o)), .val (.int (Int32.ofNat len)), .val .null, .unset] [(.int (Int32.ofNat len)), (.int (Int32.ofNat o)), (.ref b)])) := Steps.trans (cc2.trans (st5 _ (Steps.refl _))) (by
    refine XS.ifNo X5.here hexec rfl (hb hbytes d30) rfl (i0_eq_f hz) ?_
    refine XS.aloadN X5.here hexec rfl (hb hbytes d33) rfl rfl ?_
    refine XS.iloadN X5.here hexec rfl (hb hbytes d34) rfl ?_
    refine XS.iloadN X5.here hexec rfl (hb hbytes d35) rfl ?_
    exact Steps.refl _)
  obtain ⟨v8, T8, X8, E8, g8⟩ := X5.callS hexec (Cmp3w.law l b A o len w) hown (wks W (staticW "java/lang/String" 177 Cmp3w.yN)) (wk W Cmp3w.tab) (W := 0) (Nat.le_of_ble_eq_true rfl) (Nat.le_of_ble_eq_true rfl) (Nat.le_refl _) (by show 0 + (len + 2 * len) ≤ len + 2 * len; omega) (g := (mkF m 36 #[.val (.ref a), .val (.ref b), .val (.int (Int32.ofNat o)), .val (.int (Int32.ofNat len)), .val .null, .unset] [(.int (Int32.ofNat len)), (.int (Int32.ofNat o)), (.ref b)])) rfl (by rw [hml]; rfl) cc3 (argsL := [.ref b, .int (Int32.ofNat o), .int (Int32.ofNat len)]) (rest := []) rfl rfl (by show 2 * 0 + 0 ≤ _; decide) (hb hbytes d36) (⟨rfl, hA.mv X5.warmed.alike hh5, l1, l2, hw, hp, hwd, u3.mv X5.warmed.alike hh5⟩)
  obtain ⟨rfl, N, n1, n2, n3, n4, n5, n6, z8⟩ := NewW.mv _ T5 s _ _ hh5.symm (Vm.Alike.refl _) rfl E8
  have hB1 := hB.keep X8.warmed.alike (n6 _ _ hB.1)
  have hlt : a < s.heap.size := (Array.getElem?_eq_some_iff.mp hB.1).1
  have hne : s.heap.size + 1 ≠ a := Nat.ne_of_gt (Nat.lt_succ_of_lt hlt)
  have cc4 : Steps p.tables e below (s₁.setTop (entryFrame m #[(.ref a), (.ref b), (.int (Int32.ofNat o)), (.int (Int32.ofNat len)), .null] 6)) (T8.setTop (mkF m 45 #[.val (.ref a), .val (.ref b), .val (.int (Int32.ofNat o)), .val (.int (Int32.ofNat len)), .val .null, .val (.ref (s.heap.size + 1))] [(.int (Int32.ofNat len)), (.ref (s.heap.size + 1)), (.ref a)])) := Steps.trans g8 (by
    refine XS.astore X8.here hexec rfl (hb hbytes d39) rfl rfl rfl ?_
    refine XS.aloadN X8.here hexec rfl (hb hbytes d41) rfl rfl ?_
    refine XS.aload X8.here hexec rfl (hb hbytes d42) rfl rfl ?_
    refine XS.iloadN X8.here hexec rfl (hb hbytes d44) rfl ?_
    exact Steps.refl _)
  obtain ⟨v11, T11, X11, E11, g11⟩ := X8.callS hexec (CodW.law l (s.heap.size + 1) N len) hown (wks W (staticW "java/lang/String" 47 CodW.yN)) (wk W CodW.tab) (W := 1) (Nat.le_of_ble_eq_true rfl) (Nat.le_of_ble_eq_true rfl) (Nat.le_refl _) (by show 0 + (len + 2 * len) + 0 ≤ len + 2 * len; omega) (g := (mkF m 45 #[.val (.ref a), .val (.ref b), .val (.int (Int32.ofNat o)), .val (.int (Int32.ofNat len)), .val .null, .val (.ref (s.heap.size + 1))] [(.int (Int32.ofNat len)), (.ref (s.heap.size + 1)), (.ref a)])) rfl (by rw [hml]; rfl) cc4 (argsL := [.ref (s.heap.size + 1), .int (Int32.ofNat len)]) (rest := [.ref a]) rfl rfl (by show 2 * 0 + (1 + 0) ≤ _; decide) (hb hbytes d45) (⟨rfl, n1, by omega, by omega, n4⟩)
  obtain ⟨rfl, q11⟩ := E11
  have hB11 := hB1.mv (X8.warmed.alike.symm.trans X11.warmed.alike) q11
  have cc5 : Steps p.tables e below (s₁.setTop (entryFrame m #[(.ref a), (.ref b), (.int (Int32.ofNat o)), (.int (Int32.ofNat len)), .null] 6)) (T11.setTop (mkF m 48 #[.val (.ref a), .val (.ref b), .val (.int (Int32.ofNat o)), .val (.int (Int32.ofNat len)), .val .null, .val (.ref (s.heap.size + 1))] [(.int 1), (.ref a)])) := g11
  obtain ⟨T13, X13, p13, bl13, sl13, st13⟩ := X11.finit hexec hown (wk W (.fieldLink "java/lang/String" 15 "java/lang/String" "coder" "B")) (Or.inr ⟨_, (wk W (.laysFinal "java/lang/String" "java/lang/String" "coder" "B"))⟩) (Or.inl ⟨rfl, hnm⟩) f2 (Or.inl rfl) hB11 (t := .byte) (by decide +kernel) rfl (g := (mkF m 48 #[.val (.ref a), .val (.ref b), .val (.int (Int32.ofNat o)), .val (.int (Int32.ofNat len)), .val .null, .val (.ref (s.heap.size + 1))] [(.int 1), (.ref a)])) rfl (rest := []) rfl (hb hbytes d48)
  have cc6 : Steps p.tables e below (s₁.setTop (entryFrame m #[(.ref a), (.ref b), (.int (Int32.ofNat o)), (.int (Int32.ofNat len)), .null] 6)) (T13.setTop (mkF m 54 #[.val (.ref a), .val (.ref b), .val (.int (Int32.ofNat o)), .val (.int (Int32.ofNat len)), .val .null, .val (.ref (s.heap.size + 1))] [(.ref (s.heap.size + 1)), (.ref a)])) := Steps.trans (cc5.trans (st13 _ (Steps.refl _))) (by
    refine XS.aloadN X13.here hexec rfl (hb hbytes d51) rfl rfl ?_
    refine XS.aload X13.here hexec rfl (hb hbytes d52) rfl rfl ?_
    exact Steps.refl _)
  obtain ⟨T15, X15, p15, bl15, sl15, st15⟩ := X13.finit hexec hown (wk W (.fieldLink "java/lang/String" 9 "java/lang/String" "value" "[B")) (Or.inr ⟨_, (wk W (.laysFinal "java/lang/String" "java/lang/String" "value" "[B"))⟩) (Or.inl ⟨rfl, hnm⟩) f1 (Or.inl rfl) bl13 (t := (.array .byte)) (by decide +kernel) rfl (g := (mkF m 54 #[.val (.ref a), .val (.ref b), .val (.int (Int32.ofNat o)), .val (.int (Int32.ofNat len)), .val .null, .val (.ref (s.heap.size + 1))] [(.ref (s.heap.size + 1)), (.ref a)])) rfl (rest := []) rfl (hb hbytes d54)
  have cc7 : Steps p.tables e below (s₁.setTop (entryFrame m #[(.ref a), (.ref b), (.int (Int32.ofNat o)), (.int (Int32.ofNat len)), .null] 6)) (T15.setTop (mkF m 57 #[.val (.ref a), .val (.ref b), .val (.int (Int32.ofNat o)), .val (.int (Int32.ofNat len)), .val .null, .val (.ref (s.heap.size + 1))] [])) := (cc6.trans (st15 _ (Steps.refl _)))
  have ap := apart (Or.inr ⟨_, (wk W (.laysFinal "java/lang/String" "java/lang/String" "value" "[B"))⟩) (Or.inr ⟨_, (wk W (.laysFinal "java/lang/String" "java/lang/String" "coder" "B"))⟩) f1 f2 (t₁ := .array .byte) (t₂ := .byte) (by decide +kernel) (by decide +kernel) (by decide)
  have al := X8.warmed.alike.symm.trans X15.warmed.alike
  have n7 : T11.heap[s.heap.size + 1]? = some N := by rw [q11]; exact n1.1
  exact ⟨T15, none, _, _, _, X15, by simp, rfl, by omega, (fun _ => rfl), ⟨rfl, _, N, bl15, ((Same.refl D _).set _ (by simp)).set _ (by simp), sl15, (Cell.slots_setSlot_ne _ ap).trans sl13, n1.keep al (p15.other hne (p13.other hne n7)), n2, by rw [al.findClass]; exact n3, n4, n5, fun y c h1 h2 => p15.other h1 (p13.other h1 (by rw [q11]; exact n6 y c h2)), by rw [p15.2.2, p13.2.2, q11]; exact z8⟩, fun fs hl => cc7.trans (X15.returnOut hexec hret (hb hbytes d57) hl)⟩
end New4w
namespace New1w
def yN : MethodName := ⟨"java/lang/String", "<init>", "([C)V"⟩
abbrev yB : ByteArray := jdk_42_method_3_code
theorem d0 : decode yB 0 = .ok (.aload_n 0, 1) := by decide +kernel
theorem d1 : decode yB 1 = .ok (.aload_n 1, 1) := by decide +kernel
theorem d2 : decode yB 2 = .ok (.iconst 0, 1) := by decide +kernel
theorem d3 : decode yB 3 = .ok (.aload_n 1, 1) := by decide +kernel
theorem d4 : decode yB 4 = .ok (.arraylength, 1) := by decide +kernel
theorem d5 : decode yB 5 = .ok (.aconst_null, 1) := by decide +kernel
theorem d6 : decode yB 6 = .ok (.invokespecial 27, 3) := by decide +kernel
theorem d9 : decode yB 9 = .ok (.return_, 1) := by decide +kernel
def site : List Cond := [New4w.tab] ++ initW "java/lang/String" 27 New4w.yN
def tab : Cond := tabOf yN yB 2 none site
def P (a : Addr) (D : Cell) (fV fC : Field) (b : Addr) (A : Cell) (z : Int32) (w : Nat) (args : Array Value) (s : State) : Prop := args = #[.ref a, .ref b] ∧ Blank "java/lang/String" a D s ∧ Found "java/lang/String" "value" "[B" fV s ∧ Found "java/lang/String" "coder" "B" fC s ∧ Ch b A s ∧ StaticIs s "java/lang/String" "COMPACT_STRINGS" "Z" (.int z) ∧ ¬ z = 0 ∧ 2 * A.slots.size ≤ 536870912 ∧ w < A.slots.size ∧ (∀ i, i < w → ¬ 255 < cv A i) ∧ 255 < cv A w ∧ U3 s
def E (a : Addr) (D : Cell) (fV fC : Field) (A : Cell) (r : Option Value) (s u : State) : Prop := GotW a D fV fC A 0 A.slots.size r s u
theorem law (l : Launch) (a : Addr) (D : Cell) (fV fC : Field) (b : Addr) (A : Cell) (z : Int32) (w : Nat) : Law l yN 2 1 5 78 yB 2 none site (P a D fV fC b A z w) (E a D fV fC A) [⟨a, fC.slot⟩, ⟨a, fV.slot⟩] 2 (A.slots.size + 2 * A.slots.size) := by
  refine Law.of_walk (plainFor_of_name (by decide +kernel)) (by decide +kernel) (by decide +kernel) (by decide) (fun _ _ h => by rw [h.1]; rfl) (fun _ U U' hal hh h => ⟨h.1, h.2.1.mv hal hh, h.2.2.1.al hal, h.2.2.2.1.al hal, h.2.2.2.2.1.mv hal hh, h.2.2.2.2.2.1.there hal hh, h.2.2.2.2.2.2.1, h.2.2.2.2.2.2.2.1, h.2.2.2.2.2.2.2.2.1, h.2.2.2.2.2.2.2.2.2.1, h.2.2.2.2.2.2.2.2.2.2.1, h.2.2.2.2.2.2.2.2.2.2.2.mv hal hh⟩) (fun r U U' V V' h1 hal h2 h => GotW.mv r U U' V V' h1 hal h2 h) ?_
  intro p e s m args below meth c s₁ X0 hexec hbytes hml hret hlk hnm hown hh0 W hP
  obtain ⟨rfl, hB, f1, f2, hA, s1, hz, l2, hw, hp, hwd, u3⟩ := hP
  have c0 : Steps p.tables e below (s₁.setTop (entryFrame m #[(.ref a), (.ref b)] 2)) (s₁.setTop (mkF m 0 #[.val (.ref a), .val (.ref b)] [])) := entry rfl
  have cc1 : Steps p.tables e below (s₁.setTop (entryFrame m #[(.ref a), (.ref b)] 2)) (s₁.setTop (mkF m 6 #[.val (.ref a), .val (.ref b)] [.null, (.int (Int32.ofNat A.slots.size)), (.int 0), (.ref b), (.ref a)])) := Steps.trans c0 (by
    refine XS.aloadN X0.here hexec rfl (hb hbytes d0) rfl rfl ?_
    refine XS.aloadN X0.here hexec rfl (hb hbytes d1) rfl rfl ?_
    refine iconstV X0.here hexec rfl 0 (hb hbytes d2) (by decide) ?_
    refine XS.aloadN X0.here hexec rfl (hb hbytes d3) rfl rfl ?_
    refine X0.alen hexec (hA.1.mv X0.warmed.alike hh0) rfl rfl (hb hbytes d4) ?_
    refine XS.aconstNull X0.here hexec rfl (hb hbytes d5) ?_
    exact Steps.refl _)
  obtain ⟨v3, T3, X3, E3, g3⟩ := X0.callN hexec (New4w.law l a D fV fC b A z 0 A.slots.size w) rfl hown (wks W (initW "java/lang/String" 27 New4w.yN)) (wk W New4w.tab) (W := 0) (Nat.le_of_ble_eq_true rfl) (Nat.le_of_ble_eq_true rfl) (Nat.le_refl _) (by show 0 + (A.slots.size + 2 * A.slots.size) ≤ A.slots.size + 2 * A.slots.size; omega) (g := (mkF m 6 #[.val (.ref a), .val (.ref b)] [.null, (.int (Int32.ofNat A.slots.size)), (.int 0), (.ref b), (.ref a)])) rfl (by rw [hml]; rfl) cc1 (argsL := [.ref b, .int (Int32.ofNat 0), .int (Int32.ofNat A.slots.size), .null]) (rest := []) rfl rfl (by show 2 * 0 + 0 ≤ _; decide) (hb hbytes d6) (⟨rfl, hB.mv X0.warmed.alike hh0, f1.al X0.warmed.alike, f2.al X0.warmed.alike, hA.mv X0.warmed.alike hh0, s1.there X0.warmed.alike hh0, hz, by omega, l2, hw, fun i hi => by rw [Nat.zero_add]; exact hp i hi, by rw [Nat.zero_add]; exact hwd, u3.mv X0.warmed.alike hh0⟩)
  have e0 := GotW.mv _ s₁ s _ _ hh0.symm (Vm.Alike.refl _) rfl E3
  obtain rfl := e0.1
  have cc2 : Steps p.tables e below (s₁.setTop (entryFrame m #[(.ref a), (.ref b)] 2)) (T3.setTop (mkF m 9 #[.val (.ref a), .val (.ref b)] [])) := g3
  exact ⟨T3, none, _, _, _, X3, by simp, by omega, by omega, (fun _ => rfl), e0, fun fs hl => cc2.trans (X3.returnOut hexec hret (hb hbytes d9) hl)⟩
end New1w
end StrChars
end Jvm.Pilot.@@N@@
namespace Jvm.Pilot.@@N@@
namespace StrChars.Road
open Jvm Sem ClassFile Op Lib Jvm.Stand Jvm.Free Jvm.Free.XT
open Jvm.Lib.Cold (StaticIs)
/-- every table word that New1w's law asks, flat -/
abbrev wordsW : List Jvm.Cond := [.code New1w.yN New1w.yB 2 none, .initialized ST, .methodLink ST 27 New4w.yN, .instanceMethod New4w.yN,
  .code New4w.yN New4w.yB 6 none, .fieldLink ST 38 ST "COMPACT_STRINGS" "Z", .laysFinal ST ST "value" "[B", .fieldLink ST 9 ST "value" "[B", .laysFinal ST ST "coder" "B", .fieldLink ST 15 ST "coder" "B",
  .methodLink ST 1 Lib.objectInit, .instanceMethod Lib.objectInit, .code Lib.objectInit ⟨#[0xb1]⟩ 1 none, .methodLink ST 177 Cmp3w.yN, .static Cmp3w.yN, .methodLink ST 47 CodW.yN, .static CodW.yN,
  .code Cmp3w.yN Cmp3w.yB 6 (some (.array .byte)), .initialized U16, .arrayClass .byte, .methodLink U16 115 Cmp5w.yN, .static Cmp5w.yN, .code Cmp5w.yN Cmp5w.yB 7 (some .int), .code CodW.yN CodW.yB 2 (some .byte),
  .methodLink U16 119 ToB.yN, .static ToB.yN, .code ToB.yN ToB.yB 5 (some (.array .byte)), .methodLink U16 107 NBF.yN, .static NBF.yN, .code NBF.yN NBF.yB 1 (some (.array .byte)), .methodLink U16 11 NBL.yN, .static NBL.yN, .code NBL.yN NBL.yB 1 (some .int), .constant U16 20 1073741823,
  .methodLink U16 111 PutC.yN, .static PutC.yN, .code PutC.yN PutC.yB 3 none, .methodLink U16 71 GetC.yN, .static GetC.yN, .code GetC.yN GetC.yB 2 (some .char),
  .fieldLink U16 44 U16 "$assertionsDisabled" "Z", .fieldLink U16 59 U16 "HI_BYTE_SHIFT" "I", .fieldLink U16 63 U16 "LO_BYTE_SHIFT" "I"]
theorem consW {a : Array Value} {s : State} {c : Jvm.Cond} {L : List Jvm.Cond} (h0 : c.before a s = true) (h : ∀ w ∈ L, w.before a s = true) : ∀ w ∈ c :: L, w.before a s = true := fun w hw => (List.mem_cons.mp hw).elim (fun e => e ▸ h0) (h w)
theorem tabW_of {a : Array Value} {s : State} (h : ∀ w ∈ wordsW, w.before a s = true) : New1w.tab.before a s = true := by
  have h5 : Cmp5w.tab.before a s = true := unparts (wk h (.code Cmp5w.yN Cmp5w.yB 7 (some .int))) (wks h (.initialized Cmp5w.yN.cls :: Cmp5w.site))
  have hc : CodW.tab.before a s = true := unparts (wk h (.code CodW.yN CodW.yB 2 (some .byte))) (wks h (.initialized CodW.yN.cls :: CodW.site))
  have hl : NBL.tab.before a s = true := unparts (wk h (.code NBL.yN NBL.yB 1 (some .int))) (wks h (.initialized NBL.yN.cls :: NBL.site))
  have hp : PutC.tab.before a s = true := unparts (wk h (.code PutC.yN PutC.yB 3 none)) (wks h (.initialized PutC.yN.cls :: PutC.site))
  have hg : GetC.tab.before a s = true := unparts (wk h (.code GetC.yN GetC.yB 2 (some .char))) (wks h (.initialized GetC.yN.cls :: GetC.site))
  have q1 := consW hl h
  have hf : NBF.tab.before a s = true := unparts (wk q1 (.code NBF.yN NBF.yB 1 (some (.array .byte)))) (wks q1 (.initialized NBF.yN.cls :: NBF.site))
  have q2 := consW hf (consW hp h)
  have ht : ToB.tab.before a s = true := unparts (wk q2 (.code ToB.yN ToB.yB 5 (some (.array .byte)))) (wks q2 (.initialized ToB.yN.cls :: ToB.site))
  have q3 := consW h5 (consW ht (consW hg h))
  have h3 : Cmp3w.tab.before a s = true := unparts (wk q3 (.code Cmp3w.yN Cmp3w.yB 6 (some (.array .byte)))) (wks q3 (.initialized Cmp3w.yN.cls :: Cmp3w.site))
  have q4 := consW h3 (consW hc h)
  have h4 : New4w.tab.before a s = true := unparts (wk q4 (.code New4w.yN New4w.yB 6 none)) (wks q4 (.initialized New4w.yN.cls :: New4w.site))
  have q5 := consW h4 h
  exact unparts (wk q5 (.code New1w.yN New1w.yB 2 none)) (wks q5 (.initialized New1w.yN.cls :: New1w.site))
theorem movedW {Z s : State} {a0 args : Array Value} (hZ : Z.Warmed39 s.vm) (hw : ∀ d ∈ wordsW, d.before a0 Z = true) : ∀ d ∈ wordsW, d.before args s = true := fun d hd => by
  have q := hw d hd
  have t : ∀ d ∈ wordsW, d = .arrayClass .byte ∨ (d.onTables && d.keepsFace) = true := by decide +kernel
  rcases t d hd with rfl | t
  · exact RoadKit.mvA hZ q
  · exact RoadKit.mv hZ q t
theorem sta_S {Z U : State} (al : Z.vm.Alike U.vm) {C n d : String} {v : Value} (S : RoadKit.Sta Z U.heap C n d v) : StS U C n d v := by
  obtain ⟨cfS, iS, kS, fS, st, cS, t1, t2, t3, t4, t5, t6, t7⟩ := S
  exact StS.mv (s := { Z with heap := U.heap }) ⟨cfS, iS, kS, fS, st, cS, t1, t2, t3, t4, t5, t6, t7⟩ al rfl
/-- the three statics, over the tables of the start -/
def U3Z (Z : State) (h : Heap) : Prop := RoadKit.Sta Z h U16 "$assertionsDisabled" "Z" (.int 1) ∧ RoadKit.Sta Z h U16 "HI_BYTE_SHIFT" "I" (.int 0) ∧ RoadKit.Sta Z h U16 "LO_BYTE_SHIFT" "I" (.int 8)
theorem U3Z.ext {Z : State} {h h' : Heap} (F : U3Z Z h) (E : RoadKit.Ext h h') : U3Z Z h' := ⟨F.1.ext E, F.2.1.ext E, F.2.2.ext E⟩
theorem U3Z.u3 {Z U : State} (al : Z.vm.Alike U.vm) (F : U3Z Z U.heap) : U3 U := ⟨sta_S al F.1, sta_S al F.2.1, sta_S al F.2.2⟩
/-- WHAT COMES BACK: x is a String of the chars cs, in either coding -/
def QT (Z : State) (x : Addr) (cs : List Int32) (h : Heap) (n0 : Nat) (v : Option Value) (h' : Heap) (L : List Loc) : Prop := v = none ∧ RoadKit.Fr n0 L ∧ RoadKit.Keep h h' [x] ∧ RoadKit.Exa Z h' x ST ∧
  ∃ (cd N2 : Int32) (vs : List Value) (t : Addr) (kb : ClassId), CodA cs cd N2 vs ∧ RoadKit.Fld Z h' x ST "coder" "B" (.int cd) ∧ n0 ≤ t ∧ h.size ≤ t ∧ ¬ t = x ∧ RoadKit.Fld Z h' x ST "value" "[B" (.ref t) ∧ RoadKit.Arv Z h' t kb .byte N2 vs (.int 0)
theorem first_wide : ∀ (cs : List Int32), (∃ c ∈ cs, 255 < c) → ∃ w, w < cs.length ∧ 255 < cs.getD w 0 ∧ ∀ i, i < w → ¬ 255 < cs.getD i 0
  | [], ⟨_, h, _⟩ => by cases h
  | c :: cs, h => by
    by_cases hc : 255 < c
    · exact ⟨0, by simp, by simpa using hc, fun i hi => absurd hi (Nat.not_lt_zero i)⟩
    · have h' : ∃ d ∈ cs, 255 < d := by
        obtain ⟨d, hd, hw⟩ := h
        rcases List.mem_cons.mp hd with rfl | hd
        · exact absurd hw hc
        · exact ⟨d, hd, hw⟩
      obtain ⟨w, h1, h2, h3⟩ := first_wide cs h'
      refine ⟨w + 1, by simpa using h1, by simpa using h2, fun i hi => ?_⟩
      cases i with
      | zero => simpa using hc
      | succ i => simpa using h3 i (by omega)
theorem wb_wide (A : Cell) (cs : List Int32) (hcv : ∀ i, i < cs.length → cv A i = cs.getD i 0) (d : Value) : ∀ j, j < 2 * cs.length → wb A 0 j = (wideBytes cs).getD j d := fun j hj => by
  obtain ⟨i, hi | hi⟩ : ∃ i, j = 2 * i ∨ j = 2 * i + 1 := ⟨j / 2, by omega⟩
  · subst hi
    rw [wb_lo, Nat.zero_add, hcv i (by omega), wide_lo d cs i (by omega)]
  · subst hi
    rw [wb_hi, Nat.zero_add, hcv i (by omega), wide_hi d cs i (by omega)]
theorem fits_wide (cs : List Int32) : ∀ j, fits .byte ((wideBytes cs).getD j (.int 0)) = true := fun j => by
  by_cases hj : j < 2 * cs.length
  · obtain ⟨i, hi | hi⟩ : ∃ i, j = 2 * i ∨ j = 2 * i + 1 := ⟨j / 2, by omega⟩
    · subst hi; rw [wide_lo _ cs i (by omega)]; exact fits_lo8 _
    · subst hi; rw [wide_hi _ cs i (by omega)]; exact fits_lo8 _
  · have hl : ∀ l : List Int32, (wideBytes l).length = 2 * l.length := fun l => by
      induction l with
      | nil => rfl
      | cons c l ih => simp only [wideBytes, List.length_cons, ih]; omega
    rw [List.getD_eq_getElem?_getD, List.getElem?_eq_none (by rw [hl]; omega)]; rfl
/-- **new String(chars) AT A CALL, SOME CHAR ABOVE 255** -/
theorem backW {p : Program} {l : Launch} {e : Env} {R : Room} {s : State} {args : Array Value} {below : List Frame} {len W : Nat} {Z : State} {a0 : Array Value} {h : Heap} (hZ : Z.Warmed39 s.vm) (hw : ∀ d ∈ wordsW, d.before a0 Z = true) {kI : Nat} (wi : (Jvm.Cond.instantiable ST kI).before a0 Z = true)
    {x b : Addr} {kC : ClassId} {cs : List Int32} {d v0 c0 : Value} {z N : Int32} {n n0 : Nat} (hx0 : n0 ≤ x) (hh0 : n0 ≤ h.size) (E : RoadKit.Exa Z h x ST) (V : RoadKit.Fld Z h x ST "value" "[B" v0) (C : RoadKit.Fld Z h x ST "coder" "B" c0) (K : RoadKit.Arv Z h b kC .char N (cs.map Value.int) d) (S : RoadKit.Sta Z h ST "COMPACT_STRINGS" "Z" (.int z)) (hz : ¬ z = 0) (S3 : U3Z Z h)
    (hn : cs.length = n) (hN : N = Int32.ofNat n) (l2 : n ≤ 4000) (hp : ∃ c ∈ cs, 255 < c) (hfr : 6 ≤ R.frames) (hlo : W + 91 ≤ R.locals) :
    Back l R p e below s args (⟨"java/lang/String", "<init>", "([C)V"⟩ : MethodName) len W (fun P a => a = #[.ref x, .ref b] ∧ P.U.heap = h ∧ P.cells + 2 ≤ R.cells ∧ P.slots + 3 * n ≤ R.slots)
      (fun P _ v B => ∃ L, QT Z x cs h n0 v B.U.heap L ∧ B.locs = P.locs ++ L ∧ B.cells = P.cells + 2 ∧ B.slots = P.slots + 3 * n) := by
  subst hn hN
  intro m meth c P g ig mk a X hg hsize hdg hW hn hp'
  obtain ⟨rfl, rfl, r1, r2⟩ := hp'
  have al : Z.vm.Alike P.U.vm := hZ.alike.trans X.warmed.alike
  obtain ⟨D, cfV, kV, iV, fV, hD, gV, stV, knV, obV, asV, slV⟩ := id V
  obtain ⟨D', cfC, kC', iC, fC, hD', gC, stC, -, -, asC, slC⟩ := id C
  cases hD.symm.trans hD'
  obtain ⟨D2, kD, e1, e2, e3, e4, e5⟩ := id E
  cases hD.symm.trans e1
  obtain ⟨c2, k2, i1, i2, i3, -⟩ := Cond.instantiable_spec wi
  cases e2.symm.trans i1
  cases e3.symm.trans i2
  obtain ⟨kU, u1, u2⟩ := al.2.2 _ _ e3
  have hB : Blank ST x D P.U := ⟨hD, ⟨knV, fun q hq => by rw [hq] at obV; cases obV⟩, by rw [al.findClass]; exact e2, kU, u1, by rw [u2]; exact i3, by rw [u2]; exact e5 i3⟩
  have F1 : Found ST "value" "[B" fV P.U := ⟨SBG.found_only al ⟨cfV, kV, iV, gV⟩, stV⟩
  have F2 : Found ST "coder" "B" fC P.U := ⟨SBG.found_only al ⟨cfC, kC', iC, gC⟩, stC⟩
  obtain ⟨A, K1, K2, K3, K4, K5, K6⟩ := K
  rw [n32 (by omega)] at K3
  have hat : ∀ (i : Nat) (hi : i < cs.length), A.slots[i]? = some (.int cs[i]) := fun i hi => by rw [K5 i (by omega)]; simp [List.getD_eq_getElem?_getD, hi]
  have hcv : ∀ (i : Nat), i < cs.length → cv A i = cs.getD i 0 := fun i hi => by unfold cv; rw [hat i hi]; simp [List.getD_eq_getElem?_getD, hi]
  have hty : Typed .char A := fun i v hv => by
    have hi : i < A.slots.size := (Array.getElem?_eq_some_iff.mp hv).1
    have q := K5 i hi
    rw [hv] at q
    rw [Option.some.inj q]
    exact K6 i hi
  have hA : Ch b A P.U := ⟨⟨K1.1, State.isArrayOf_alike al K1.2.1, K1.2.2, by omega⟩, hty⟩
  have hS : StaticIs P.U ST "COMPACT_STRINGS" "Z" (.int z) := by
    obtain ⟨cfS, iS, kS, fS, st, cS, t1, t2, t3, t4, t5, t6, t7⟩ := S
    exact StaticIs.there (s := { Z with heap := P.U.heap }) ⟨cfS, iS, kS, fS, st, cS, t1, t2, t3, t4, t5, (fun q => by rw [q] at t6; cases t6), t7⟩ al rfl
  obtain ⟨w, w1, w2, w3⟩ := first_wide cs hp
  obtain ⟨v, B, X', ⟨⟨hv, E', V', q1, q2, q3, q4, q5, q6, q7, q8, q9, q10, q11⟩, hl, hc, hs⟩, st⟩ := (New1w.law l x D fV fC b A z w).pays (tabW_of (movedW hZ hw)) hfr (by omega) m meth c P g ig mk _ X hg hsize hdg hW hn ⟨r1, by rw [K3]; omega, rfl, hB, F1, F2, hA, hS, hz, by omega, by omega, fun i hi => by rw [hcv i (by omega)]; exact w3 i hi, by rw [hcv w (by omega)]; exact w2, S3.u3 al⟩
  have al' : Z.vm.Alike B.U.vm := hZ.alike.trans X'.warmed.alike
  have hsz : E'.slots.size = D.slots.size := by
    obtain ⟨-, -, -, kB, w1, w2, w3⟩ := q1
    obtain ⟨kB', y1, y2⟩ := al'.2.2 _ _ e3
    rw [q2.2.1] at w1
    cases w1.symm.trans y1
    rw [w3, e5 i3, y2]
  refine ⟨v, B, X', ⟨_, ⟨hv, ?_, ⟨by omega, fun y cy hy hn' => q10 y cy (by simpa using hn') hy, fun y cy hy => ?_⟩, ⟨E', _, q1.1, by rw [q2.2.1]; exact e2, by rw [q2.2.1]; exact e3, by rw [q2.1]; exact obV, fun _ => by rw [hsz]; exact e5 i3⟩,
    1, Int32.ofNat (2 * cs.length), wideBytes cs, P.U.heap.size + 1, V'.cls, Or.inr ⟨rfl, rfl, rfl, hp⟩, ⟨E', cfC, kC', iC, fC, q1.1, gC, stC, by rw [q2.1]; exact knV, by rw [q2.1]; exact obV, by rw [q2.2.1]; exact asC, q4⟩, by omega, by omega, ?_,
    ⟨E', cfV, kV, iV, fV, q1.1, gV, stV, by rw [q2.1]; exact knV, by rw [q2.1]; exact obV, by rw [q2.2.1]; exact asV, q3⟩, ⟨V', ⟨q5.1, State.isArrayOf_alike al'.symm q5.2.1, q5.2.2.1⟩, rfl, by rw [q8, K3, n32 (by omega)], Int32.ofNat_not_neg (by omega), fun j hj => ?_, fun j hj => fits_wide cs j⟩⟩, hl, hc, by rw [hs, K3]; omega⟩, st⟩
  · intro y hy
    simp only [List.mem_cons, List.not_mem_nil, or_false] at hy
    rcases hy with rfl | rfl <;> exact hx0
  · by_cases q : y = x
    · subst q
      cases hD.symm.trans hy
      exact ⟨E', q1.1, q2.2.1, q2.1, hsz⟩
    · exact ⟨cy, q10 y cy q hy, rfl, rfl, rfl⟩
  · exact fun e => absurd (Array.getElem?_eq_some_iff.mp hD).1 (by rw [← e]; exact Nat.not_lt.mpr (Nat.le_succ _))
  · rw [q9 j (by omega), wb_wide A cs hcv (.int 0) j (by omega)]
/-- **new String(chars) AT A CALL, ANY CHARS**, not empty -/
theorem backT {p : Program} {l : Launch} {e : Env} {R : Room} {s : State} {args : Array Value} {below : List Frame} {len W : Nat} {Z : State} {a0 : Array Value} {h : Heap} (hZ : Z.Warmed39 s.vm) (hw : ∀ d ∈ words, d.before a0 Z = true) (hww : ∀ d ∈ wordsW, d.before a0 Z = true) {kI : Nat} (wi : (Jvm.Cond.instantiable ST kI).before a0 Z = true)
    {x b : Addr} {kC : ClassId} {cs : List Int32} {d v0 c0 : Value} {z N : Int32} {n n0 : Nat} (hx0 : n0 ≤ x) (hh0 : n0 ≤ h.size) (E : RoadKit.Exa Z h x ST) (V : RoadKit.Fld Z h x ST "value" "[B" v0) (C : RoadKit.Fld Z h x ST "coder" "B" c0) (K : RoadKit.Arv Z h b kC .char N (cs.map Value.int) d) (S : RoadKit.Sta Z h ST "COMPACT_STRINGS" "Z" (.int z)) (hz : ¬ z = 0) (S3 : U3Z Z h)
    (hn : cs.length = n) (hN : N = Int32.ofNat n) (l0 : 0 < n) (l2 : n ≤ 4000) (hp : ∀ c ∈ cs, ¬ c < 0) (hfr : 6 ≤ R.frames) (hlo : W + 91 ≤ R.locals) :
    Back l R p e below s args (⟨"java/lang/String", "<init>", "([C)V"⟩ : MethodName) len W (fun P a => a = #[.ref x, .ref b] ∧ P.U.heap = h ∧ P.cells + 2 ≤ R.cells ∧ P.slots + 3 * n ≤ R.slots)
      (fun P _ v B => ∃ L, QT Z x cs h n0 v B.U.heap L ∧ B.locs = P.locs ++ L ∧ B.cells = P.cells + 2 ∧ B.slots = P.slots + 3 * n) := by
  by_cases hwide : ∃ c ∈ cs, 255 < c
  · exact backW hZ hww wi hx0 hh0 E V C K S hz S3 hn hN l2 hwide hfr hlo
  · have hlat : ∀ c ∈ cs, ¬ (255 : Int32) < c := fun c hc q => hwide ⟨c, hc, q⟩
    have B0 := backV (p := p) (l := l) (e := e) (R := R) (s := s) (args := args) (below := below) (len := len) (W := W) hZ hw wi (bs := cs.map (fun c => c.toInt8.toInt32)) hx0 hh0 E V C K S hz hn hN l0 l2 (fun c hc => ⟨hp c hc, hlat c hc⟩) rfl (by omega) (by omega)
    intro m meth c P g ig mk a X hg hsize hdg hW hn' hp'
    obtain ⟨v, B, X', ⟨L, ⟨q1, q2, q3, q4, q5, t, kb, q6, q7, q8, q9, q10⟩, hl, hc, hs⟩, st⟩ := B0 m meth c P g ig mk a X hg hsize hdg hW hn' ⟨hp'.1, hp'.2.1, by omega, by omega⟩
    subst hn hN
    refine ⟨v, ⟨B.U, B.locs, P.cells + 2, P.slots + 3 * cs.length⟩, X'.wide (fun _ hx _ => hx) (by show B.cells ≤ P.cells + 2; omega) (by show B.slots ≤ P.slots + 3 * cs.length; omega), ⟨L, ⟨q1, q2, q3, q4, 0, _, _, t, kb, ?_, q5, q6, q7, q8, q9, q10⟩, hl, rfl, rfl⟩, st⟩
    exact Or.inl ⟨rfl, rfl, by rw [List.map_map]; rfl, hlat⟩
end StrChars.Road
end Jvm.Pilot.@@N@@
namespace Jvm.Pilot.@@N@@
open Jvm Jvm.ClassFile Sem Op Lib Jvm.Free Jvm.Free.XT Jvm.Stand Jvm.LawKit Jvm.RoadKit Bundle Jvm.Pilot.@@N@@.Jvm.D
theorem own_d {c : Code} {code : ByteArray} (h : c.code = code) {pc : Nat} {r : Except DecodeError (Instr × Nat)} (h2 : decode code pc = r) : decode c.code pc = r := h ▸ h2
theorem own_pd0 : parseMethodDescriptor "([C)V" = some ⟨[(.array .char)], none⟩ := by decide +kernel
theorem own_pn0 : plainName "com/example/latchwork/latchwork/lock/LockArgumentsRequireNamePinLaw" = true := by first | (simp [plainName, overriddenIn]; done) | decide +kernel
theorem own_pd1 : parseMethodDescriptor "()Z" = some ⟨[], some .boolean⟩ := by decide +kernel
theorem own_pn1 : plainName "com/example/latchwork/latchwork/lock/LockArguments" = true := by first | (simp [plainName, overriddenIn]; done) | decide +kernel
theorem own_pd2 : parseMethodDescriptor "(IIIII)Ljava/lang/String;" = some ⟨[.int, .int, .int, .int, .int], some (.object "java/lang/String")⟩ := by decide +kernel
theorem own_pd3 : parseMethodDescriptor "(Ljava/lang/String;)Ljava/lang/String;" = some ⟨[(.object "java/lang/String")], some (.object "java/lang/String")⟩ := by decide +kernel
theorem own_pd4 : parseMethodDescriptor "()I" = some ⟨[], some .int⟩ := by decide +kernel
abbrev own_ST : String := "java/lang/String"
/-- x is a String of the chars cs -/
def own_Str (Z : State) (h : Heap) (x : Addr) (cs : List Int32) : Prop := Exa Z h x "java/lang/String" ∧ ∃ (cd N2 : Int32) (vs : List Value) (t : Addr) (kb : ClassId), StrChars.Road.CodA cs cd N2 vs ∧ Fld Z h x "java/lang/String" "coder" "B" (.int cd) ∧ Fld Z h x "java/lang/String" "value" "[B" (.ref t) ∧ Arv Z h t kb .byte N2 vs (.int 0) ∧ ∀ c ∈ cs, ¬ c < 0 ∧ ¬ (65535 : Int32) < c
theorem own_char (x : Int32) : ¬ nar .char x < 0 ∧ ¬ (65535 : Int32) < nar .char x := by
  have f := fits_nar_char x
  simp only [fits, Bool.and_eq_true, decide_eq_true_eq] at f
  exact ⟨Int32.not_lt.mpr f.1, Int32.not_lt.mpr f.2⟩
theorem own_len (x : Int32) : (x &&& (3 : Int32)) + (1 : Int32) = 1 ∨ (x &&& (3 : Int32)) + (1 : Int32) = 2 ∨ (x &&& (3 : Int32)) + (1 : Int32) = 3 ∨ (x &&& (3 : Int32)) + (1 : Int32) = 4 := by
  have t : ∀ k : Fin 4, Int32.ofNat k.val + (1 : Int32) = 1 ∨ Int32.ofNat k.val + (1 : Int32) = 2 ∨ Int32.ofNat k.val + (1 : Int32) = 3 ∨ Int32.ofNat k.val + (1 : Int32) = 4 := by decide +kernel
  have h : (x &&& 3).toBitVec.toNat < 4 := by
    simp only [Int32.toBitVec_and, BitVec.toNat_and]
    exact Nat.lt_succ_of_le Nat.and_le_right
  have e : (x &&& 3) = Int32.ofNat (x &&& 3).toBitVec.toNat := by
    apply Int32.toBitVec_inj.mp
    show _ = BitVec.ofNat 32 _
    rw [BitVec.ofNat_toNat]; simp
  rw [e]
  exact t ⟨_, h⟩
theorem d0_0 : decode method_3_code 0 = .ok (.iload_n 0, 1) := by decide +kernel
theorem d0_1 : decode method_3_code 1 = .ok (.iconst 3, 1) := by decide +kernel
theorem d0_2 : decode method_3_code 2 = .ok (.iand, 1) := by decide +kernel
theorem d0_3 : decode method_3_code 3 = .ok (.iconst 1, 1) := by decide +kernel
theorem d0_4 : decode method_3_code 4 = .ok (.iadd, 1) := by decide +kernel
theorem d0_5 : decode method_3_code 5 = .ok (.istore 5, 2) := by decide +kernel
theorem d0_7 : decode method_3_code 7 = .ok (.iload_n 1, 1) := by decide +kernel
theorem d0_8 : decode method_3_code 8 = .ok (.ldc 25, 2) := by decide +kernel
theorem d0_10 : decode method_3_code 10 = .ok (.iand, 1) := by decide +kernel
theorem d0_11 : decode method_3_code 11 = .ok (.i2c, 1) := by decide +kernel
theorem d0_12 : decode method_3_code 12 = .ok (.istore 6, 2) := by decide +kernel
theorem d0_14 : decode method_3_code 14 = .ok (.iload_n 2, 1) := by decide +kernel
theorem d0_15 : decode method_3_code 15 = .ok (.ldc 25, 2) := by decide +kernel
theorem d0_17 : decode method_3_code 17 = .ok (.iand, 1) := by decide +kernel
theorem d0_18 : decode method_3_code 18 = .ok (.i2c, 1) := by decide +kernel
theorem d0_19 : decode method_3_code 19 = .ok (.istore 7, 2) := by decide +kernel
theorem d0_21 : decode method_3_code 21 = .ok (.iload_n 3, 1) := by decide +kernel
theorem d0_22 : decode method_3_code 22 = .ok (.ldc 25, 2) := by decide +kernel
theorem d0_24 : decode method_3_code 24 = .ok (.iand, 1) := by decide +kernel
theorem d0_25 : decode method_3_code 25 = .ok (.i2c, 1) := by decide +kernel
theorem d0_26 : decode method_3_code 26 = .ok (.istore 8, 2) := by decide +kernel
theorem d0_28 : decode method_3_code 28 = .ok (.iload 4, 2) := by decide +kernel
theorem d0_30 : decode method_3_code 30 = .ok (.ldc 25, 2) := by decide +kernel
theorem d0_32 : decode method_3_code 32 = .ok (.iand, 1) := by decide +kernel
theorem d0_33 : decode method_3_code 33 = .ok (.i2c, 1) := by decide +kernel
theorem d0_34 : decode method_3_code 34 = .ok (.istore 9, 2) := by decide +kernel
theorem d0_36 : decode method_3_code 36 = .ok (.iload 5, 2) := by decide +kernel
theorem d0_38 : decode method_3_code 38 = .ok (.iconst 1, 1) := by decide +kernel
theorem d0_39 : decode method_3_code 39 = .ok (.if_icmp .ne 19, 3) := by decide +kernel
theorem d0_42 : decode method_3_code 42 = .ok (.new 20, 3) := by decide +kernel
theorem d0_45 : decode method_3_code 45 = .ok (.dup, 1) := by decide +kernel
theorem d0_46 : decode method_3_code 46 = .ok (.iconst 1, 1) := by decide +kernel
theorem d0_47 : decode method_3_code 47 = .ok (.newarray .char, 2) := by decide +kernel
theorem d0_49 : decode method_3_code 49 = .ok (.dup, 1) := by decide +kernel
theorem d0_50 : decode method_3_code 50 = .ok (.iconst 0, 1) := by decide +kernel
theorem d0_51 : decode method_3_code 51 = .ok (.iload 6, 2) := by decide +kernel
theorem d0_53 : decode method_3_code 53 = .ok (.castore, 1) := by decide +kernel
theorem d0_54 : decode method_3_code 54 = .ok (.invokespecial 26, 3) := by decide +kernel
theorem d0_57 : decode method_3_code 57 = .ok (.areturn, 1) := by decide +kernel
theorem d0_58 : decode method_3_code 58 = .ok (.iload 5, 2) := by decide +kernel
theorem d0_60 : decode method_3_code 60 = .ok (.iconst 2, 1) := by decide +kernel
theorem d0_61 : decode method_3_code 61 = .ok (.if_icmp .ne 24, 3) := by decide +kernel
theorem d0_64 : decode method_3_code 64 = .ok (.new 20, 3) := by decide +kernel
theorem d0_67 : decode method_3_code 67 = .ok (.dup, 1) := by decide +kernel
theorem d0_68 : decode method_3_code 68 = .ok (.iconst 2, 1) := by decide +kernel
theorem d0_69 : decode method_3_code 69 = .ok (.newarray .char, 2) := by decide +kernel
theorem d0_71 : decode method_3_code 71 = .ok (.dup, 1) := by decide +kernel
theorem d0_72 : decode method_3_code 72 = .ok (.iconst 0, 1) := by decide +kernel
theorem d0_73 : decode method_3_code 73 = .ok (.iload 6, 2) := by decide +kernel
theorem d0_75 : decode method_3_code 75 = .ok (.castore, 1) := by decide +kernel
theorem d0_76 : decode method_3_code 76 = .ok (.dup, 1) := by decide +kernel
theorem d0_77 : decode method_3_code 77 = .ok (.iconst 1, 1) := by decide +kernel
theorem d0_78 : decode method_3_code 78 = .ok (.iload 7, 2) := by decide +kernel
theorem d0_80 : decode method_3_code 80 = .ok (.castore, 1) := by decide +kernel
theorem d0_81 : decode method_3_code 81 = .ok (.invokespecial 26, 3) := by decide +kernel
theorem d0_84 : decode method_3_code 84 = .ok (.areturn, 1) := by decide +kernel
theorem d0_85 : decode method_3_code 85 = .ok (.iload 5, 2) := by decide +kernel
theorem d0_87 : decode method_3_code 87 = .ok (.iconst 3, 1) := by decide +kernel
theorem d0_88 : decode method_3_code 88 = .ok (.if_icmp .ne 29, 3) := by decide +kernel
theorem d0_91 : decode method_3_code 91 = .ok (.new 20, 3) := by decide +kernel
theorem d0_94 : decode method_3_code 94 = .ok (.dup, 1) := by decide +kernel
theorem d0_95 : decode method_3_code 95 = .ok (.iconst 3, 1) := by decide +kernel
theorem d0_96 : decode method_3_code 96 = .ok (.newarray .char, 2) := by decide +kernel
theorem d0_98 : decode method_3_code 98 = .ok (.dup, 1) := by decide +kernel
theorem d0_99 : decode method_3_code 99 = .ok (.iconst 0, 1) := by decide +kernel
theorem d0_100 : decode method_3_code 100 = .ok (.iload 6, 2) := by decide +kernel
theorem d0_102 : decode method_3_code 102 = .ok (.castore, 1) := by decide +kernel
theorem d0_103 : decode method_3_code 103 = .ok (.dup, 1) := by decide +kernel
theorem d0_104 : decode method_3_code 104 = .ok (.iconst 1, 1) := by decide +kernel
theorem d0_105 : decode method_3_code 105 = .ok (.iload 7, 2) := by decide +kernel
theorem d0_107 : decode method_3_code 107 = .ok (.castore, 1) := by decide +kernel
theorem d0_108 : decode method_3_code 108 = .ok (.dup, 1) := by decide +kernel
theorem d0_109 : decode method_3_code 109 = .ok (.iconst 2, 1) := by decide +kernel
theorem d0_110 : decode method_3_code 110 = .ok (.iload 8, 2) := by decide +kernel
theorem d0_112 : decode method_3_code 112 = .ok (.castore, 1) := by decide +kernel
theorem d0_113 : decode method_3_code 113 = .ok (.invokespecial 26, 3) := by decide +kernel
theorem d0_116 : decode method_3_code 116 = .ok (.areturn, 1) := by decide +kernel
theorem d0_117 : decode method_3_code 117 = .ok (.new 20, 3) := by decide +kernel
theorem d0_120 : decode method_3_code 120 = .ok (.dup, 1) := by decide +kernel
theorem d0_121 : decode method_3_code 121 = .ok (.iconst 4, 1) := by decide +kernel
theorem d0_122 : decode method_3_code 122 = .ok (.newarray .char, 2) := by decide +kernel
theorem d0_124 : decode method_3_code 124 = .ok (.dup, 1) := by decide +kernel
theorem d0_125 : decode method_3_code 125 = .ok (.iconst 0, 1) := by decide +kernel
theorem d0_126 : decode method_3_code 126 = .ok (.iload 6, 2) := by decide +kernel
theorem d0_128 : decode method_3_code 128 = .ok (.castore, 1) := by decide +kernel
theorem d0_129 : decode method_3_code 129 = .ok (.dup, 1) := by decide +kernel
theorem d0_130 : decode method_3_code 130 = .ok (.iconst 1, 1) := by decide +kernel
theorem d0_131 : decode method_3_code 131 = .ok (.iload 7, 2) := by decide +kernel
theorem d0_133 : decode method_3_code 133 = .ok (.castore, 1) := by decide +kernel
theorem d0_134 : decode method_3_code 134 = .ok (.dup, 1) := by decide +kernel
theorem d0_135 : decode method_3_code 135 = .ok (.iconst 2, 1) := by decide +kernel
theorem d0_136 : decode method_3_code 136 = .ok (.iload 8, 2) := by decide +kernel
theorem d0_138 : decode method_3_code 138 = .ok (.castore, 1) := by decide +kernel
theorem d0_139 : decode method_3_code 139 = .ok (.dup, 1) := by decide +kernel
theorem d0_140 : decode method_3_code 140 = .ok (.iconst 3, 1) := by decide +kernel
theorem d0_141 : decode method_3_code 141 = .ok (.iload 9, 2) := by decide +kernel
theorem d0_143 : decode method_3_code 143 = .ok (.castore, 1) := by decide +kernel
theorem d0_144 : decode method_3_code 144 = .ok (.invokespecial 26, 3) := by decide +kernel
theorem d0_147 : decode method_3_code 147 = .ok (.areturn, 1) := by decide +kernel
def Q_own_draw (Z : State) (p1 p2 p3 p4 p5 z : Int32) (h0 : Heap) (n0 : Nat) (v : Option Value) (h : Heap) (L : List Loc) : Prop := ∃ (x : Addr) (cs : List Int32), v = some (.ref x) ∧ Fr n0 L ∧ Keep h0 h [] ∧ own_Str Z h x cs ∧ Int32.ofNat cs.length = (p1 &&& (3 : Int32)) + (1 : Int32) ∧ 0 < cs.length ∧ cs.length ≤ 4
set_option maxRecDepth 65536 in
set_option maxHeartbeats 40000000 in
theorem own_draw (l : Launch) (Z : State) (a0 : Array Value) (hw : ∀ d ∈ tables_1, d.before a0 Z = true) (p1 p2 p3 p4 p5 z : Int32) (h0 : Heap) (n0 : Nat) (Z0 : n0 ≤ h0.size) (X00 : Old Z n0 h0) (O2 : Sta Z Z.heap "java/lang/String" "COMPACT_STRINGS" "Z" (.int z)) (P5 : ¬ z = 0) (O3 : StrChars.Road.U3Z Z Z.heap) :
    MetFree l (⟨"com/example/latchwork/latchwork/lock/LockArgumentsRequireNamePinLaw", "draw", "(IIIII)Ljava/lang/String;"⟩ : MethodName) (head1 [Jvm.Cond.code (⟨"com/example/latchwork/latchwork/lock/LockArgumentsRequireNamePinLaw", "draw", "(IIIII)Ljava/lang/String;"⟩ : MethodName) method_3_code 10 (some (.object "java/lang/String"))] ({ frames := 6, cells := 4, slots := 20, locals := 92 } : Room)) (fun a_ U_ => a_ = #[(.int p1), (.int p2), (.int p3), (.int p4), (.int p5)] ∧ Z.Warmed39 U_.vm ∧ U_.heap = h0) (fun _ _ _ _ _ => True) (fun _ U_ o_ V_ => ∃ v_ L_, o_ = .returned v_ ∧ Q_own_draw Z p1 p2 p3 p4 p5 z h0 n0 v_ V_.heap L_ ∧ FrameEnd U_ o_ V_ L_ ({ frames := 6, cells := 4, slots := 20, locals := 92 } : Room).cells ({ frames := 6, cells := 4, slots := 20, locals := 92 } : Room).slots) := by
  refine MetFree.of_bodySF (plainFor_of_name own_pn0) hisR ?_
  intro p e s m args below meth c s₁ Bd hml0 hP hK
  obtain ⟨rfl, hZ, hh⟩ := hP
  have hx := Bd.exec
  have hby := Bd.bytes
  have hml : c.maxLocals = 10 := hml0
  have hown : s.vm.findClass "com/example/latchwork/latchwork/lock/LockArgumentsRequireNamePinLaw" = some m.cls := findClass_of_methodNamed Bd.named
  have hnm := (name_of_methodNamed Bd.named Bd.method).1
  have X0 : Stand p l e ({ frames := 6, cells := 4, slots := 20, locals := 92 } : Room) s m #[(.int p1), (.int p2), (.int p3), (.int p4), (.int p5)] below meth c s₁ [] 0 0 := Stand.of_body Bd
  have e0 : s₁.heap = h0 := by rw [← hh, Bd.state]; rfl
  have N0 := Fr.nil n0
  have KK0 := Keep.refl h0 ([] : List Addr)
  have cc0 : Steps p.tables e below (s₁.setTop (entryFrame m #[(.int p1), (.int p2), (.int p3), (.int p4), (.int p5)] 10)) (s₁.setTop (mkF m 0 #[.val (.int p1), .val (.int p2), .val (.int p3), .val (.int p4), .val (.int p5), .unset, .unset, .unset, .unset, .unset] [])) := XT.entry rfl
  obtain ⟨S0', hS0'⟩ : ∃ S, S = (s₁.setTop (entryFrame m #[(.int p1), (.int p2), (.int p3), (.int p4), (.int p5)] 10)) := ⟨_, rfl⟩
  rw [← hS0'] at cc0
  have w_4 := hw _ (List.mem_of_getElem? (i := 4) rfl)
  have w_5 := hw _ (List.mem_of_getElem? (i := 5) rfl)
  have w_6 := hw _ (List.mem_of_getElem? (i := 6) rfl)
  have w_7 := hw _ (List.mem_of_getElem? (i := 7) rfl)
  have w_8 := hw _ (List.mem_of_getElem? (i := 8) rfl)
  have w_9 := hw _ (List.mem_of_getElem? (i := 9) rfl)
  have w_10 := hw _ (List.mem_of_getElem? (i := 10) rfl)
  have w_11 := hw _ (List.mem_of_getElem? (i := 11) rfl)
  have w_32 := hw _ (List.mem_of_getElem? (i := 32) rfl)
  have w_34 := hw _ (List.mem_of_getElem? (i := 34) rfl)
  have hws : ∀ d ∈ StrChars.Road.words, d.before a0 Z = true := fun d hd => hw d ((by decide +kernel : ∀ d ∈ StrChars.Road.words, d ∈ tables_1) d hd)
  have hww : ∀ d ∈ StrChars.Road.wordsW, d.before a0 Z = true := fun d hd => hw d ((by decide +kernel : ∀ d ∈ StrChars.Road.wordsW, d ∈ tables_1) d hd)
  have cc21 : Steps p.tables e below S0' (s₁.setTop (mkF m 39 #[.val (.int p1), .val (.int p2), .val (.int p3), .val (.int p4), .val (.int p5), .val (.int ((p1 &&& (3 : Int32)) + (1 : Int32))), .val (.int ((p2 &&& (65535 : Int32)).toUInt32.toUInt16.toUInt32.toInt32)), .val (.int ((p3 &&& (65535 : Int32)).toUInt32.toUInt16.toUInt32.toInt32)), .val (.int ((p4 &&& (65535 : Int32)).toUInt32.toUInt16.toUInt32.toInt32)), .val (.int ((p5 &&& (65535 : Int32)).toUInt32.toUInt16.toUInt32.toInt32))] [(.int 1), (.int ((p1 &&& (3 : Int32)) + (1 : Int32)))])) := Steps.trans cc0 (by
    refine XS.iloadN X0.here hx rfl (own_d hby d0_0) rfl ?_
    refine iconstV X0.here hx rfl 3 (own_d hby d0_1) (by decide) ?_
    refine XS.iand X0.here hx rfl (own_d hby d0_2) rfl ?_
    refine iconstV X0.here hx rfl 1 (own_d hby d0_3) (by decide) ?_
    refine XS.iadd X0.here hx rfl (own_d hby d0_4) rfl ?_
    refine XS.istore X0.here hx rfl (own_d hby d0_5) rfl rfl ?_
    refine XS.iloadN X0.here hx rfl (own_d hby d0_7) rfl ?_
    refine X0.ldcI hx hown (mvT hZ w_4) rfl (own_d hby d0_8) ?_
    refine XS.iand X0.here hx rfl (own_d hby d0_10) rfl ?_
    refine XT.i2c X0.here hx rfl (own_d hby d0_11) rfl ?_
    refine XS.istore X0.here hx rfl (own_d hby d0_12) rfl rfl ?_
    refine XS.iloadN X0.here hx rfl (own_d hby d0_14) rfl ?_
    refine X0.ldcI hx hown (mvT hZ w_4) rfl (own_d hby d0_15) ?_
    refine XS.iand X0.here hx rfl (own_d hby d0_17) rfl ?_
    refine XT.i2c X0.here hx rfl (own_d hby d0_18) rfl ?_
    refine XS.istore X0.here hx rfl (own_d hby d0_19) rfl rfl ?_
    refine XS.iloadN X0.here hx rfl (own_d hby d0_21) rfl ?_
    refine X0.ldcI hx hown (mvT hZ w_4) rfl (own_d hby d0_22) ?_
    refine XS.iand X0.here hx rfl (own_d hby d0_24) rfl ?_
    refine XT.i2c X0.here hx rfl (own_d hby d0_25) rfl ?_
    refine XS.istore X0.here hx rfl (own_d hby d0_26) rfl rfl ?_
    refine XS.iload X0.here hx rfl (own_d hby d0_28) rfl ?_
    refine X0.ldcI hx hown (mvT hZ w_4) rfl (own_d hby d0_30) ?_
    refine XS.iand X0.here hx rfl (own_d hby d0_32) rfl ?_
    refine XT.i2c X0.here hx rfl (own_d hby d0_33) rfl ?_
    refine XS.istore X0.here hx rfl (own_d hby d0_34) rfl rfl ?_
    refine XS.iload X0.here hx rfl (own_d hby d0_36) rfl ?_
    refine iconstV X0.here hx rfl 1 (own_d hby d0_38) (by decide) ?_
    exact Steps.refl _)
  rcases own_len p1 with hl | hl | hl | hl
  · skip
    have cc22 : Steps p.tables e below S0' (s₁.setTop (mkF m 42 #[.val (.int p1), .val (.int p2), .val (.int p3), .val (.int p4), .val (.int p5), .val (.int ((p1 &&& (3 : Int32)) + (1 : Int32))), .val (.int ((p2 &&& (65535 : Int32)).toUInt32.toUInt16.toUInt32.toInt32)), .val (.int ((p3 &&& (65535 : Int32)).toUInt32.toUInt16.toUInt32.toInt32)), .val (.int ((p4 &&& (65535 : Int32)).toUInt32.toUInt16.toUInt32.toInt32)), .val (.int ((p5 &&& (65535 : Int32)).toUInt32.toUInt16.toUInt32.toInt32))] [])) := Steps.trans cc21 (by
      refine XS.icmpNo X0.here hx rfl (own_d hby d0_39) rfl (ii_ne_f hl) ?_
      exact Steps.refl _)
    obtain ⟨T23, h23, X23, e23, E23, A23, D23, -, st23⟩ := newO X0 hx hZ hown w_5 w_6 w_7 e0 (g := (mkF m 42 #[.val (.int p1), .val (.int p2), .val (.int p3), .val (.int p4), .val (.int p5), .val (.int ((p1 &&& (3 : Int32)) + (1 : Int32))), .val (.int ((p2 &&& (65535 : Int32)).toUInt32.toUInt16.toUInt32.toInt32)), .val (.int ((p3 &&& (65535 : Int32)).toUInt32.toUInt16.toUInt32.toInt32)), .val (.int ((p4 &&& (65535 : Int32)).toUInt32.toUInt16.toUInt32.toInt32)), .val (.int ((p5 &&& (65535 : Int32)).toUInt32.toUInt16.toUInt32.toInt32))] [])) rfl (own_d hby d0_42) (by decide) (by decide)
    obtain ⟨x, g_x⟩ : ∃ z, z = h0.size := ⟨_, rfl⟩
    rw [← g_x] at A23 D23 st23
    have K23 := (Keep.refl h0 ([] : List Addr)).ext E23
    have b_x : h0.size ≤ x := (Nat.le_of_eq g_x.symm)
    have gn_x : n0 ≤ x := Nat.le_trans Z0 b_x
    have s0_x : h0.size ≤ x := Nat.le_trans KK0.1 b_x
    have KK1 : Keep h0 h23 ([] : List Addr) := KK0.trans K23 all0
    have Zs1 : n0 ≤ h23.size := Nat.le_trans Z0 K23.1
    have F_value_x : Fld Z h23 x "java/lang/String" "value" "[B" .null := D23 (Or.inr w_34) (ty := (.array .byte)) (by decide)
    have F_coder_x : Fld Z h23 x "java/lang/String" "coder" "B" (.int (0 : Int32)) := D23 (Or.inr w_32) (ty := .byte) (by decide)
    have cc24 : Steps p.tables e below S0' (T23.setTop (mkF m 47 #[.val (.int p1), .val (.int p2), .val (.int p3), .val (.int p4), .val (.int p5), .val (.int ((p1 &&& (3 : Int32)) + (1 : Int32))), .val (.int ((p2 &&& (65535 : Int32)).toUInt32.toUInt16.toUInt32.toInt32)), .val (.int ((p3 &&& (65535 : Int32)).toUInt32.toUInt16.toUInt32.toInt32)), .val (.int ((p4 &&& (65535 : Int32)).toUInt32.toUInt16.toUInt32.toInt32)), .val (.int ((p5 &&& (65535 : Int32)).toUInt32.toUInt16.toUInt32.toInt32))] [(.int 1), (.ref x), (.ref x)])) := Steps.trans (cc22.trans (st23 _ (Steps.refl _))) (by
      refine XS.dup X23.here hx rfl (own_d hby d0_45) rfl rfl ?_
      refine iconstV X23.here hx rfl 1 (own_d hby d0_46) (by decide) ?_
      exact Steps.refl _)
    obtain ⟨T25, h25, k25, X25, e25, E25, A25, st25⟩ := newP X23 hx hZ (aty := .char) w_8 e23 (g := (mkF m 47 #[.val (.int p1), .val (.int p2), .val (.int p3), .val (.int p4), .val (.int p5), .val (.int ((p1 &&& (3 : Int32)) + (1 : Int32))), .val (.int ((p2 &&& (65535 : Int32)).toUInt32.toUInt16.toUInt32.toInt32)), .val (.int ((p3 &&& (65535 : Int32)).toUInt32.toUInt16.toUInt32.toInt32)), .val (.int ((p4 &&& (65535 : Int32)).toUInt32.toUInt16.toUInt32.toInt32)), .val (.int ((p5 &&& (65535 : Int32)).toUInt32.toUInt16.toUInt32.toInt32))] [(.int 1), (.ref x), (.ref x)])) rfl (own_d hby d0_47) rfl (by decide) (cap := 1) (by decide) (by decide) (by decide) (by decide)
    obtain ⟨b, g_b⟩ : ∃ z, z = h23.size := ⟨_, rfl⟩
    rw [← g_b] at A25 st25
    have K25 := (Keep.refl h23 ([] : List Addr)).ext E25
    have b_b : h23.size ≤ b := (Nat.le_of_eq g_b.symm)
    have gn_b : n0 ≤ b := Nat.le_trans Zs1 b_b
    have s0_b : h0.size ≤ b := Nat.le_trans KK1.1 b_b
    have ne_x_b : x ≠ b := Nat.ne_of_lt (Nat.lt_of_lt_of_le A23.lt b_b)
    have KK2 : Keep h0 h25 ([] : List Addr) := KK1.trans K25 all0
    have Zs2 : n0 ≤ h25.size := Nat.le_trans Zs1 K25.1
    have V_b : Arv Z h25 b k25 .char (1 : Int32) [(.int (0 : Int32))] (.int (0 : Int32)) := (Arv.new A25 (by decide)).pad (pad_rep [] (.int (0 : Int32)) 1)
    have cc26 : Steps p.tables e below S0' (T25.setTop (mkF m 53 #[.val (.int p1), .val (.int p2), .val (.int p3), .val (.int p4), .val (.int p5), .val (.int ((p1 &&& (3 : Int32)) + (1 : Int32))), .val (.int ((p2 &&& (65535 : Int32)).toUInt32.toUInt16.toUInt32.toInt32)), .val (.int ((p3 &&& (65535 : Int32)).toUInt32.toUInt16.toUInt32.toInt32)), .val (.int ((p4 &&& (65535 : Int32)).toUInt32.toUInt16.toUInt32.toInt32)), .val (.int ((p5 &&& (65535 : Int32)).toUInt32.toUInt16.toUInt32.toInt32))] [(.int ((p2 &&& (65535 : Int32)).toUInt32.toUInt16.toUInt32.toInt32)), (.int 0), (.ref b), (.ref b), (.ref x), (.ref x)])) := Steps.trans (cc24.trans (st25 _ (Steps.refl _))) (by
      refine XS.dup X25.here hx rfl (own_d hby d0_49) rfl rfl ?_
      refine iconstV X25.here hx rfl 0 (own_d hby d0_50) (by decide) ?_
      refine XS.iload X25.here hx rfl (own_d hby d0_51) rfl ?_
      exact Steps.refl _)
    obtain ⟨clu27, Aru27, qu27, Su27, Ngu27, Hsu27, Gsu27⟩ := id V_b
    have inu27 : ¬ ((0 : Int32) < 0 ∨ clu27.slots.size ≤ (0 : Int32).toNatClampNeg) := inb_of Su27 ⟨by decide, by decide⟩
    obtain ⟨T28, h28, X28, e28, W28, st28⟩ := stC X25 hx hZ e25 Aru27 (j := (0 : Int32)) inu27 (g := (mkF m 53 #[.val (.int p1), .val (.int p2), .val (.int p3), .val (.int p4), .val (.int p5), .val (.int ((p1 &&& (3 : Int32)) + (1 : Int32))), .val (.int ((p2 &&& (65535 : Int32)).toUInt32.toUInt16.toUInt32.toInt32)), .val (.int ((p3 &&& (65535 : Int32)).toUInt32.toUInt16.toUInt32.toInt32)), .val (.int ((p4 &&& (65535 : Int32)).toUInt32.toUInt16.toUInt32.toInt32)), .val (.int ((p5 &&& (65535 : Int32)).toUInt32.toUInt16.toUInt32.toInt32))] [(.int ((p2 &&& (65535 : Int32)).toUInt32.toUInt16.toUInt32.toInt32)), (.int 0), (.ref b), (.ref b), (.ref x), (.ref x)])) rfl rfl (own_d hby d0_53)
    have K28 := Keep.of_wr W28
    have N28 := Fr.snoc X28 N0 gn_b
    have KK3 : Keep h0 h28 ([] : List Addr) := KK2.trans K28 (allS (Or.inr s0_b) all0)
    have Zs3 : n0 ≤ h28.size := Nat.le_trans Zs2 K28.1
    have V28 : Arv Z h28 b k25 .char (1 : Int32) ([(.int (nar .char ((p2 &&& (65535 : Int32)).toUInt32.toUInt16.toUInt32.toInt32)))]) (.int (0 : Int32)) := Arv.set Aru27 qu27 Su27 Ngu27 Hsu27 Gsu27 (fits_nar_char _) W28 0 rfl (Nat.le_of_ble_eq_true rfl)
    have cc30 : Steps p.tables e below S0' (T28.setTop (mkF m 54 #[.val (.int p1), .val (.int p2), .val (.int p3), .val (.int p4), .val (.int p5), .val (.int ((p1 &&& (3 : Int32)) + (1 : Int32))), .val (.int ((p2 &&& (65535 : Int32)).toUInt32.toUInt16.toUInt32.toInt32)), .val (.int ((p3 &&& (65535 : Int32)).toUInt32.toUInt16.toUInt32.toInt32)), .val (.int ((p4 &&& (65535 : Int32)).toUInt32.toUInt16.toUInt32.toInt32)), .val (.int ((p5 &&& (65535 : Int32)).toUInt32.toUInt16.toUInt32.toInt32))] [(.ref b), (.ref x), (.ref x)])) := (cc26.trans (st28 _ (Steps.refl _)))
    have fa29 : Exa Z h28 x "java/lang/String" := ((A23.keep K25).keep K28)
    have fa31 : Fld Z h28 x "java/lang/String" "value" "[B" .null := ((F_value_x.keep K25 nin0).keep K28 (ninS ne_x_b nin0))
    have fa32 : Fld Z h28 x "java/lang/String" "coder" "B" (.int (0 : Int32)) := ((F_coder_x.keep K25 nin0).keep K28 (ninS ne_x_b nin0))
    have fa33 : Old Z n0 h28 := (((X00.keep K23 all0).keep K25 all0).keep K28 (allS gn_b all0))
    have hp : ∀ c ∈ ([nar .char ((p2 &&& (65535 : Int32)).toUInt32.toUInt16.toUInt32.toInt32)] : List Int32), ¬ c < 0 ∧ ¬ (65535 : Int32) < c := by
      intro c hc
      simp only [List.mem_cons, List.not_mem_nil, or_false] at hc
      rcases hc with rfl <;> exact own_char _
    obtain ⟨_, _, ⟨T34, L34, k34, n34⟩, -, X34, ⟨Lc34, hQ34, l34, y34, z34⟩, st34⟩ := X28.specialBack hx (y := (⟨"java/lang/String", "<init>", "([C)V"⟩ : MethodName)) rfl hown (mvT hZ w_9) (mvT hZ w_10) (mvT hZ w_11) (by decide) (StrChars.Road.backT (W := 1) hZ hws hww (kI := 4) w_6 (cs := ([nar .char ((p2 &&& (65535 : Int32)).toUInt32.toUInt16.toUInt32.toInt32)] : List Int32)) (n := 1) gn_x Zs3 fa29 fa31 fa32 V28 (O2.ext fa33.2) P5 (O3.ext fa33.2) rfl rfl (by decide) (by decide) (fun c hc => (hp c hc).1) (by decide) (by decide)) (g := (mkF m 54 #[.val (.int p1), .val (.int p2), .val (.int p3), .val (.int p4), .val (.int p5), .val (.int ((p1 &&& (3 : Int32)) + (1 : Int32))), .val (.int ((p2 &&& (65535 : Int32)).toUInt32.toUInt16.toUInt32.toInt32)), .val (.int ((p3 &&& (65535 : Int32)).toUInt32.toUInt16.toUInt32.toInt32)), .val (.int ((p4 &&& (65535 : Int32)).toUInt32.toUInt16.toUInt32.toInt32)), .val (.int ((p5 &&& (65535 : Int32)).toUInt32.toUInt16.toUInt32.toInt32))] [(.ref b), (.ref x), (.ref x)])) rfl (by rw [hml]; rfl) (Steps.refl _) (a := x) (argsL := [(.ref b)]) (rest := [(.ref x)]) (lenOf own_pd0 rfl) rfl (by show 2 * 0 + _ ≤ _; exact Nat.le_of_eq rfl) (own_d hby d0_54) (fun _ _ => ⟨rfl, e28, Nat.le_of_ble_eq_true rfl, Nat.le_of_ble_eq_true rfl⟩)
    dsimp only [Pt.U, Pt.locs, Pt.cells, Pt.slots] at X34 l34 y34 z34 st34 hQ34
    subst l34 y34 z34
    obtain ⟨rfl, Nq34, Kq34, Eq34, cd, N2, vs, t, kb, hcd, Cq34, g134, g234, g334, Vq34, Aq34⟩ := hQ34
    have N34 := Fr.app N28 Nq34
    have KK4 : Keep h0 T34.heap ([] : List Addr) := KK3.trans Kq34 (allS (Or.inr s0_x) all0)
    have Zs4 : n0 ≤ T34.heap.size := Nat.le_trans Zs3 Kq34.1
    have e34 : T34.heap = T34.heap := rfl
    have cc35 : Steps p.tables e below S0' (T34.setTop (mkF m 57 #[.val (.int p1), .val (.int p2), .val (.int p3), .val (.int p4), .val (.int p5), .val (.int ((p1 &&& (3 : Int32)) + (1 : Int32))), .val (.int ((p2 &&& (65535 : Int32)).toUInt32.toUInt16.toUInt32.toInt32)), .val (.int ((p3 &&& (65535 : Int32)).toUInt32.toUInt16.toUInt32.toInt32)), .val (.int ((p4 &&& (65535 : Int32)).toUInt32.toUInt16.toUInt32.toInt32)), .val (.int ((p5 &&& (65535 : Int32)).toUInt32.toUInt16.toUInt32.toInt32))] [(.ref x)])) := (Steps.trans cc30 st34)
    have cE := cc35
    rw [hS0'] at cE
    obtain ⟨fs, hr_, hrun, hended, hW, hsame⟩ := X34.leave (v := some (.ref x)) (fun h => by rw [Bd.returns] at h; cases h)
    refine ⟨_, _, cE.trans (X34.areturnOut hx (rfl) Bd.returns rfl (own_d hby d0_57) hr_), hrun, hended, _, _, rfl, ?_, ⟨_, rfl⟩, hW, hsame.mono (by first | decide | omega) (by first | decide | omega)⟩
    show Q_own_draw Z p1 p2 p3 p4 p5 z h0 n0 _ T34.heap _
    rw [e34]
    exact ⟨x, ([nar .char ((p2 &&& (65535 : Int32)).toUInt32.toUInt16.toUInt32.toInt32)] : List Int32), rfl, N34, KK4, ⟨Eq34, cd, N2, vs, t, kb, hcd, Cq34, Vq34, Aq34, hp⟩, hl.symm, by simp, by simp⟩
  · skip
    have cc22 : Steps p.tables e below S0' (s₁.setTop (mkF m 64 #[.val (.int p1), .val (.int p2), .val (.int p3), .val (.int p4), .val (.int p5), .val (.int ((p1 &&& (3 : Int32)) + (1 : Int32))), .val (.int ((p2 &&& (65535 : Int32)).toUInt32.toUInt16.toUInt32.toInt32)), .val (.int ((p3 &&& (65535 : Int32)).toUInt32.toUInt16.toUInt32.toInt32)), .val (.int ((p4 &&& (65535 : Int32)).toUInt32.toUInt16.toUInt32.toInt32)), .val (.int ((p5 &&& (65535 : Int32)).toUInt32.toUInt16.toUInt32.toInt32))] [])) := Steps.trans cc21 (by
      refine XS.icmpYes X0.here hx rfl (pc0 := 39) rfl (own_d hby d0_39) rfl (ii_ne_t (by rw [hl]; decide)) (by decide) rfl ?_
      refine XS.iload X0.here hx rfl (own_d hby d0_58) rfl ?_
      refine iconstV X0.here hx rfl 2 (own_d hby d0_60) (by decide) ?_
      refine XS.icmpNo X0.here hx rfl (own_d hby d0_61) rfl (ii_ne_f hl) ?_
      exact Steps.refl _)
    obtain ⟨T23, h23, X23, e23, E23, A23, D23, -, st23⟩ := newO X0 hx hZ hown w_5 w_6 w_7 e0 (g := (mkF m 64 #[.val (.int p1), .val (.int p2), .val (.int p3), .val (.int p4), .val (.int p5), .val (.int ((p1 &&& (3 : Int32)) + (1 : Int32))), .val (.int ((p2 &&& (65535 : Int32)).toUInt32.toUInt16.toUInt32.toInt32)), .val (.int ((p3 &&& (65535 : Int32)).toUInt32.toUInt16.toUInt32.toInt32)), .val (.int ((p4 &&& (65535 : Int32)).toUInt32.toUInt16.toUInt32.toInt32)), .val (.int ((p5 &&& (65535 : Int32)).toUInt32.toUInt16.toUInt32.toInt32))] [])) rfl (own_d hby d0_64) (by decide) (by decide)
    obtain ⟨x, g_x⟩ : ∃ z, z = h0.size := ⟨_, rfl⟩
    rw [← g_x] at A23 D23 st23
    have K23 := (Keep.refl h0 ([] : List Addr)).ext E23
    have b_x : h0.size ≤ x := (Nat.le_of_eq g_x.symm)
    have gn_x : n0 ≤ x := Nat.le_trans Z0 b_x
    have s0_x : h0.size ≤ x := Nat.le_trans KK0.1 b_x
    have KK1 : Keep h0 h23 ([] : List Addr) := KK0.trans K23 all0
    have Zs1 : n0 ≤ h23.size := Nat.le_trans Z0 K23.1
    have F_value_x : Fld Z h23 x "java/lang/String" "value" "[B" .null := D23 (Or.inr w_34) (ty := (.array .byte)) (by decide)
    have F_coder_x : Fld Z h23 x "java/lang/String" "coder" "B" (.int (0 : Int32)) := D23 (Or.inr w_32) (ty := .byte) (by decide)
    have cc24 : Steps p.tables e below S0' (T23.setTop (mkF m 69 #[.val (.int p1), .val (.int p2), .val (.int p3), .val (.int p4), .val (.int p5), .val (.int ((p1 &&& (3 : Int32)) + (1 : Int32))), .val (.int ((p2 &&& (65535 : Int32)).toUInt32.toUInt16.toUInt32.toInt32)), .val (.int ((p3 &&& (65535 : Int32)).toUInt32.toUInt16.toUInt32.toInt32)), .val (.int ((p4 &&& (65535 : Int32)).toUInt32.toUInt16.toUInt32.toInt32)), .val (.int ((p5 &&& (65535 : Int32)).toUInt32.toUInt16.toUInt32.toInt32))] [(.int 2), (.ref x), (.ref x)])) := Steps.trans (cc22.trans (st23 _ (Steps.refl _))) (by
      refine XS.dup X23.here hx rfl (own_d hby d0_67) rfl rfl ?_
      refine iconstV X23.here hx rfl 2 (own_d hby d0_68) (by decide) ?_
      exact Steps.refl _)
    obtain ⟨T25, h25, k25, X25, e25, E25, A25, st25⟩ := newP X23 hx hZ (aty := .char) w_8 e23 (g := (mkF m 69 #[.val (.int p1), .val (.int p2), .val (.int p3), .val (.int p4), .val (.int p5), .val (.int ((p1 &&& (3 : Int32)) + (1 : Int32))), .val (.int ((p2 &&& (65535 : Int32)).toUInt32.toUInt16.toUInt32.toInt32)), .val (.int ((p3 &&& (65535 : Int32)).toUInt32.toUInt16.toUInt32.toInt32)), .val (.int ((p4 &&& (65535 : Int32)).toUInt32.toUInt16.toUInt32.toInt32)), .val (.int ((p5 &&& (65535 : Int32)).toUInt32.toUInt16.toUInt32.toInt32))] [(.int 2), (.ref x), (.ref x)])) rfl (own_d hby d0_69) rfl (by decide) (cap := 2) (by decide) (by decide) (by decide) (by decide)
    obtain ⟨b, g_b⟩ : ∃ z, z = h23.size := ⟨_, rfl⟩
    rw [← g_b] at A25 st25
    have K25 := (Keep.refl h23 ([] : List Addr)).ext E25
    have b_b : h23.size ≤ b := (Nat.le_of_eq g_b.symm)
    have gn_b : n0 ≤ b := Nat.le_trans Zs1 b_b
    have s0_b : h0.size ≤ b := Nat.le_trans KK1.1 b_b
    have ne_x_b : x ≠ b := Nat.ne_of_lt (Nat.lt_of_lt_of_le A23.lt b_b)
    have KK2 : Keep h0 h25 ([] : List Addr) := KK1.trans K25 all0
    have Zs2 : n0 ≤ h25.size := Nat.le_trans Zs1 K25.1
    have V_b : Arv Z h25 b k25 .char (2 : Int32) [(.int (0 : Int32)), (.int (0 : Int32))] (.int (0 : Int32)) := (Arv.new A25 (by decide)).pad (pad_rep [] (.int (0 : Int32)) 2)
    have cc26 : Steps p.tables e below S0' (T25.setTop (mkF m 75 #[.val (.int p1), .val (.int p2), .val (.int p3), .val (.int p4), .val (.int p5), .val (.int ((p1 &&& (3 : Int32)) + (1 : Int32))), .val (.int ((p2 &&& (65535 : Int32)).toUInt32.toUInt16.toUInt32.toInt32)), .val (.int ((p3 &&& (65535 : Int32)).toUInt32.toUInt16.toUInt32.toInt32)), .val (.int ((p4 &&& (65535 : Int32)).toUInt32.toUInt16.toUInt32.toInt32)), .val (.int ((p5 &&& (65535 : Int32)).toUInt32.toUInt16.toUInt32.toInt32))] [(.int ((p2 &&& (65535 : Int32)).toUInt32.toUInt16.toUInt32.toInt32)), (.int 0), (.ref b), (.ref b), (.ref x), (.ref x)])) := Steps.trans (cc24.trans (st25 _ (Steps.refl _))) (by
      refine XS.dup X25.here hx rfl (own_d hby d0_71) rfl rfl ?_
      refine iconstV X25.here hx rfl 0 (own_d hby d0_72) (by decide) ?_
      refine XS.iload X25.here hx rfl (own_d hby d0_73) rfl ?_
      exact Steps.refl _)
    obtain ⟨clu27, Aru27, qu27, Su27, Ngu27, Hsu27, Gsu27⟩ := id V_b
    have inu27 : ¬ ((0 : Int32) < 0 ∨ clu27.slots.size ≤ (0 : Int32).toNatClampNeg) := inb_of Su27 ⟨by decide, by decide⟩
    obtain ⟨T28, h28, X28, e28, W28, st28⟩ := stC X25 hx hZ e25 Aru27 (j := (0 : Int32)) inu27 (g := (mkF m 75 #[.val (.int p1), .val (.int p2), .val (.int p3), .val (.int p4), .val (.int p5), .val (.int ((p1 &&& (3 : Int32)) + (1 : Int32))), .val (.int ((p2 &&& (65535 : Int32)).toUInt32.toUInt16.toUInt32.toInt32)), .val (.int ((p3 &&& (65535 : Int32)).toUInt32.toUInt16.toUInt32.toInt32)), .val (.int ((p4 &&& (65535 : Int32)).toUInt32.toUInt16.toUInt32.toInt32)), .val (.int ((p5 &&& (65535 : Int32)).toUInt32.toUInt16.toUInt32.toInt32))] [(.int ((p2 &&& (65535 : Int32)).toUInt32.toUInt16.toUInt32.toInt32)), (.int 0), (.ref b), (.ref b), (.ref x), (.ref x)])) rfl rfl (own_d hby d0_75)
    have K28 := Keep.of_wr W28
    have N28 := Fr.snoc X28 N0 gn_b
    have KK3 : Keep h0 h28 ([] : List Addr) := KK2.trans K28 (allS (Or.inr s0_b) all0)
    have Zs3 : n0 ≤ h28.size := Nat.le_trans Zs2 K28.1
    have V28 : Arv Z h28 b k25 .char (2 : Int32) ([(.int (nar .char ((p2 &&& (65535 : Int32)).toUInt32.toUInt16.toUInt32.toInt32))), (.int (0 : Int32))]) (.int (0 : Int32)) := Arv.set Aru27 qu27 Su27 Ngu27 Hsu27 Gsu27 (fits_nar_char _) W28 0 rfl (Nat.le_of_ble_eq_true rfl)
    have cc29 : Steps p.tables e below S0' (T28.setTop (mkF m 80 #[.val (.int p1), .val (.int p2), .val (.int p3), .val (.int p4), .val (.int p5), .val (.int ((p1 &&& (3 : Int32)) + (1 : Int32))), .val (.int ((p2 &&& (65535 : Int32)).toUInt32.toUInt16.toUInt32.toInt32)), .val (.int ((p3 &&& (65535 : Int32)).toUInt32.toUInt16.toUInt32.toInt32)), .val (.int ((p4 &&& (65535 : Int32)).toUInt32.toUInt16.toUInt32.toInt32)), .val (.int ((p5 &&& (65535 : Int32)).toUInt32.toUInt16.toUInt32.toInt32))] [(.int ((p3 &&& (65535 : Int32)).toUInt32.toUInt16.toUInt32.toInt32)), (.int 1), (.ref b), (.ref b), (.ref x), (.ref x)])) := Steps.trans (cc26.trans (st28 _ (Steps.refl _))) (by
      refine XS.dup X28.here hx rfl (own_d hby d0_76) rfl rfl ?_
      refine iconstV X28.here hx rfl 1 (own_d hby d0_77) (by decide) ?_
      refine XS.iload X28.here hx rfl (own_d hby d0_78) rfl ?_
      exact Steps.refl _)
    obtain ⟨clu30, Aru30, qu30, Su30, Ngu30, Hsu30, Gsu30⟩ := id V28
    have inu30 : ¬ ((1 : Int32) < 0 ∨ clu30.slots.size ≤ (1 : Int32).toNatClampNeg) := inb_of Su30 ⟨by decide, by decide⟩
    obtain ⟨T31, h31, X31, e31, W31, st31⟩ := stC X28 hx hZ e28 Aru30 (j := (1 : Int32)) inu30 (g := (mkF m 80 #[.val (.int p1), .val (.int p2), .val (.int p3), .val (.int p4), .val (.int p5), .val (.int ((p1 &&& (3 : Int32)) + (1 : Int32))), .val (.int ((p2 &&& (65535 : Int32)).toUInt32.toUInt16.toUInt32.toInt32)), .val (.int ((p3 &&& (65535 : Int32)).toUInt32.toUInt16.toUInt32.toInt32)), .val (.int ((p4 &&& (65535 : Int32)).toUInt32.toUInt16.toUInt32.toInt32)), .val (.int ((p5 &&& (65535 : Int32)).toUInt32.toUInt16.toUInt32.toInt32))] [(.int ((p3 &&& (65535 : Int32)).toUInt32.toUInt16.toUInt32.toInt32)), (.int 1), (.ref b), (.ref b), (.ref x), (.ref x)])) rfl rfl (own_d hby d0_80)
    have K31 := Keep.of_wr W31
    have N31 := Fr.snoc X31 N28 gn_b
    have KK4 : Keep h0 h31 ([] : List Addr) := KK3.trans K31 (allS (Or.inr s0_b) all0)
    have Zs4 : n0 ≤ h31.size := Nat.le_trans Zs3 K31.1
    have V31 : Arv Z h31 b k25 .char (2 : Int32) ([(.int (nar .char ((p2 &&& (65535 : Int32)).toUInt32.toUInt16.toUInt32.toInt32))), (.int (nar .char ((p3 &&& (65535 : Int32)).toUInt32.toUInt16.toUInt32.toInt32)))]) (.int (0 : Int32)) := Arv.set Aru30 qu30 Su30 Ngu30 Hsu30 Gsu30 (fits_nar_char _) W31 1 rfl (Nat.le_of_ble_eq_true rfl)
    have cc33 : Steps p.tables e below S0' (T31.setTop (mkF m 81 #[.val (.int p1), .val (.int p2), .val (.int p3), .val (.int p4), .val (.int p5), .val (.int ((p1 &&& (3 : Int32)) + (1 : Int32))), .val (.int ((p2 &&& (65535 : Int32)).toUInt32.toUInt16.toUInt32.toInt32)), .val (.int ((p3 &&& (65535 : Int32)).toUInt32.toUInt16.toUInt32.toInt32)), .val (.int ((p4 &&& (65535 : Int32)).toUInt32.toUInt16.toUInt32.toInt32)), .val (.int ((p5 &&& (65535 : Int32)).toUInt32.toUInt16.toUInt32.toInt32))] [(.ref b), (.ref x), (.ref x)])) := (cc29.trans (st31 _ (Steps.refl _)))
    have fa32 : Exa Z h31 x "java/lang/String" := (((A23.keep K25).keep K28).keep K31)
    have fa34 : Fld Z h31 x "java/lang/String" "value" "[B" .null := (((F_value_x.keep K25 nin0).keep K28 (ninS ne_x_b nin0)).keep K31 (ninS ne_x_b nin0))
    have fa35 : Fld Z h31 x "java/lang/String" "coder" "B" (.int (0 : Int32)) := (((F_coder_x.keep K25 nin0).keep K28 (ninS ne_x_b nin0)).keep K31 (ninS ne_x_b nin0))
    have fa36 : Old Z n0 h31 := ((((X00.keep K23 all0).keep K25 all0).keep K28 (allS gn_b all0)).keep K31 (allS gn_b all0))
    have hp : ∀ c ∈ ([nar .char ((p2 &&& (65535 : Int32)).toUInt32.toUInt16.toUInt32.toInt32), nar .char ((p3 &&& (65535 : Int32)).toUInt32.toUInt16.toUInt32.toInt32)] : List Int32), ¬ c < 0 ∧ ¬ (65535 : Int32) < c := by
      intro c hc
      simp only [List.mem_cons, List.not_mem_nil, or_false] at hc
      rcases hc with rfl | rfl <;> exact own_char _
    obtain ⟨_, _, ⟨T37, L37, k37, n37⟩, -, X37, ⟨Lc37, hQ37, l37, y37, z37⟩, st37⟩ := X31.specialBack hx (y := (⟨"java/lang/String", "<init>", "([C)V"⟩ : MethodName)) rfl hown (mvT hZ w_9) (mvT hZ w_10) (mvT hZ w_11) (by decide) (StrChars.Road.backT (W := 1) hZ hws hww (kI := 4) w_6 (cs := ([nar .char ((p2 &&& (65535 : Int32)).toUInt32.toUInt16.toUInt32.toInt32), nar .char ((p3 &&& (65535 : Int32)).toUInt32.toUInt16.toUInt32.toInt32)] : List Int32)) (n := 2) gn_x Zs4 fa32 fa34 fa35 V31 (O2.ext fa36.2) P5 (O3.ext fa36.2) rfl rfl (by decide) (by decide) (fun c hc => (hp c hc).1) (by decide) (by decide)) (g := (mkF m 81 #[.val (.int p1), .val (.int p2), .val (.int p3), .val (.int p4), .val (.int p5), .val (.int ((p1 &&& (3 : Int32)) + (1 : Int32))), .val (.int ((p2 &&& (65535 : Int32)).toUInt32.toUInt16.toUInt32.toInt32)), .val (.int ((p3 &&& (65535 : Int32)).toUInt32.toUInt16.toUInt32.toInt32)), .val (.int ((p4 &&& (65535 : Int32)).toUInt32.toUInt16.toUInt32.toInt32)), .val (.int ((p5 &&& (65535 : Int32)).toUInt32.toUInt16.toUInt32.toInt32))] [(.ref b), (.ref x), (.ref x)])) rfl (by rw [hml]; rfl) (Steps.refl _) (a := x) (argsL := [(.ref b)]) (rest := [(.ref x)]) (lenOf own_pd0 rfl) rfl (by show 2 * 0 + _ ≤ _; exact Nat.le_of_eq rfl) (own_d hby d0_81) (fun _ _ => ⟨rfl, e31, Nat.le_of_ble_eq_true rfl, Nat.le_of_ble_eq_true rfl⟩)
    dsimp only [Pt.U, Pt.locs, Pt.cells, Pt.slots] at X37 l37 y37 z37 st37 hQ37
    subst l37 y37 z37
    obtain ⟨rfl, Nq37, Kq37, Eq37, cd, N2, vs, t, kb, hcd, Cq37, g137, g237, g337, Vq37, Aq37⟩ := hQ37
    have N37 := Fr.app N31 Nq37
    have KK5 : Keep h0 T37.heap ([] : List Addr) := KK4.trans Kq37 (allS (Or.inr s0_x) all0)
    have Zs5 : n0 ≤ T37.heap.size := Nat.le_trans Zs4 Kq37.1
    have e37 : T37.heap = T37.heap := rfl
    have cc38 : Steps p.tables e below S0' (T37.setTop (mkF m 84 #[.val (.int p1), .val (.int p2), .val (.int p3), .val (.int p4), .val (.int p5), .val (.int ((p1 &&& (3 : Int32)) + (1 : Int32))), .val (.int ((p2 &&& (65535 : Int32)).toUInt32.toUInt16.toUInt32.toInt32)), .val (.int ((p3 &&& (65535 : Int32)).toUInt32.toUInt16.toUInt32.toInt32)), .val (.int ((p4 &&& (65535 : Int32)).toUInt32.toUInt16.toUInt32.toInt32)), .val (.int ((p5 &&& (65535 : Int32)).toUInt32.toUInt16.toUInt32.toInt32))] [(.ref x)])) := (Steps.trans cc33 st37)
    have cE := cc38
    rw [hS0'] at cE
    obtain ⟨fs, hr_, hrun, hended, hW, hsame⟩ := X37.leave (v := some (.ref x)) (fun h => by rw [Bd.returns] at h; cases h)
    refine ⟨_, _, cE.trans (X37.areturnOut hx (rfl) Bd.returns rfl (own_d hby d0_84) hr_), hrun, hended, _, _, rfl, ?_, ⟨_, rfl⟩, hW, hsame.mono (by first | decide | omega) (by first | decide | omega)⟩
    show Q_own_draw Z p1 p2 p3 p4 p5 z h0 n0 _ T37.heap _
    rw [e37]
    exact ⟨x, ([nar .char ((p2 &&& (65535 : Int32)).toUInt32.toUInt16.toUInt32.toInt32), nar .char ((p3 &&& (65535 : Int32)).toUInt32.toUInt16.toUInt32.toInt32)] : List Int32), rfl, N37, KK5, ⟨Eq37, cd, N2, vs, t, kb, hcd, Cq37, Vq37, Aq37, hp⟩, hl.symm, by simp, by simp⟩
  · skip
    have cc22 : Steps p.tables e below S0' (s₁.setTop (mkF m 91 #[.val (.int p1), .val (.int p2), .val (.int p3), .val (.int p4), .val (.int p5), .val (.int ((p1 &&& (3 : Int32)) + (1 : Int32))), .val (.int ((p2 &&& (65535 : Int32)).toUInt32.toUInt16.toUInt32.toInt32)), .val (.int ((p3 &&& (65535 : Int32)).toUInt32.toUInt16.toUInt32.toInt32)), .val (.int ((p4 &&& (65535 : Int32)).toUInt32.toUInt16.toUInt32.toInt32)), .val (.int ((p5 &&& (65535 : Int32)).toUInt32.toUInt16.toUInt32.toInt32))] [])) := Steps.trans cc21 (by
      refine XS.icmpYes X0.here hx rfl (pc0 := 39) rfl (own_d hby d0_39) rfl (ii_ne_t (by rw [hl]; decide)) (by decide) rfl ?_
      refine XS.iload X0.here hx rfl (own_d hby d0_58) rfl ?_
      refine iconstV X0.here hx rfl 2 (own_d hby d0_60) (by decide) ?_
      refine XS.icmpYes X0.here hx rfl (pc0 := 61) rfl (own_d hby d0_61) rfl (ii_ne_t (by rw [hl]; decide)) (by decide) rfl ?_
      refine XS.iload X0.here hx rfl (own_d hby d0_85) rfl ?_
      refine iconstV X0.here hx rfl 3 (own_d hby d0_87) (by decide) ?_
      refine XS.icmpNo X0.here hx rfl (own_d hby d0_88) rfl (ii_ne_f hl) ?_
      exact Steps.refl _)
    obtain ⟨T23, h23, X23, e23, E23, A23, D23, -, st23⟩ := newO X0 hx hZ hown w_5 w_6 w_7 e0 (g := (mkF m 91 #[.val (.int p1), .val (.int p2), .val (.int p3), .val (.int p4), .val (.int p5), .val (.int ((p1 &&& (3 : Int32)) + (1 : Int32))), .val (.int ((p2 &&& (65535 : Int32)).toUInt32.toUInt16.toUInt32.toInt32)), .val (.int ((p3 &&& (65535 : Int32)).toUInt32.toUInt16.toUInt32.toInt32)), .val (.int ((p4 &&& (65535 : Int32)).toUInt32.toUInt16.toUInt32.toInt32)), .val (.int ((p5 &&& (65535 : Int32)).toUInt32.toUInt16.toUInt32.toInt32))] [])) rfl (own_d hby d0_91) (by decide) (by decide)
    obtain ⟨x, g_x⟩ : ∃ z, z = h0.size := ⟨_, rfl⟩
    rw [← g_x] at A23 D23 st23
    have K23 := (Keep.refl h0 ([] : List Addr)).ext E23
    have b_x : h0.size ≤ x := (Nat.le_of_eq g_x.symm)
    have gn_x : n0 ≤ x := Nat.le_trans Z0 b_x
    have s0_x : h0.size ≤ x := Nat.le_trans KK0.1 b_x
    have KK1 : Keep h0 h23 ([] : List Addr) := KK0.trans K23 all0
    have Zs1 : n0 ≤ h23.size := Nat.le_trans Z0 K23.1
    have F_value_x : Fld Z h23 x "java/lang/String" "value" "[B" .null := D23 (Or.inr w_34) (ty := (.array .byte)) (by decide)
    have F_coder_x : Fld Z h23 x "java/lang/String" "coder" "B" (.int (0 : Int32)) := D23 (Or.inr w_32) (ty := .byte) (by decide)
    have cc24 : Steps p.tables e below S0' (T23.setTop (mkF m 96 #[.val (.int p1), .val (.int p2), .val (.int p3), .val (.int p4), .val (.int p5), .val (.int ((p1 &&& (3 : Int32)) + (1 : Int32))), .val (.int ((p2 &&& (65535 : Int32)).toUInt32.toUInt16.toUInt32.toInt32)), .val (.int ((p3 &&& (65535 : Int32)).toUInt32.toUInt16.toUInt32.toInt32)), .val (.int ((p4 &&& (65535 : Int32)).toUInt32.toUInt16.toUInt32.toInt32)), .val (.int ((p5 &&& (65535 : Int32)).toUInt32.toUInt16.toUInt32.toInt32))] [(.int 3), (.ref x), (.ref x)])) := Steps.trans (cc22.trans (st23 _ (Steps.refl _))) (by
      refine XS.dup X23.here hx rfl (own_d hby d0_94) rfl rfl ?_
      refine iconstV X23.here hx rfl 3 (own_d hby d0_95) (by decide) ?_
      exact Steps.refl _)
    obtain ⟨T25, h25, k25, X25, e25, E25, A25, st25⟩ := newP X23 hx hZ (aty := .char) w_8 e23 (g := (mkF m 96 #[.val (.int p1), .val (.int p2), .val (.int p3), .val (.int p4), .val (.int p5), .val (.int ((p1 &&& (3 : Int32)) + (1 : Int32))), .val (.int ((p2 &&& (65535 : Int32)).toUInt32.toUInt16.toUInt32.toInt32)), .val (.int ((p3 &&& (65535 : Int32)).toUInt32.toUInt16.toUInt32.toInt32)), .val (.int ((p4 &&& (65535 : Int32)).toUInt32.toUInt16.toUInt32.toInt32)), .val (.int ((p5 &&& (65535 : Int32)).toUInt32.toUInt16.toUInt32.toInt32))] [(.int 3), (.ref x), (.ref x)])) rfl (own_d hby d0_96) rfl (by decide) (cap := 3) (by decide) (by decide) (by decide) (by decide)
    obtain ⟨b, g_b⟩ : ∃ z, z = h23.size := ⟨_, rfl⟩
    rw [← g_b] at A25 st25
    have K25 := (Keep.refl h23 ([] : List Addr)).ext E25
    have b_b : h23.size ≤ b := (Nat.le_of_eq g_b.symm)
    have gn_b : n0 ≤ b := Nat.le_trans Zs1 b_b
    have s0_b : h0.size ≤ b := Nat.le_trans KK1.1 b_b
    have ne_x_b : x ≠ b := Nat.ne_of_lt (Nat.lt_of_lt_of_le A23.lt b_b)
    have KK2 : Keep h0 h25 ([] : List Addr) := KK1.trans K25 all0
    have Zs2 : n0 ≤ h25.size := Nat.le_trans Zs1 K25.1
    have V_b : Arv Z h25 b k25 .char (3 : Int32) [(.int (0 : Int32)), (.int (0 : Int32)), (.int (0 : Int32))] (.int (0 : Int32)) := (Arv.new A25 (by decide)).pad (pad_rep [] (.int (0 : Int32)) 3)
    have cc26 : Steps p.tables e below S0' (T25.setTop (mkF m 102 #[.val (.int p1), .val (.int p2), .val (.int p3), .val (.int p4), .val (.int p5), .val (.int ((p1 &&& (3 : Int32)) + (1 : Int32))), .val (.int ((p2 &&& (65535 : Int32)).toUInt32.toUInt16.toUInt32.toInt32)), .val (.int ((p3 &&& (65535 : Int32)).toUInt32.toUInt16.toUInt32.toInt32)), .val (.int ((p4 &&& (65535 : Int32)).toUInt32.toUInt16.toUInt32.toInt32)), .val (.int ((p5 &&& (65535 : Int32)).toUInt32.toUInt16.toUInt32.toInt32))] [(.int ((p2 &&& (65535 : Int32)).toUInt32.toUInt16.toUInt32.toInt32)), (.int 0), (.ref b), (.ref b), (.ref x), (.ref x)])) := Steps.trans (cc24.trans (st25 _ (Steps.refl _))) (by
      refine XS.dup X25.here hx rfl (own_d hby d0_98) rfl rfl ?_
      refine iconstV X25.here hx rfl 0 (own_d hby d0_99) (by decide) ?_
      refine XS.iload X25.here hx rfl (own_d hby d0_100) rfl ?_
      exact Steps.refl _)
    obtain ⟨clu27, Aru27, qu27, Su27, Ngu27, Hsu27, Gsu27⟩ := id V_b
    have inu27 : ¬ ((0 : Int32) < 0 ∨ clu27.slots.size ≤ (0 : Int32).toNatClampNeg) := inb_of Su27 ⟨by decide, by decide⟩
    obtain ⟨T28, h28, X28, e28, W28, st28⟩ := stC X25 hx hZ e25 Aru27 (j := (0 : Int32)) inu27 (g := (mkF m 102 #[.val (.int p1), .val (.int p2), .val (.int p3), .val (.int p4), .val (.int p5), .val (.int ((p1 &&& (3 : Int32)) + (1 : Int32))), .val (.int ((p2 &&& (65535 : Int32)).toUInt32.toUInt16.toUInt32.toInt32)), .val (.int ((p3 &&& (65535 : Int32)).toUInt32.toUInt16.toUInt32.toInt32)), .val (.int ((p4 &&& (65535 : Int32)).toUInt32.toUInt16.toUInt32.toInt32)), .val (.int ((p5 &&& (65535 : Int32)).toUInt32.toUInt16.toUInt32.toInt32))] [(.int ((p2 &&& (65535 : Int32)).toUInt32.toUInt16.toUInt32.toInt32)), (.int 0), (.ref b), (.ref b), (.ref x), (.ref x)])) rfl rfl (own_d hby d0_102)
    have K28 := Keep.of_wr W28
    have N28 := Fr.snoc X28 N0 gn_b
    have KK3 : Keep h0 h28 ([] : List Addr) := KK2.trans K28 (allS (Or.inr s0_b) all0)
    have Zs3 : n0 ≤ h28.size := Nat.le_trans Zs2 K28.1
    have V28 : Arv Z h28 b k25 .char (3 : Int32) ([(.int (nar .char ((p2 &&& (65535 : Int32)).toUInt32.toUInt16.toUInt32.toInt32))), (.int (0 : Int32)), (.int (0 : Int32))]) (.int (0 : Int32)) := Arv.set Aru27 qu27 Su27 Ngu27 Hsu27 Gsu27 (fits_nar_char _) W28 0 rfl (Nat.le_of_ble_eq_true rfl)
    have cc29 : Steps p.tables e below S0' (T28.setTop (mkF m 107 #[.val (.int p1), .val (.int p2), .val (.int p3), .val (.int p4), .val (.int p5), .val (.int ((p1 &&& (3 : Int32)) + (1 : Int32))), .val (.int ((p2 &&& (65535 : Int32)).toUInt32.toUInt16.toUInt32.toInt32)), .val (.int ((p3 &&& (65535 : Int32)).toUInt32.toUInt16.toUInt32.toInt32)), .val (.int ((p4 &&& (65535 : Int32)).toUInt32.toUInt16.toUInt32.toInt32)), .val (.int ((p5 &&& (65535 : Int32)).toUInt32.toUInt16.toUInt32.toInt32))] [(.int ((p3 &&& (65535 : Int32)).toUInt32.toUInt16.toUInt32.toInt32)), (.int 1), (.ref b), (.ref b), (.ref x), (.ref x)])) := Steps.trans (cc26.trans (st28 _ (Steps.refl _))) (by
      refine XS.dup X28.here hx rfl (own_d hby d0_103) rfl rfl ?_
      refine iconstV X28.here hx rfl 1 (own_d hby d0_104) (by decide) ?_
      refine XS.iload X28.here hx rfl (own_d hby d0_105) rfl ?_
      exact Steps.refl _)
    obtain ⟨clu30, Aru30, qu30, Su30, Ngu30, Hsu30, Gsu30⟩ := id V28
    have inu30 : ¬ ((1 : Int32) < 0 ∨ clu30.slots.size ≤ (1 : Int32).toNatClampNeg) := inb_of Su30 ⟨by decide, by decide⟩
    obtain ⟨T31, h31, X31, e31, W31, st31⟩ := stC X28 hx hZ e28 Aru30 (j := (1 : Int32)) inu30 (g := (mkF m 107 #[.val (.int p1), .val (.int p2), .val (.int p3), .val (.int p4), .val (.int p5), .val (.int ((p1 &&& (3 : Int32)) + (1 : Int32))), .val (.int ((p2 &&& (65535 : Int32)).toUInt32.toUInt16.toUInt32.toInt32)), .val (.int ((p3 &&& (65535 : Int32)).toUInt32.toUInt16.toUInt32.toInt32)), .val (.int ((p4 &&& (65535 : Int32)).toUInt32.toUInt16.toUInt32.toInt32)), .val (.int ((p5 &&& (65535 : Int32)).toUInt32.toUInt16.toUInt32.toInt32))] [(.int ((p3 &&& (65535 : Int32)).toUInt32.toUInt16.toUInt32.toInt32)), (.int 1), (.ref b), (.ref b), (.ref x), (.ref x)])) rfl rfl (own_d hby d0_107)
    have K31 := Keep.of_wr W31
    have N31 := Fr.snoc X31 N28 gn_b
    have KK4 : Keep h0 h31 ([] : List Addr) := KK3.trans K31 (allS (Or.inr s0_b) all0)
    have Zs4 : n0 ≤ h31.size := Nat.le_trans Zs3 K31.1
    have V31 : Arv Z h31 b k25 .char (3 : Int32) ([(.int (nar .char ((p2 &&& (65535 : Int32)).toUInt32.toUInt16.toUInt32.toInt32))), (.int (nar .char ((p3 &&& (65535 : Int32)).toUInt32.toUInt16.toUInt32.toInt32))), (.int (0 : Int32))]) (.int (0 : Int32)) := Arv.set Aru30 qu30 Su30 Ngu30 Hsu30 Gsu30 (fits_nar_char _) W31 1 rfl (Nat.le_of_ble_eq_true rfl)
    have cc32 : Steps p.tables e below S0' (T31.setTop (mkF m 112 #[.val (.int p1), .val (.int p2), .val (.int p3), .val (.int p4), .val (.int p5), .val (.int ((p1 &&& (3 : Int32)) + (1 : Int32))), .val (.int ((p2 &&& (65535 : Int32)).toUInt32.toUInt16.toUInt32.toInt32)), .val (.int ((p3 &&& (65535 : Int32)).toUInt32.toUInt16.toUInt32.toInt32)), .val (.int ((p4 &&& (65535 : Int32)).toUInt32.toUInt16.toUInt32.toInt32)), .val (.int ((p5 &&& (65535 : Int32)).toUInt32.toUInt16.toUInt32.toInt32))] [(.int ((p4 &&& (65535 : Int32)).toUInt32.toUInt16.toUInt32.toInt32)), (.int 2), (.ref b), (.ref b), (.ref x), (.ref x)])) := Steps.trans (cc29.trans (st31 _ (Steps.refl _))) (by
      refine XS.dup X31.here hx rfl (own_d hby d0_108) rfl rfl ?_
      refine iconstV X31.here hx rfl 2 (own_d hby d0_109) (by decide) ?_
      refine XS.iload X31.here hx rfl (own_d hby d0_110) rfl ?_
      exact Steps.refl _)
    obtain ⟨clu33, Aru33, qu33, Su33, Ngu33, Hsu33, Gsu33⟩ := id V31
    have inu33 : ¬ ((2 : Int32) < 0 ∨ clu33.slots.size ≤ (2 : Int32).toNatClampNeg) := inb_of Su33 ⟨by decide, by decide⟩
    obtain ⟨T34, h34, X34, e34, W34, st34⟩ := stC X31 hx hZ e31 Aru33 (j := (2 : Int32)) inu33 (g := (mkF m 112 #[.val (.int p1), .val (.int p2), .val (.int p3), .val (.int p4), .val (.int p5), .val (.int ((p1 &&& (3 : Int32)) + (1 : Int32))), .val (.int ((p2 &&& (65535 : Int32)).toUInt32.toUInt16.toUInt32.toInt32)), .val (.int ((p3 &&& (65535 : Int32)).toUInt32.toUInt16.toUInt32.toInt32)), .val (.int ((p4 &&& (65535 : Int32)).toUInt32.toUInt16.toUInt32.toInt32)), .val (.int ((p5 &&& (65535 : Int32)).toUInt32.toUInt16.toUInt32.toInt32))] [(.int ((p4 &&& (65535 : Int32)).toUInt32.toUInt16.toUInt32.toInt32)), (.int 2), (.ref b), (.ref b), (.ref x), (.ref x)])) rfl rfl (own_d hby d0_112)
    have K34 := Keep.of_wr W34
    have N34 := Fr.snoc X34 N31 gn_b
    have KK5 : Keep h0 h34 ([] : List Addr) := KK4.trans K34 (allS (Or.inr s0_b) all0)
    have Zs5 : n0 ≤ h34.size := Nat.le_trans Zs4 K34.1
    have V34 : Arv Z h34 b k25 .char (3 : Int32) ([(.int (nar .char ((p2 &&& (65535 : Int32)).toUInt32.toUInt16.toUInt32.toInt32))), (.int (nar .char ((p3 &&& (65535 : Int32)).toUInt32.toUInt16.toUInt32.toInt32))), (.int (nar .char ((p4 &&& (65535 : Int32)).toUInt32.toUInt16.toUInt32.toInt32)))]) (.int (0 : Int32)) := Arv.set Aru33 qu33 Su33 Ngu33 Hsu33 Gsu33 (fits_nar_char _) W34 2 rfl (Nat.le_of_ble_eq_true rfl)
    have cc36 : Steps p.tables e below S0' (T34.setTop (mkF m 113 #[.val (.int p1), .val (.int p2), .val (.int p3), .val (.int p4), .val (.int p5), .val (.int ((p1 &&& (3 : Int32)) + (1 : Int32))), .val (.int ((p2 &&& (65535 : Int32)).toUInt32.toUInt16.toUInt32.toInt32)), .val (.int ((p3 &&& (65535 : Int32)).toUInt32.toUInt16.toUInt32.toInt32)), .val (.int ((p4 &&& (65535 : Int32)).toUInt32.toUInt16.toUInt32.toInt32)), .val (.int ((p5 &&& (65535 : Int32)).toUInt32.toUInt16.toUInt32.toInt32))] [(.ref b), (.ref x), (.ref x)])) := (cc32.trans (st34 _ (Steps.refl _)))
    have fa35 : Exa Z h34 x "java/lang/String" := ((((A23.keep K25).keep K28).keep K31).keep K34)
    have fa37 : Fld Z h34 x "java/lang/String" "value" "[B" .null := ((((F_value_x.keep K25 nin0).keep K28 (ninS ne_x_b nin0)).keep K31 (ninS ne_x_b nin0)).keep K34 (ninS ne_x_b nin0))
    have fa38 : Fld Z h34 x "java/lang/String" "coder" "B" (.int (0 : Int32)) := ((((F_coder_x.keep K25 nin0).keep K28 (ninS ne_x_b nin0)).keep K31 (ninS ne_x_b nin0)).keep K34 (ninS ne_x_b nin0))
    have fa39 : Old Z n0 h34 := (((((X00.keep K23 all0).keep K25 all0).keep K28 (allS gn_b all0)).keep K31 (allS gn_b all0)).keep K34 (allS gn_b all0))
    have hp : ∀ c ∈ ([nar .char ((p2 &&& (65535 : Int32)).toUInt32.toUInt16.toUInt32.toInt32), nar .char ((p3 &&& (65535 : Int32)).toUInt32.toUInt16.toUInt32.toInt32), nar .char ((p4 &&& (65535 : Int32)).toUInt32.toUInt16.toUInt32.toInt32)] : List Int32), ¬ c < 0 ∧ ¬ (65535 : Int32) < c := by
      intro c hc
      simp only [List.mem_cons, List.not_mem_nil, or_false] at hc
      rcases hc with rfl | rfl | rfl <;> exact own_char _
    obtain ⟨_, _, ⟨T40, L40, k40, n40⟩, -, X40, ⟨Lc40, hQ40, l40, y40, z40⟩, st40⟩ := X34.specialBack hx (y := (⟨"java/lang/String", "<init>", "([C)V"⟩ : MethodName)) rfl hown (mvT hZ w_9) (mvT hZ w_10) (mvT hZ w_11) (by decide) (StrChars.Road.backT (W := 1) hZ hws hww (kI := 4) w_6 (cs := ([nar .char ((p2 &&& (65535 : Int32)).toUInt32.toUInt16.toUInt32.toInt32), nar .char ((p3 &&& (65535 : Int32)).toUInt32.toUInt16.toUInt32.toInt32), nar .char ((p4 &&& (65535 : Int32)).toUInt32.toUInt16.toUInt32.toInt32)] : List Int32)) (n := 3) gn_x Zs5 fa35 fa37 fa38 V34 (O2.ext fa39.2) P5 (O3.ext fa39.2) rfl rfl (by decide) (by decide) (fun c hc => (hp c hc).1) (by decide) (by decide)) (g := (mkF m 113 #[.val (.int p1), .val (.int p2), .val (.int p3), .val (.int p4), .val (.int p5), .val (.int ((p1 &&& (3 : Int32)) + (1 : Int32))), .val (.int ((p2 &&& (65535 : Int32)).toUInt32.toUInt16.toUInt32.toInt32)), .val (.int ((p3 &&& (65535 : Int32)).toUInt32.toUInt16.toUInt32.toInt32)), .val (.int ((p4 &&& (65535 : Int32)).toUInt32.toUInt16.toUInt32.toInt32)), .val (.int ((p5 &&& (65535 : Int32)).toUInt32.toUInt16.toUInt32.toInt32))] [(.ref b), (.ref x), (.ref x)])) rfl (by rw [hml]; rfl) (Steps.refl _) (a := x) (argsL := [(.ref b)]) (rest := [(.ref x)]) (lenOf own_pd0 rfl) rfl (by show 2 * 0 + _ ≤ _; exact Nat.le_of_eq rfl) (own_d hby d0_113) (fun _ _ => ⟨rfl, e34, Nat.le_of_ble_eq_true rfl, Nat.le_of_ble_eq_true rfl⟩)
    dsimp only [Pt.U, Pt.locs, Pt.cells, Pt.slots] at X40 l40 y40 z40 st40 hQ40
    subst l40 y40 z40
    obtain ⟨rfl, Nq40, Kq40, Eq40, cd, N2, vs, t, kb, hcd, Cq40, g140, g240, g340, Vq40, Aq40⟩ := hQ40
    have N40 := Fr.app N34 Nq40
    have KK6 : Keep h0 T40.heap ([] : List Addr) := KK5.trans Kq40 (allS (Or.inr s0_x) all0)
    have Zs6 : n0 ≤ T40.heap.size := Nat.le_trans Zs5 Kq40.1
    have e40 : T40.heap = T40.heap := rfl
    have cc41 : Steps p.tables e below S0' (T40.setTop (mkF m 116 #[.val (.int p1), .val (.int p2), .val (.int p3), .val (.int p4), .val (.int p5), .val (.int ((p1 &&& (3 : Int32)) + (1 : Int32))), .val (.int ((p2 &&& (65535 : Int32)).toUInt32.toUInt16.toUInt32.toInt32)), .val (.int ((p3 &&& (65535 : Int32)).toUInt32.toUInt16.toUInt32.toInt32)), .val (.int ((p4 &&& (65535 : Int32)).toUInt32.toUInt16.toUInt32.toInt32)), .val (.int ((p5 &&& (65535 : Int32)).toUInt32.toUInt16.toUInt32.toInt32))] [(.ref x)])) := (Steps.trans cc36 st40)
    have cE := cc41
    rw [hS0'] at cE
    obtain ⟨fs, hr_, hrun, hended, hW, hsame⟩ := X40.leave (v := some (.ref x)) (fun h => by rw [Bd.returns] at h; cases h)
    refine ⟨_, _, cE.trans (X40.areturnOut hx (rfl) Bd.returns rfl (own_d hby d0_116) hr_), hrun, hended, _, _, rfl, ?_, ⟨_, rfl⟩, hW, hsame.mono (by first | decide | omega) (by first | decide | omega)⟩
    show Q_own_draw Z p1 p2 p3 p4 p5 z h0 n0 _ T40.heap _
    rw [e40]
    exact ⟨x, ([nar .char ((p2 &&& (65535 : Int32)).toUInt32.toUInt16.toUInt32.toInt32), nar .char ((p3 &&& (65535 : Int32)).toUInt32.toUInt16.toUInt32.toInt32), nar .char ((p4 &&& (65535 : Int32)).toUInt32.toUInt16.toUInt32.toInt32)] : List Int32), rfl, N40, KK6, ⟨Eq40, cd, N2, vs, t, kb, hcd, Cq40, Vq40, Aq40, hp⟩, hl.symm, by simp, by simp⟩
  · skip
    have cc22 : Steps p.tables e below S0' (s₁.setTop (mkF m 117 #[.val (.int p1), .val (.int p2), .val (.int p3), .val (.int p4), .val (.int p5), .val (.int ((p1 &&& (3 : Int32)) + (1 : Int32))), .val (.int ((p2 &&& (65535 : Int32)).toUInt32.toUInt16.toUInt32.toInt32)), .val (.int ((p3 &&& (65535 : Int32)).toUInt32.toUInt16.toUInt32.toInt32)), .val (.int ((p4 &&& (65535 : Int32)).toUInt32.toUInt16.toUInt32.toInt32)), .val (.int ((p5 &&& (65535 : Int32)).toUInt32.toUInt16.toUInt32.toInt32))] [])) := Steps.trans cc21 (by
      refine XS.icmpYes X0.here hx rfl (pc0 := 39) rfl (own_d hby d0_39) rfl (ii_ne_t (by rw [hl]; decide)) (by decide) rfl ?_
      refine XS.iload X0.here hx rfl (own_d hby d0_58) rfl ?_
      refine iconstV X0.here hx rfl 2 (own_d hby d0_60) (by decide) ?_
      refine XS.icmpYes X0.here hx rfl (pc0 := 61) rfl (own_d hby d0_61) rfl (ii_ne_t (by rw [hl]; decide)) (by decide) rfl ?_
      refine XS.iload X0.here hx rfl (own_d hby d0_85) rfl ?_
      refine iconstV X0.here hx rfl 3 (own_d hby d0_87) (by decide) ?_
      refine XS.icmpYes X0.here hx rfl (pc0 := 88) rfl (own_d hby d0_88) rfl (ii_ne_t (by rw [hl]; decide)) (by decide) rfl ?_
      exact Steps.refl _)
    obtain ⟨T23, h23, X23, e23, E23, A23, D23, -, st23⟩ := newO X0 hx hZ hown w_5 w_6 w_7 e0 (g := (mkF m 117 #[.val (.int p1), .val (.int p2), .val (.int p3), .val (.int p4), .val (.int p5), .val (.int ((p1 &&& (3 : Int32)) + (1 : Int32))), .val (.int ((p2 &&& (65535 : Int32)).toUInt32.toUInt16.toUInt32.toInt32)), .val (.int ((p3 &&& (65535 : Int32)).toUInt32.toUInt16.toUInt32.toInt32)), .val (.int ((p4 &&& (65535 : Int32)).toUInt32.toUInt16.toUInt32.toInt32)), .val (.int ((p5 &&& (65535 : Int32)).toUInt32.toUInt16.toUInt32.toInt32))] [])) rfl (own_d hby d0_117) (by decide) (by decide)
    obtain ⟨x, g_x⟩ : ∃ z, z = h0.size := ⟨_, rfl⟩
    rw [← g_x] at A23 D23 st23
    have K23 := (Keep.refl h0 ([] : List Addr)).ext E23
    have b_x : h0.size ≤ x := (Nat.le_of_eq g_x.symm)
    have gn_x : n0 ≤ x := Nat.le_trans Z0 b_x
    have s0_x : h0.size ≤ x := Nat.le_trans KK0.1 b_x
    have KK1 : Keep h0 h23 ([] : List Addr) := KK0.trans K23 all0
    have Zs1 : n0 ≤ h23.size := Nat.le_trans Z0 K23.1
    have F_value_x : Fld Z h23 x "java/lang/String" "value" "[B" .null := D23 (Or.inr w_34) (ty := (.array .byte)) (by decide)
    have F_coder_x : Fld Z h23 x "java/lang/String" "coder" "B" (.int (0 : Int32)) := D23 (Or.inr w_32) (ty := .byte) (by decide)
    have cc24 : Steps p.tables e below S0' (T23.setTop (mkF m 122 #[.val (.int p1), .val (.int p2), .val (.int p3), .val (.int p4), .val (.int p5), .val (.int ((p1 &&& (3 : Int32)) + (1 : Int32))), .val (.int ((p2 &&& (65535 : Int32)).toUInt32.toUInt16.toUInt32.toInt32)), .val (.int ((p3 &&& (65535 : Int32)).toUInt32.toUInt16.toUInt32.toInt32)), .val (.int ((p4 &&& (65535 : Int32)).toUInt32.toUInt16.toUInt32.toInt32)), .val (.int ((p5 &&& (65535 : Int32)).toUInt32.toUInt16.toUInt32.toInt32))] [(.int 4), (.ref x), (.ref x)])) := Steps.trans (cc22.trans (st23 _ (Steps.refl _))) (by
      refine XS.dup X23.here hx rfl (own_d hby d0_120) rfl rfl ?_
      refine iconstV X23.here hx rfl 4 (own_d hby d0_121) (by decide) ?_
      exact Steps.refl _)
    obtain ⟨T25, h25, k25, X25, e25, E25, A25, st25⟩ := newP X23 hx hZ (aty := .char) w_8 e23 (g := (mkF m 122 #[.val (.int p1), .val (.int p2), .val (.int p3), .val (.int p4), .val (.int p5), .val (.int ((p1 &&& (3 : Int32)) + (1 : Int32))), .val (.int ((p2 &&& (65535 : Int32)).toUInt32.toUInt16.toUInt32.toInt32)), .val (.int ((p3 &&& (65535 : Int32)).toUInt32.toUInt16.toUInt32.toInt32)), .val (.int ((p4 &&& (65535 : Int32)).toUInt32.toUInt16.toUInt32.toInt32)), .val (.int ((p5 &&& (65535 : Int32)).toUInt32.toUInt16.toUInt32.toInt32))] [(.int 4), (.ref x), (.ref x)])) rfl (own_d hby d0_122) rfl (by decide) (cap := 4) (by decide) (by decide) (by decide) (by decide)
    obtain ⟨b, g_b⟩ : ∃ z, z = h23.size := ⟨_, rfl⟩
    rw [← g_b] at A25 st25
    have K25 := (Keep.refl h23 ([] : List Addr)).ext E25
    have b_b : h23.size ≤ b := (Nat.le_of_eq g_b.symm)
    have gn_b : n0 ≤ b := Nat.le_trans Zs1 b_b
    have s0_b : h0.size ≤ b := Nat.le_trans KK1.1 b_b
    have ne_x_b : x ≠ b := Nat.ne_of_lt (Nat.lt_of_lt_of_le A23.lt b_b)
    have KK2 : Keep h0 h25 ([] : List Addr) := KK1.trans K25 all0
    have Zs2 : n0 ≤ h25.size := Nat.le_trans Zs1 K25.1
    have V_b : Arv Z h25 b k25 .char (4 : Int32) [(.int (0 : Int32)), (.int (0 : Int32)), (.int (0 : Int32)), (.int (0 : Int32))] (.int (0 : Int32)) := (Arv.new A25 (by decide)).pad (pad_rep [] (.int (0 : Int32)) 4)
    have cc26 : Steps p.tables e below S0' (T25.setTop (mkF m 128 #[.val (.int p1), .val (.int p2), .val (.int p3), .val (.int p4), .val (.int p5), .val (.int ((p1 &&& (3 : Int32)) + (1 : Int32))), .val (.int ((p2 &&& (65535 : Int32)).toUInt32.toUInt16.toUInt32.toInt32)), .val (.int ((p3 &&& (65535 : Int32)).toUInt32.toUInt16.toUInt32.toInt32)), .val (.int ((p4 &&& (65535 : Int32)).toUInt32.toUInt16.toUInt32.toInt32)), .val (.int ((p5 &&& (65535 : Int32)).toUInt32.toUInt16.toUInt32.toInt32))] [(.int ((p2 &&& (65535 : Int32)).toUInt32.toUInt16.toUInt32.toInt32)), (.int 0), (.ref b), (.ref b), (.ref x), (.ref x)])) := Steps.trans (cc24.trans (st25 _ (Steps.refl _))) (by
      refine XS.dup X25.here hx rfl (own_d hby d0_124) rfl rfl ?_
      refine iconstV X25.here hx rfl 0 (own_d hby d0_125) (by decide) ?_
      refine XS.iload X25.here hx rfl (own_d hby d0_126) rfl ?_
      exact Steps.refl _)
    obtain ⟨clu27, Aru27, qu27, Su27, Ngu27, Hsu27, Gsu27⟩ := id V_b
    have inu27 : ¬ ((0 : Int32) < 0 ∨ clu27.slots.size ≤ (0 : Int32).toNatClampNeg) := inb_of Su27 ⟨by decide, by decide⟩
    obtain ⟨T28, h28, X28, e28, W28, st28⟩ := stC X25 hx hZ e25 Aru27 (j := (0 : Int32)) inu27 (g := (mkF m 128 #[.val (.int p1), .val (.int p2), .val (.int p3), .val (.int p4), .val (.int p5), .val (.int ((p1 &&& (3 : Int32)) + (1 : Int32))), .val (.int ((p2 &&& (65535 : Int32)).toUInt32.toUInt16.toUInt32.toInt32)), .val (.int ((p3 &&& (65535 : Int32)).toUInt32.toUInt16.toUInt32.toInt32)), .val (.int ((p4 &&& (65535 : Int32)).toUInt32.toUInt16.toUInt32.toInt32)), .val (.int ((p5 &&& (65535 : Int32)).toUInt32.toUInt16.toUInt32.toInt32))] [(.int ((p2 &&& (65535 : Int32)).toUInt32.toUInt16.toUInt32.toInt32)), (.int 0), (.ref b), (.ref b), (.ref x), (.ref x)])) rfl rfl (own_d hby d0_128)
    have K28 := Keep.of_wr W28
    have N28 := Fr.snoc X28 N0 gn_b
    have KK3 : Keep h0 h28 ([] : List Addr) := KK2.trans K28 (allS (Or.inr s0_b) all0)
    have Zs3 : n0 ≤ h28.size := Nat.le_trans Zs2 K28.1
    have V28 : Arv Z h28 b k25 .char (4 : Int32) ([(.int (nar .char ((p2 &&& (65535 : Int32)).toUInt32.toUInt16.toUInt32.toInt32))), (.int (0 : Int32)), (.int (0 : Int32)), (.int (0 : Int32))]) (.int (0 : Int32)) := Arv.set Aru27 qu27 Su27 Ngu27 Hsu27 Gsu27 (fits_nar_char _) W28 0 rfl (Nat.le_of_ble_eq_true rfl)
    have cc29 : Steps p.tables e below S0' (T28.setTop (mkF m 133 #[.val (.int p1), .val (.int p2), .val (.int p3), .val (.int p4), .val (.int p5), .val (.int ((p1 &&& (3 : Int32)) + (1 : Int32))), .val (.int ((p2 &&& (65535 : Int32)).toUInt32.toUInt16.toUInt32.toInt32)), .val (.int ((p3 &&& (65535 : Int32)).toUInt32.toUInt16.toUInt32.toInt32)), .val (.int ((p4 &&& (65535 : Int32)).toUInt32.toUInt16.toUInt32.toInt32)), .val (.int ((p5 &&& (65535 : Int32)).toUInt32.toUInt16.toUInt32.toInt32))] [(.int ((p3 &&& (65535 : Int32)).toUInt32.toUInt16.toUInt32.toInt32)), (.int 1), (.ref b), (.ref b), (.ref x), (.ref x)])) := Steps.trans (cc26.trans (st28 _ (Steps.refl _))) (by
      refine XS.dup X28.here hx rfl (own_d hby d0_129) rfl rfl ?_
      refine iconstV X28.here hx rfl 1 (own_d hby d0_130) (by decide) ?_
      refine XS.iload X28.here hx rfl (own_d hby d0_131) rfl ?_
      exact Steps.refl _)
    obtain ⟨clu30, Aru30, qu30, Su30, Ngu30, Hsu30, Gsu30⟩ := id V28
    have inu30 : ¬ ((1 : Int32) < 0 ∨ clu30.slots.size ≤ (1 : Int32).toNatClampNeg) := inb_of Su30 ⟨by decide, by decide⟩
    obtain ⟨T31, h31, X31, e31, W31, st31⟩ := stC X28 hx hZ e28 Aru30 (j := (1 : Int32)) inu30 (g := (mkF m 133 #[.val (.int p1), .val (.int p2), .val (.int p3), .val (.int p4), .val (.int p5), .val (.int ((p1 &&& (3 : Int32)) + (1 : Int32))), .val (.int ((p2 &&& (65535 : Int32)).toUInt32.toUInt16.toUInt32.toInt32)), .val (.int ((p3 &&& (65535 : Int32)).toUInt32.toUInt16.toUInt32.toInt32)), .val (.int ((p4 &&& (65535 : Int32)).toUInt32.toUInt16.toUInt32.toInt32)), .val (.int ((p5 &&& (65535 : Int32)).toUInt32.toUInt16.toUInt32.toInt32))] [(.int ((p3 &&& (65535 : Int32)).toUInt32.toUInt16.toUInt32.toInt32)), (.int 1), (.ref b), (.ref b), (.ref x), (.ref x)])) rfl rfl (own_d hby d0_133)
    have K31 := Keep.of_wr W31
    have N31 := Fr.snoc X31 N28 gn_b
    have KK4 : Keep h0 h31 ([] : List Addr) := KK3.trans K31 (allS (Or.inr s0_b) all0)
    have Zs4 : n0 ≤ h31.size := Nat.le_trans Zs3 K31.1
    have V31 : Arv Z h31 b k25 .char (4 : Int32) ([(.int (nar .char ((p2 &&& (65535 : Int32)).toUInt32.toUInt16.toUInt32.toInt32))), (.int (nar .char ((p3 &&& (65535 : Int32)).toUInt32.toUInt16.toUInt32.toInt32))), (.int (0 : Int32)), (.int (0 : Int32))]) (.int (0 : Int32)) := Arv.set Aru30 qu30 Su30 Ngu30 Hsu30 Gsu30 (fits_nar_char _) W31 1 rfl (Nat.le_of_ble_eq_true rfl)
    have cc32 : Steps p.tables e below S0' (T31.setTop (mkF m 138 #[.val (.int p1), .val (.int p2), .val (.int p3), .val (.int p4), .val (.int p5), .val (.int ((p1 &&& (3 : Int32)) + (1 : Int32))), .val (.int ((p2 &&& (65535 : Int32)).toUInt32.toUInt16.toUInt32.toInt32)), .val (.int ((p3 &&& (65535 : Int32)).toUInt32.toUInt16.toUInt32.toInt32)), .val (.int ((p4 &&& (65535 : Int32)).toUInt32.toUInt16.toUInt32.toInt32)), .val (.int ((p5 &&& (65535 : Int32)).toUInt32.toUInt16.toUInt32.toInt32))] [(.int ((p4 &&& (65535 : Int32)).toUInt32.toUInt16.toUInt32.toInt32)), (.int 2), (.ref b), (.ref b), (.ref x), (.ref x)])) := Steps.trans (cc29.trans (st31 _ (Steps.refl _))) (by
      refine XS.dup X31.here hx rfl (own_d hby d0_134) rfl rfl ?_
      refine iconstV X31.here hx rfl 2 (own_d hby d0_135) (by decide) ?_
      refine XS.iload X31.here hx rfl (own_d hby d0_136) rfl ?_
      exact Steps.refl _)
    obtain ⟨clu33, Aru33, qu33, Su33, Ngu33, Hsu33, Gsu33⟩ := id V31
    have inu33 : ¬ ((2 : Int32) < 0 ∨ clu33.slots.size ≤ (2 : Int32).toNatClampNeg) := inb_of Su33 ⟨by decide, by decide⟩
    obtain ⟨T34, h34, X34, e34, W34, st34⟩ := stC X31 hx hZ e31 Aru33 (j := (2 : Int32)) inu33 (g := (mkF m 138 #[.val (.int p1), .val (.int p2), .val (.int p3), .val (.int p4), .val (.int p5), .val (.int ((p1 &&& (3 : Int32)) + (1 : Int32))), .val (.int ((p2 &&& (65535 : Int32)).toUInt32.toUInt16.toUInt32.toInt32)), .val (.int ((p3 &&& (65535 : Int32)).toUInt32.toUInt16.toUInt32.toInt32)), .val (.int ((p4 &&& (65535 : Int32)).toUInt32.toUInt16.toUInt32.toInt32)), .val (.int ((p5 &&& (65535 : Int32)).toUInt32.toUInt16.toUInt32.toInt32))] [(.int ((p4 &&& (65535 : Int32)).toUInt32.toUInt16.toUInt32.toInt32)), (.int 2), (.ref b), (.ref b), (.ref x), (.ref x)])) rfl rfl (own_d hby d0_138)
    have K34 := Keep.of_wr W34
    have N34 := Fr.snoc X34 N31 gn_b
    have KK5 : Keep h0 h34 ([] : List Addr) := KK4.trans K34 (allS (Or.inr s0_b) all0)
    have Zs5 : n0 ≤ h34.size := Nat.le_trans Zs4 K34.1
    have V34 : Arv Z h34 b k25 .char (4 : Int32) ([(.int (nar .char ((p2 &&& (65535 : Int32)).toUInt32.toUInt16.toUInt32.toInt32))), (.int (nar .char ((p3 &&& (65535 : Int32)).toUInt32.toUInt16.toUInt32.toInt32))), (.int (nar .char ((p4 &&& (65535 : Int32)).toUInt32.toUInt16.toUInt32.toInt32))), (.int (0 : Int32))]) (.int (0 : Int32)) := Arv.set Aru33 qu33 Su33 Ngu33 Hsu33 Gsu33 (fits_nar_char _) W34 2 rfl (Nat.le_of_ble_eq_true rfl)
    have cc35 : Steps p.tables e below S0' (T34.setTop (mkF m 143 #[.val (.int p1), .val (.int p2), .val (.int p3), .val (.int p4), .val (.int p5), .val (.int ((p1 &&& (3 : Int32)) + (1 : Int32))), .val (.int ((p2 &&& (65535 : Int32)).toUInt32.toUInt16.toUInt32.toInt32)), .val (.int ((p3 &&& (65535 : Int32)).toUInt32.toUInt16.toUInt32.toInt32)), .val (.int ((p4 &&& (65535 : Int32)).toUInt32.toUInt16.toUInt32.toInt32)), .val (.int ((p5 &&& (65535 : Int32)).toUInt32.toUInt16.toUInt32.toInt32))] [(.int ((p5 &&& (65535 : Int32)).toUInt32.toUInt16.toUInt32.toInt32)), (.int 3), (.ref b), (.ref b), (.ref x), (.ref x)])) := Steps.trans (cc32.trans (st34 _ (Steps.refl _))) (by
      refine XS.dup X34.here hx rfl (own_d hby d0_139) rfl rfl ?_
      refine iconstV X34.here hx rfl 3 (own_d hby d0_140) (by decide) ?_
      refine XS.iload X34.here hx rfl (own_d hby d0_141) rfl ?_
      exact Steps.refl _)
    obtain ⟨clu36, Aru36, qu36, Su36, Ngu36, Hsu36, Gsu36⟩ := id V34
    have inu36 : ¬ ((3 : Int32) < 0 ∨ clu36.slots.size ≤ (3 : Int32).toNatClampNeg) := inb_of Su36 ⟨by decide, by decide⟩
    obtain ⟨T37, h37, X37, e37, W37, st37⟩ := stC X34 hx hZ e34 Aru36 (j := (3 : Int32)) inu36 (g := (mkF m 143 #[.val (.int p1), .val (.int p2), .val (.int p3), .val (.int p4), .val (.int p5), .val (.int ((p1 &&& (3 : Int32)) + (1 : Int32))), .val (.int ((p2 &&& (65535 : Int32)).toUInt32.toUInt16.toUInt32.toInt32)), .val (.int ((p3 &&& (65535 : Int32)).toUInt32.toUInt16.toUInt32.toInt32)), .val (.int ((p4 &&& (65535 : Int32)).toUInt32.toUInt16.toUInt32.toInt32)), .val (.int ((p5 &&& (65535 : Int32)).toUInt32.toUInt16.toUInt32.toInt32))] [(.int ((p5 &&& (65535 : Int32)).toUInt32.toUInt16.toUInt32.toInt32)), (.int 3), (.ref b), (.ref b), (.ref x), (.ref x)])) rfl rfl (own_d hby d0_143)
    have K37 := Keep.of_wr W37
    have N37 := Fr.snoc X37 N34 gn_b
    have KK6 : Keep h0 h37 ([] : List Addr) := KK5.trans K37 (allS (Or.inr s0_b) all0)
    have Zs6 : n0 ≤ h37.size := Nat.le_trans Zs5 K37.1
    have V37 : Arv Z h37 b k25 .char (4 : Int32) ([(.int (nar .char ((p2 &&& (65535 : Int32)).toUInt32.toUInt16.toUInt32.toInt32))), (.int (nar .char ((p3 &&& (65535 : Int32)).toUInt32.toUInt16.toUInt32.toInt32))), (.int (nar .char ((p4 &&& (65535 : Int32)).toUInt32.toUInt16.toUInt32.toInt32))), (.int (nar .char ((p5 &&& (65535 : Int32)).toUInt32.toUInt16.toUInt32.toInt32)))]) (.int (0 : Int32)) := Arv.set Aru36 qu36 Su36 Ngu36 Hsu36 Gsu36 (fits_nar_char _) W37 3 rfl (Nat.le_of_ble_eq_true rfl)
    have cc39 : Steps p.tables e below S0' (T37.setTop (mkF m 144 #[.val (.int p1), .val (.int p2), .val (.int p3), .val (.int p4), .val (.int p5), .val (.int ((p1 &&& (3 : Int32)) + (1 : Int32))), .val (.int ((p2 &&& (65535 : Int32)).toUInt32.toUInt16.toUInt32.toInt32)), .val (.int ((p3 &&& (65535 : Int32)).toUInt32.toUInt16.toUInt32.toInt32)), .val (.int ((p4 &&& (65535 : Int32)).toUInt32.toUInt16.toUInt32.toInt32)), .val (.int ((p5 &&& (65535 : Int32)).toUInt32.toUInt16.toUInt32.toInt32))] [(.ref b), (.ref x), (.ref x)])) := (cc35.trans (st37 _ (Steps.refl _)))
    have fa38 : Exa Z h37 x "java/lang/String" := (((((A23.keep K25).keep K28).keep K31).keep K34).keep K37)
    have fa40 : Fld Z h37 x "java/lang/String" "value" "[B" .null := (((((F_value_x.keep K25 nin0).keep K28 (ninS ne_x_b nin0)).keep K31 (ninS ne_x_b nin0)).keep K34 (ninS ne_x_b nin0)).keep K37 (ninS ne_x_b nin0))
    have fa41 : Fld Z h37 x "java/lang/String" "coder" "B" (.int (0 : Int32)) := (((((F_coder_x.keep K25 nin0).keep K28 (ninS ne_x_b nin0)).keep K31 (ninS ne_x_b nin0)).keep K34 (ninS ne_x_b nin0)).keep K37 (ninS ne_x_b nin0))
    have fa42 : Old Z n0 h37 := ((((((X00.keep K23 all0).keep K25 all0).keep K28 (allS gn_b all0)).keep K31 (allS gn_b all0)).keep K34 (allS gn_b all0)).keep K37 (allS gn_b all0))
    have hp : ∀ c ∈ ([nar .char ((p2 &&& (65535 : Int32)).toUInt32.toUInt16.toUInt32.toInt32), nar .char ((p3 &&& (65535 : Int32)).toUInt32.toUInt16.toUInt32.toInt32), nar .char ((p4 &&& (65535 : Int32)).toUInt32.toUInt16.toUInt32.toInt32), nar .char ((p5 &&& (65535 : Int32)).toUInt32.toUInt16.toUInt32.toInt32)] : List Int32), ¬ c < 0 ∧ ¬ (65535 : Int32) < c := by
      intro c hc
      simp only [List.mem_cons, List.not_mem_nil, or_false] at hc
      rcases hc with rfl | rfl | rfl | rfl <;> exact own_char _
    obtain ⟨_, _, ⟨T43, L43, k43, n43⟩, -, X43, ⟨Lc43, hQ43, l43, y43, z43⟩, st43⟩ := X37.specialBack hx (y := (⟨"java/lang/String", "<init>", "([C)V"⟩ : MethodName)) rfl hown (mvT hZ w_9) (mvT hZ w_10) (mvT hZ w_11) (by decide) (StrChars.Road.backT (W := 1) hZ hws hww (kI := 4) w_6 (cs := ([nar .char ((p2 &&& (65535 : Int32)).toUInt32.toUInt16.toUInt32.toInt32), nar .char ((p3 &&& (65535 : Int32)).toUInt32.toUInt16.toUInt32.toInt32), nar .char ((p4 &&& (65535 : Int32)).toUInt32.toUInt16.toUInt32.toInt32), nar .char ((p5 &&& (65535 : Int32)).toUInt32.toUInt16.toUInt32.toInt32)] : List Int32)) (n := 4) gn_x Zs6 fa38 fa40 fa41 V37 (O2.ext fa42.2) P5 (O3.ext fa42.2) rfl rfl (by decide) (by decide) (fun c hc => (hp c hc).1) (by decide) (by decide)) (g := (mkF m 144 #[.val (.int p1), .val (.int p2), .val (.int p3), .val (.int p4), .val (.int p5), .val (.int ((p1 &&& (3 : Int32)) + (1 : Int32))), .val (.int ((p2 &&& (65535 : Int32)).toUInt32.toUInt16.toUInt32.toInt32)), .val (.int ((p3 &&& (65535 : Int32)).toUInt32.toUInt16.toUInt32.toInt32)), .val (.int ((p4 &&& (65535 : Int32)).toUInt32.toUInt16.toUInt32.toInt32)), .val (.int ((p5 &&& (65535 : Int32)).toUInt32.toUInt16.toUInt32.toInt32))] [(.ref b), (.ref x), (.ref x)])) rfl (by rw [hml]; rfl) (Steps.refl _) (a := x) (argsL := [(.ref b)]) (rest := [(.ref x)]) (lenOf own_pd0 rfl) rfl (by show 2 * 0 + _ ≤ _; exact Nat.le_of_eq rfl) (own_d hby d0_144) (fun _ _ => ⟨rfl, e37, Nat.le_of_ble_eq_true rfl, Nat.le_of_ble_eq_true rfl⟩)
    dsimp only [Pt.U, Pt.locs, Pt.cells, Pt.slots] at X43 l43 y43 z43 st43 hQ43
    subst l43 y43 z43
    obtain ⟨rfl, Nq43, Kq43, Eq43, cd, N2, vs, t, kb, hcd, Cq43, g143, g243, g343, Vq43, Aq43⟩ := hQ43
    have N43 := Fr.app N37 Nq43
    have KK7 : Keep h0 T43.heap ([] : List Addr) := KK6.trans Kq43 (allS (Or.inr s0_x) all0)
    have Zs7 : n0 ≤ T43.heap.size := Nat.le_trans Zs6 Kq43.1
    have e43 : T43.heap = T43.heap := rfl
    have cc44 : Steps p.tables e below S0' (T43.setTop (mkF m 147 #[.val (.int p1), .val (.int p2), .val (.int p3), .val (.int p4), .val (.int p5), .val (.int ((p1 &&& (3 : Int32)) + (1 : Int32))), .val (.int ((p2 &&& (65535 : Int32)).toUInt32.toUInt16.toUInt32.toInt32)), .val (.int ((p3 &&& (65535 : Int32)).toUInt32.toUInt16.toUInt32.toInt32)), .val (.int ((p4 &&& (65535 : Int32)).toUInt32.toUInt16.toUInt32.toInt32)), .val (.int ((p5 &&& (65535 : Int32)).toUInt32.toUInt16.toUInt32.toInt32))] [(.ref x)])) := (Steps.trans cc39 st43)
    have cE := cc44
    rw [hS0'] at cE
    obtain ⟨fs, hr_, hrun, hended, hW, hsame⟩ := X43.leave (v := some (.ref x)) (fun h => by rw [Bd.returns] at h; cases h)
    refine ⟨_, _, cE.trans (X43.areturnOut hx (rfl) Bd.returns rfl (own_d hby d0_147) hr_), hrun, hended, _, _, rfl, ?_, ⟨_, rfl⟩, hW, hsame.mono (by first | decide | omega) (by first | decide | omega)⟩
    show Q_own_draw Z p1 p2 p3 p4 p5 z h0 n0 _ T43.heap _
    rw [e43]
    exact ⟨x, ([nar .char ((p2 &&& (65535 : Int32)).toUInt32.toUInt16.toUInt32.toInt32), nar .char ((p3 &&& (65535 : Int32)).toUInt32.toUInt16.toUInt32.toInt32), nar .char ((p4 &&& (65535 : Int32)).toUInt32.toUInt16.toUInt32.toInt32), nar .char ((p5 &&& (65535 : Int32)).toUInt32.toUInt16.toUInt32.toInt32)] : List Int32), rfl, N43, KK7, ⟨Eq43, cd, N2, vs, t, kb, hcd, Cq43, Vq43, Aq43, hp⟩, hl.symm, by simp, by simp⟩
theorem d1_0 : decode prog_23_method_2_code 0 = .ok (.aload_n 0, 1) := by decide +kernel
theorem d1_1 : decode prog_23_method_2_code 1 = .ok (.ifnull 10, 3) := by decide +kernel
theorem d1_4 : decode prog_23_method_2_code 4 = .ok (.aload_n 0, 1) := by decide +kernel
theorem d1_5 : decode prog_23_method_2_code 5 = .ok (.invokevirtual 7, 3) := by decide +kernel
theorem d1_8 : decode prog_23_method_2_code 8 = .ok (.ifCond .eq 13, 3) := by decide +kernel
theorem d1_21 : decode prog_23_method_2_code 21 = .ok (.aload_n 0, 1) := by decide +kernel
theorem d1_22 : decode prog_23_method_2_code 22 = .ok (.areturn, 1) := by decide +kernel
def Q_own_req (Z : State) (x : Addr) (cs : List Int32) (h0 : Heap) (n0 : Nat) (v : Option Value) (h : Heap) (L : List Loc) : Prop := v = some (.ref x) ∧ Fr n0 L ∧ h = h0
set_option maxRecDepth 65536 in
set_option maxHeartbeats 40000000 in
theorem own_req (l : Launch) (Z : State) (a0 : Array Value) (hw : ∀ d ∈ tables_1, d.before a0 Z = true) (x : Addr) (cs : List Int32) (h0 : Heap) (n0 : Nat) (Z0 : n0 ≤ h0.size) (Hs : own_Str Z h0 x cs) (hn0 : 0 < cs.length) (hn4 : cs.length ≤ 4) :
    MetFree l (⟨"com/example/latchwork/latchwork/lock/LockArguments", "requireName", "(Ljava/lang/String;)Ljava/lang/String;"⟩ : MethodName) (head1 [Jvm.Cond.code (⟨"com/example/latchwork/latchwork/lock/LockArguments", "requireName", "(Ljava/lang/String;)Ljava/lang/String;"⟩ : MethodName) prog_23_method_2_code 1 (some (.object "java/lang/String"))] ({ frames := 1, cells := 0, slots := 0, locals := 12 } : Room)) (fun a_ U_ => a_ = #[(.ref x)] ∧ Z.Warmed39 U_.vm ∧ U_.heap = h0) (fun _ _ _ _ _ => True) (fun _ U_ o_ V_ => ∃ v_ L_, o_ = .returned v_ ∧ Q_own_req Z x cs h0 n0 v_ V_.heap L_ ∧ FrameEnd U_ o_ V_ L_ ({ frames := 1, cells := 0, slots := 0, locals := 12 } : Room).cells ({ frames := 1, cells := 0, slots := 0, locals := 12 } : Room).slots) := by
  refine MetFree.of_bodySF (plainFor_of_name own_pn1) hisR ?_
  intro p e s m args below meth c s₁ Bd hml0 hP hK
  obtain ⟨rfl, hZ, hh⟩ := hP
  have hx := Bd.exec
  have hby := Bd.bytes
  have hml : c.maxLocals = 1 := hml0
  have hown : s.vm.findClass "com/example/latchwork/latchwork/lock/LockArguments" = some m.cls := findClass_of_methodNamed Bd.named
  have hnm := (name_of_methodNamed Bd.named Bd.method).1
  have X0 : Stand p l e ({ frames := 1, cells := 0, slots := 0, locals := 12 } : Room) s m #[(.ref x)] below meth c s₁ [] 0 0 := Stand.of_body Bd
  have e0 : s₁.heap = h0 := by rw [← hh, Bd.state]; rfl
  have N0 := Fr.nil n0
  have KK0 := Keep.refl h0 ([] : List Addr)
  have cc0 : Steps p.tables e below (s₁.setTop (entryFrame m #[(.ref x)] 1)) (s₁.setTop (mkF m 0 #[.val (.ref x)] [])) := XT.entry rfl
  obtain ⟨S0', hS0'⟩ : ∃ S, S = (s₁.setTop (entryFrame m #[(.ref x)] 1)) := ⟨_, rfl⟩
  rw [← hS0'] at cc0
  have w_42 := hw _ (List.mem_of_getElem? (i := 42) rfl)
  have hem : ∀ d ∈ StrChars.Road.wordsEmp, d.before a0 Z = true := fun d hd => hw d ((by decide +kernel : ∀ d ∈ StrChars.Road.wordsEmp, d ∈ tables_1) d hd)
  obtain ⟨E, cd, N2, vs, t, kb, hcd, Cc, Vv, Aa, hp⟩ := Hs
  have cc21 : Steps p.tables e below S0' (s₁.setTop (mkF m 5 #[.val (.ref x)] [(.ref x)])) := Steps.trans cc0 (by
    refine XS.aloadN X0.here hx rfl (own_d hby d1_0) rfl rfl ?_
    refine XS.ifnullNo X0.here hx rfl (own_d hby d1_1) rfl ?_
    refine XS.aloadN X0.here hx rfl (own_d hby d1_4) rfl rfl ?_
    exact Steps.refl _)
  obtain ⟨cq22, kq22, qa22, qb22, qc22⟩ := isOf hZ e0 E
  obtain ⟨_, _, ⟨T22, L22, k22, n22⟩, -, X22, ⟨Lc22, hQ22, l22, y22, z22⟩, st22⟩ := X0.virtualBack hx (y := (⟨"java/lang/String", "isEmpty", "()Z"⟩ : MethodName)) (z := (⟨"java/lang/String", "isEmpty", "()Z"⟩ : MethodName)) hown (mvT hZ (hw _ (List.mem_of_getElem? (i := 39) rfl))) (mvT hZ (hw _ (List.mem_of_getElem? (i := 40) rfl))) (notFace_of_selects (args := #[]) (mvT hZ w_42)) (mvT hZ w_42) (mvT hZ (hw _ (List.mem_of_getElem? (i := 41) rfl))) (by decide) (StrChars.Road.empW (W := 0) hZ hem (kI := 4) (hw _ (List.mem_of_getElem? (i := 6) rfl)) E Vv Cc Aa hcd hp (by omega) (by decide) (by decide)) qa22 qc22 (g := (mkF m 5 #[.val (.ref x)] [(.ref x)])) rfl (by rw [hml]; rfl) (Steps.refl _) (argsL := []) (rest := []) (lenOf own_pd1 rfl) rfl (by show 2 * 0 + _ ≤ _; exact Nat.le_of_eq rfl) (own_d hby d1_5) (fun _ _ => ⟨rfl, e0, Nat.le_of_ble_eq_true rfl, Nat.le_of_ble_eq_true rfl⟩)
  dsimp only [Pt.U, Pt.locs, Pt.cells, Pt.slots] at X22 l22 y22 z22 st22 hQ22
  subst l22 y22 z22
  obtain ⟨rfl, rfl, eq22⟩ := hQ22
  have N22 := Fr.app N0 (Fr.nil n0)
  have e22 : T22.heap = h0 := eq22
  have cc23 : Steps p.tables e below S0' (T22.setTop (mkF m 22 #[.val (.ref x)] [(.ref x)])) := Steps.trans (Steps.trans cc21 st22) (by
    refine XS.ifYes X22.here hx rfl (pc0 := 8) rfl (own_d hby d1_8) rfl (i0_eq_t (if_neg (by omega))) (by decide) rfl ?_
    refine XS.aloadN X22.here hx rfl (own_d hby d1_21) rfl rfl ?_
    exact Steps.refl _)
  have cE := cc23
  rw [hS0'] at cE
  obtain ⟨fs, hr_, hrun, hended, hW, hsame⟩ := X22.leave (v := some (.ref x)) (fun h => by rw [Bd.returns] at h; cases h)
  refine ⟨_, _, cE.trans (X22.areturnOut hx (rfl) Bd.returns rfl (own_d hby d1_22) hr_), hrun, hended, _, _, rfl, ?_, ⟨_, rfl⟩, hW, hsame.mono (by first | decide | omega) (by first | decide | omega)⟩
  show Q_own_req Z x cs h0 n0 _ T22.heap _
  rw [e22]
  exact ⟨rfl, N22, rfl⟩
def Q_own_law (Z : State) (p1 p2 p3 p4 p5 z : Int32) (h0 : Heap) (n0 : Nat) (v : Option Value) (h : Heap) (L : List Loc) : Prop := v = some (.int 1) ∧ Fr n0 L
set_option maxRecDepth 65536 in
set_option maxHeartbeats 40000000 in
theorem own_law (l : Launch) (Z : State) (a0 : Array Value) (hw : ∀ d ∈ tables_1, d.before a0 Z = true) (ws : List Jvm.Cond) (p1 p2 p3 p4 p5 z : Int32) (h0 : Heap) (n0 : Nat) (Z0 : n0 ≤ h0.size) (X00 : Old Z n0 h0) (O2 : Sta Z Z.heap "java/lang/String" "COMPACT_STRINGS" "Z" (.int z)) (P5 : ¬ z = 0) (O3 : StrChars.Road.U3Z Z Z.heap) :
    MetFree l x (head1 (Jvm.Cond.code x code maxLocals ret :: ws) room_1) (fun a_ U_ => a_ = #[(.int p1), (.int p2), (.int p3), (.int p4), (.int p5)] ∧ Z.Warmed39 U_.vm ∧ U_.heap = h0) (fun _ _ _ _ _ => True) (fun _ U_ o_ V_ => ∃ v_ L_, o_ = .returned v_ ∧ Q_own_law Z p1 p2 p3 p4 p5 z h0 n0 v_ V_.heap L_ ∧ FrameEnd U_ o_ V_ L_ room_1.cells room_1.slots) := by
  refine MetFree.of_bodySF (plainFor_of_name own_pn0) hisR ?_
  intro p e s m args below meth c s₁ Bd hml0 hP hK
  obtain ⟨rfl, hZ, hh⟩ := hP
  have hx := Bd.exec
  have hby := Bd.bytes
  have hml : c.maxLocals = 7 := hml0
  have hown : s.vm.findClass "com/example/latchwork/latchwork/lock/LockArgumentsRequireNamePinLaw" = some m.cls := findClass_of_methodNamed Bd.named
  have hnm := (name_of_methodNamed Bd.named Bd.method).1
  have X0 : Stand p l e room_1 s m #[(.int p1), (.int p2), (.int p3), (.int p4), (.int p5)] below meth c s₁ [] 0 0 := Stand.of_body Bd
  have e0 : s₁.heap = h0 := by rw [← hh, Bd.state]; rfl
  have N0 := Fr.nil n0
  have KK0 := Keep.refl h0 ([] : List Addr)
  have cc0 : Steps p.tables e below (s₁.setTop (entryFrame m #[(.int p1), (.int p2), (.int p3), (.int p4), (.int p5)] maxLocals)) (s₁.setTop (mkF m 0 #[.val (.int p1), .val (.int p2), .val (.int p3), .val (.int p4), .val (.int p5), .unset, .unset] [])) := XT.entry rfl
  obtain ⟨S0', hS0'⟩ : ∃ S, S = (s₁.setTop (entryFrame m #[(.int p1), (.int p2), (.int p3), (.int p4), (.int p5)] maxLocals)) := ⟨_, rfl⟩
  rw [← hS0'] at cc0
  have w_2 := hw _ (List.mem_of_getElem? (i := 2) rfl)
  have w_3 := hw _ (List.mem_of_getElem? (i := 3) rfl)
  have w_37 := hw _ (List.mem_of_getElem? (i := 37) rfl)
  have w_38 := hw _ (List.mem_of_getElem? (i := 38) rfl)
  have w_47 := hw _ (List.mem_of_getElem? (i := 47) rfl)
  have hln : ∀ d ∈ StrChars.Road.wordsLen, d.before a0 Z = true := fun d hd => hw d ((by decide +kernel : ∀ d ∈ StrChars.Road.wordsLen, d ∈ tables_1) d hd)
  have cc21 : Steps p.tables e below S0' (s₁.setTop (mkF m 6 #[.val (.int p1), .val (.int p2), .val (.int p3), .val (.int p4), .val (.int p5), .unset, .unset] [(.int p5), (.int p4), (.int p3), (.int p2), (.int p1)])) := Steps.trans cc0 (by
    refine XS.iloadN X0.here hx rfl (own_d hby at_0) rfl ?_
    refine XS.iloadN X0.here hx rfl (own_d hby at_1) rfl ?_
    refine XS.iloadN X0.here hx rfl (own_d hby at_2) rfl ?_
    refine XS.iloadN X0.here hx rfl (own_d hby at_3) rfl ?_
    refine XS.iload X0.here hx rfl (own_d hby at_4) rfl ?_
    exact Steps.refl _)
  obtain ⟨_, _, ⟨T22, L22, k22, n22⟩, -, X22, ⟨Lc22, hQ22, l22, y22, z22⟩, st22⟩ := Jvm.LawKit.callS X0 hx (y := (⟨"com/example/latchwork/latchwork/lock/LockArgumentsRequireNamePinLaw", "draw", "(IIIII)Ljava/lang/String;"⟩ : MethodName)) hown (mvT hZ (hw _ (List.mem_of_getElem? (i := 0) rfl))) (mvT hZ (hw _ (List.mem_of_getElem? (i := 1) rfl))) (mvT hZ w_2) (mvT hZ w_3) (by decide) (backOf (W := 0) (own_draw l Z a0 hw p1 p2 p3 p4 p5 z h0 n0 Z0 X00 O2 P5 O3) hZ w_3 w_2 (by decide) (by decide)) (g := (mkF m 6 #[.val (.int p1), .val (.int p2), .val (.int p3), .val (.int p4), .val (.int p5), .unset, .unset] [(.int p5), (.int p4), (.int p3), (.int p2), (.int p1)])) rfl (by rw [hml]; rfl) (argsL := [(.int p1), (.int p2), (.int p3), (.int p4), (.int p5)]) (rest := []) (lenOf own_pd2 rfl) rfl (by show 2 * 0 + _ ≤ _; exact Nat.le_of_eq rfl) (own_d hby at_6) (fun _ _ => ⟨rfl, e0, Nat.le_of_ble_eq_true rfl, Nat.le_of_ble_eq_true rfl⟩)
  dsimp only [Pt.U, Pt.locs, Pt.cells, Pt.slots] at X22 l22 y22 z22 st22 hQ22
  subst l22 y22 z22
  obtain ⟨x, cs, rfl, Nq22, Kq22, Hs, hlen, hn0, hn4⟩ := hQ22
  have N22 := Fr.app N0 Nq22
  have KK1 : Keep h0 T22.heap ([] : List Addr) := KK0.trans Kq22 all0
  have Zs1 : n0 ≤ T22.heap.size := Nat.le_trans Z0 Kq22.1
  have e22 : T22.heap = T22.heap := rfl
  have Hs' := Hs
  obtain ⟨E, cd, N2, vs, t, kb, hcd, Cc, Vv, Aa, hp⟩ := Hs'
  have cc23 : Steps p.tables e below S0' (T22.setTop (mkF m 13 #[.val (.int p1), .val (.int p2), .val (.int p3), .val (.int p4), .val (.int p5), .val (.ref x), .unset] [(.ref x)])) := Steps.trans (cc21.trans (st22 _ (Steps.refl _))) (by
    refine XS.astore X22.here hx rfl (own_d hby at_9) rfl rfl rfl ?_
    refine XS.aload X22.here hx rfl (own_d hby at_11) rfl rfl ?_
    exact Steps.refl _)
  obtain ⟨_, _, ⟨T24, L24, k24, n24⟩, -, X24, ⟨Lc24, hQ24, l24, y24, z24⟩, st24⟩ := Jvm.LawKit.callS X22 hx (y := (⟨"com/example/latchwork/latchwork/lock/LockArguments", "requireName", "(Ljava/lang/String;)Ljava/lang/String;"⟩ : MethodName)) hown (mvT hZ (hw _ (List.mem_of_getElem? (i := 35) rfl))) (mvT hZ (hw _ (List.mem_of_getElem? (i := 36) rfl))) (mvT hZ w_37) (mvT hZ w_38) (by decide) (backOf (W := 0) (own_req l Z a0 hw x cs T22.heap n0 Zs1 Hs hn0 hn4) hZ w_38 w_37 (by decide) (by decide)) (g := (mkF m 13 #[.val (.int p1), .val (.int p2), .val (.int p3), .val (.int p4), .val (.int p5), .val (.ref x), .unset] [(.ref x)])) rfl (by rw [hml]; rfl) (argsL := [(.ref x)]) (rest := []) (lenOf own_pd3 rfl) rfl (by show 2 * 0 + _ ≤ _; exact Nat.le_of_eq rfl) (own_d hby at_13) (fun _ _ => ⟨rfl, e22, Nat.le_of_ble_eq_true rfl, Nat.le_of_ble_eq_true rfl⟩)
  dsimp only [Pt.U, Pt.locs, Pt.cells, Pt.slots] at X24 l24 y24 z24 st24 hQ24
  subst l24 y24 z24
  obtain ⟨rfl, Nq24, eq24⟩ := hQ24
  have N24 := Fr.app N22 Nq24
  have e24 : T24.heap = T22.heap := eq24
  have cc26 : Steps p.tables e below S0' (T24.setTop (mkF m 27 #[.val (.int p1), .val (.int p2), .val (.int p3), .val (.int p4), .val (.int p5), .val (.ref x), .val (.ref x)] [(.ref x)])) := Steps.trans (cc23.trans (st24 _ (Steps.refl _))) (by
    refine XS.astore X24.here hx rfl (own_d hby at_16) rfl rfl rfl ?_
    refine XS.aload X24.here hx rfl (own_d hby at_18) rfl rfl ?_
    refine XS.aload X24.here hx rfl (own_d hby at_20) rfl rfl ?_
    refine XT.acmpNo X24.here hx rfl (own_d hby at_22) rfl rfl rfl (aa_ne_f rfl) ?_
    refine XS.aload X24.here hx rfl (own_d hby at_25) rfl rfl ?_
    exact Steps.refl _)
  have fa25 : Old Z n0 T22.heap := (X00.keep Kq22 all0)
  obtain ⟨cq27, kq27, qa27, qb27, qc27⟩ := isOf hZ e24 E
  obtain ⟨_, _, ⟨T27, L27, k27, n27⟩, -, X27, ⟨Lc27, hQ27, l27, y27, z27⟩, st27⟩ := X24.virtualBack hx (y := (⟨"java/lang/String", "length", "()I"⟩ : MethodName)) (z := (⟨"java/lang/String", "length", "()I"⟩ : MethodName)) hown (mvT hZ (hw _ (List.mem_of_getElem? (i := 44) rfl))) (mvT hZ (hw _ (List.mem_of_getElem? (i := 45) rfl))) (notFace_of_selects (args := #[]) (mvT hZ w_47)) (mvT hZ w_47) (mvT hZ (hw _ (List.mem_of_getElem? (i := 46) rfl))) (by decide) (StrChars.Road.lenW (W := 0) hZ hln (kI := 4) (hw _ (List.mem_of_getElem? (i := 6) rfl)) E Vv Cc Aa hcd hp (O2.ext fa25.2) P5 (by omega) (by decide) (by decide)) qa27 qc27 (g := (mkF m 27 #[.val (.int p1), .val (.int p2), .val (.int p3), .val (.int p4), .val (.int p5), .val (.ref x), .val (.ref x)] [(.ref x)])) rfl (by rw [hml]; rfl) (Steps.refl _) (argsL := []) (rest := []) (lenOf own_pd4 rfl) rfl (by show 2 * 0 + _ ≤ _; exact Nat.le_of_eq rfl) (own_d hby at_27) (fun _ _ => ⟨rfl, e24, Nat.le_of_ble_eq_true rfl, Nat.le_of_ble_eq_true rfl⟩)
  dsimp only [Pt.U, Pt.locs, Pt.cells, Pt.slots] at X27 l27 y27 z27 st27 hQ27
  subst l27 y27 z27
  obtain ⟨rfl, rfl, eq27⟩ := hQ27
  have N27 := Fr.app N24 (Fr.nil n0)
  have e27 : T27.heap = T22.heap := eq27
  have cc28 : Steps p.tables e below S0' (T27.setTop (mkF m 43 #[.val (.int p1), .val (.int p2), .val (.int p3), .val (.int p4), .val (.int p5), .val (.ref x), .val (.ref x)] [(.int 1)])) := Steps.trans (Steps.trans cc26 st27) (by
    refine XS.iloadN X27.here hx rfl (own_d hby at_30) rfl ?_
    refine iconstV X27.here hx rfl 3 (own_d hby at_31) (by decide) ?_
    refine XS.iand X27.here hx rfl (own_d hby at_32) rfl ?_
    refine iconstV X27.here hx rfl 1 (own_d hby at_33) (by decide) ?_
    refine XS.iadd X27.here hx rfl (own_d hby at_34) rfl ?_
    refine XS.icmpNo X27.here hx rfl (own_d hby at_35) rfl (ii_ne_f hlen) ?_
    refine iconstV X27.here hx rfl 1 (own_d hby at_38) (by decide) ?_
    refine XS.goto X27.here hx rfl (pc0 := 39) rfl (own_d hby at_39) (by decide) rfl ?_
    exact Steps.refl _)
  have cE := cc28
  rw [hS0'] at cE
  obtain ⟨fs, hr_, hrun, hended, hW, hsame⟩ := X27.leave (v := some (.int 1)) (fun h => by rw [Bd.returns] at h; cases h)
  refine ⟨_, _, cE.trans (X27.ireturnOut hx Bd.returns (rfl) (by simp) (own_d hby at_43) hr_), hrun, hended, _, _, rfl, ?_, ⟨_, rfl⟩, hW, hsame.mono (by first | decide | omega) (by first | decide | omega)⟩
  show Q_own_law Z p1 p2 p3 p4 p5 z h0 n0 _ T27.heap _
  rw [e27]
  exact ⟨rfl, N27⟩
theorem own_eqS {args : Array Value} {s : State} {C n d : String} {k : Int32} (h : (Jvm.Cond.eq (Term.static C n d) (Term.int k)).before args s = true) : (Term.static C n d).eval args s none [] s = some (.int k) := by
  have hv := Cond.before_iff.mp h
  obtain ⟨a, b, ha, hb, -, hk⟩ := cmp_v (Or.inl hv)
  obtain rfl : b = .int k := Option.some.inj (hb.symm.trans (Term.int_eval k))
  obtain ⟨z, rfl⟩ := hk
  have e : z = k := gotT (Cond.eq_ints ha (Term.int_eval k)) hv
  rw [ha, e]
set_option maxRecDepth 65536 in
set_option maxHeartbeats 40000000 in
theorem comes_1 {Post : Tables → Env → Array Value → State → Outcome → State → Prop} (hpost : ∀ tb e args s v u, (limb_1_1.after args s (.returned v) u = true ∧ limb_1_2.after args s (.returned v) u = true ∧ True) → FrameEnd s (.returned v) u (Jvm.fieldLocs frame_1_writes args s ++ Jvm.arrayLocs frame_1_arrays args s ++ Jvm.staticLocs frame_1_statics s) 16 128 → Post tb e args s (.returned v) u) :
    ArmFor flags0 classFile x code maxLocals ret World_1 tables_1 room_1 Calls_1 rest_1 Pre_1 Post := by
  intro l hfl _ _ p e ha hc hk s m args below hf hA hF happ hP
  obtain ⟨hcalls, hrest, hpre⟩ := hP
  obtain ⟨-, -, -, hnamed, -, -, -, hat⟩ := (Spec.applies_iff hf).mp happ
  obtain ⟨hg, hn⟩ := and_e (Cond.before_iff.mp (show (Jvm.Cond.and given_1 narrow_1).before args s = true from hpre))
  obtain ⟨hcnt, g0⟩ := and_e hg
  obtain ⟨hi0, g1⟩ := and_e g0
  obtain ⟨hi1, g2⟩ := and_e g1
  obtain ⟨hi2, g3⟩ := and_e g2
  obtain ⟨hi3, g4⟩ := and_e g3
  obtain ⟨w0, w1, w2, w3, w4, rfl⟩ : ∃ w0 w1 w2 w3 w4 : Value, args = #[w0, w1, w2, w3, w4] := by
    have hs : args.size = 5 := by simpa [Cond.value, given_1] using hcnt
    obtain ⟨L⟩ := args
    match L, hs with
    | [w0, w1, w2, w3, w4], _ => exact ⟨w0, w1, w2, w3, w4, rfl⟩
  have hw := fun d (hd : d ∈ tables_1) => atoms_spec (ws := Jvm.Cond.code x code maxLocals ret :: tables_1) hat d (List.mem_cons_of_mem _ hd)
  obtain ⟨hsets, hown0⟩ := atoms_of _ (rest_1_c_eq ▸ (show rest_1_c.before _ s = true from hrest))
  obtain ⟨i0, e0⟩ := is_v hi0
  obtain rfl : w0 = (.int i0) := Option.some.inj e0
  obtain ⟨i1, e1⟩ := is_v hi1
  obtain rfl : w1 = (.int i1) := Option.some.inj e1
  obtain ⟨i2, e2⟩ := is_v hi2
  obtain rfl : w2 = (.int i2) := Option.some.inj e2
  obtain ⟨i3, e3⟩ := is_v hi3
  obtain rfl : w3 = (.int i3) := Option.some.inj e3
  obtain ⟨i4, e4⟩ := is_v g4
  obtain rfl : w4 = (.int i4) := Option.some.inj e4
  have n5 := not_v (Cond.before_iff.mp (hsets _ (List.mem_of_getElem? (i := 2) rfl)))
  obtain ⟨z, ez⟩ := is_v (Cond.before_iff.mp (hsets _ (List.mem_of_getElem? (i := 1) rfl)))
  have S12 : Sta s s.heap "java/lang/String" "COMPACT_STRINGS" "Z" (.int z) := Sta.start ez (Or.inl (hsets _ (List.mem_of_getElem? (i := 0) rfl)))
  have c17 : ¬ (z = (0 : Int32)) := gotF (Cond.eq_ints ez (Term.int_eval (0))) n5
  have O3 : StrChars.Road.U3Z s s.heap := ⟨Sta.start (own_eqS (hsets _ (List.mem_of_getElem? (i := 12) rfl))) (Or.inl (hsets _ (List.mem_of_getElem? (i := 11) rfl))), Sta.start (own_eqS (hsets _ (List.mem_of_getElem? (i := 15) rfl))) (Or.inl (hsets _ (List.mem_of_getElem? (i := 14) rfl))), Sta.start (own_eqS (hsets _ (List.mem_of_getElem? (i := 18) rfl))) (Or.inl (hsets _ (List.mem_of_getElem? (i := 17) rfl)))⟩
  obtain ⟨n, o, h1, h2, h3, _, L, rfl, ⟨rfl, N⟩, hq⟩ := own_law l s _ hw tables_1 i0 i1 i2 i3 i4 z s.heap s.heap.size (Nat.le_refl _) (Old.start s) S12 c17 O3 p e ha hc hk s m _ below hf ((Spec.applies_iff_loose hf).mp happ).1 ⟨rfl, State.Warmed39.refl s, rfl⟩ trivial
  refine ⟨n, _, h1, h2, h3, hpost _ _ _ _ _ _ ⟨Cond.after_iff.mpr rfl, Cond.after_iff.mpr (eq_i res_at (Term.int_eval (1)) rfl), trivial⟩ ⟨hq.1, hq.2.1, (hq.2.2.sift fun y hy => Or.inr (N y hy)).mono (by decide) (by decide)⟩⟩
theorem main_1_1 : Claimed_1_1 := comes_1 fun _ _ _ _ _ _ h hF => ⟨h.1, hF⟩
theorem main_1_2 : Claimed_1_2 := comes_1 fun _ _ _ _ _ _ h hF => ⟨h.2.1, hF⟩
end Jvm.Pilot.@@N@@
namespace Jvm.Pilot.@@N@@
open Jvm Jvm.ClassFile Sem Op Lib Jvm.Free Jvm.Stand Jvm.Pilot.@@N@@.Jvm.D
/-! MADE BY PROGRAM (witnessworld.py) out of the Statement's table words and the real class files: 20 classes; the members and pool entries that the words name. The judged class is class 1, her method 1. -/
namespace start1
open Jvm.ClassFile
def u (s : String) : CpInfo := .utf8 (stringToUtf16 s)
/-- a pool by its gaps: so many unusable entries, then the entry; so many at the end -/
def gap : Nat → List CpInfo → List CpInfo
  | 0, r => r
  | n + 1, r => .unusable :: gap n r
def poolList (es : List (Nat × CpInfo)) (last : Nat) : List CpInfo := es.foldr (fun e r => gap e.1 (e.2 :: r)) (gap last [])
def pool (es : List (Nat × CpInfo)) (last : Nat) : Array CpInfo := ⟨poolList es last⟩
def fileOf (pool : Array CpInfo) (this : Nat) (attrs : Array Attribute := #[]) (ms : Array MethodInfo := #[]) (fl : Nat := 33) (sup : Nat := 0) (ifs : Array Nat := #[]) (fds : Array FieldInfo := #[]) : ClassFile where
  minorVersion := 0
  majorVersion := 65
  constantPool := pool
  accessFlags := fl
  thisClass := this
  superClass := sup
  interfaces := ifs
  fields := fds
  methods := ms
  attributes := attrs
def plain (name : String) (sup : Option ClassId) : Class where
  name := name
  kind := .ordinary
  loader := none
  accessFlags := 33
  super := sup
  interfaces := #[]
  cf := none
  fields := #[]
  methods := #[]
  instanceTypes := #[]
  staticTypes := #[]
  resolved := #[]
  callSites := []
  init := .initialized
  statics := none
  mirror := none

def pool0 : Array CpInfo := pool [(5, u "<init>"), (0, u "()V"), (1, .class_ 10), (1, u "java/lang/Object")] 113

def k0c0 : Code := { maxStack := 0, maxLocals := 1, code := object_method_1_code, exceptionTable := #[], attributes := #[] }
def k0m0 : Method := { name := "<init>", desc := "()V", sig := { parameters := [], returnType := none }, accessFlags := 1, code := some k0c0 }
/-- java/lang/Object -/
def k0 : Class := { plain "java/lang/Object" none with
  accessFlags := 33
  interfaces := #[]
  cf := some (fileOf pool0 8 #[] #[{ accessFlags := 1, nameIndex := 5, descriptorIndex := 6, attributes := #[] }] 33 0 #[] #[])
  fields := #[]
  methods := #[k0m0]
  instanceTypes := #[]
  staticTypes := #[]
  resolved := Array.replicate 124 none
  statics := none }

def pool1 : Array CpInfo := pool [(2, .class_ 4), (1, u "java/lang/Object"), (0, u "<init>"), (0, u "()V"), (0, .methodref 8 9), (0, .class_ 10), (0, .nameAndType 11 12), (0, u "com/example/latchwork/latchwork/lock/LockArgumentsRequireNamePinLaw"), (0, u "draw"), (0, u "(IIIII)Ljava/lang/String;"), (0, .methodref 14 15), (0, .class_ 16), (0, .nameAndType 17 18), (0, u "com/example/latchwork/latchwork/lock/LockArguments"), (0, u "requireName"), (0, u "(Ljava/lang/String;)Ljava/lang/String;"), (0, .methodref 20 21), (0, .class_ 22), (0, .nameAndType 23 24), (0, u "java/lang/String"), (0, u "length"), (0, u "()I"), (0, .integer 65535), (0, .methodref 20 27), (0, .nameAndType 5 28), (0, u "([C)V"), (2, u "law"), (0, u "(IIIII)Z")] 3

def k1m0 : Method := { name := "<init>", desc := "()V", sig := { parameters := [], returnType := none }, accessFlags := 2, code := none }
def k1c1 : Code := { maxStack := 5, maxLocals := 7, code := code, exceptionTable := #[], attributes := #[] }
def k1m1 : Method := { name := "law", desc := "(IIIII)Z", sig := { parameters := [.int, .int, .int, .int, .int], returnType := some .boolean }, accessFlags := 9, code := some k1c1 }
def k1c2 : Code := { maxStack := 6, maxLocals := 10, code := method_3_code, exceptionTable := #[], attributes := #[] }
def k1m2 : Method := { name := "draw", desc := "(IIIII)Ljava/lang/String;", sig := { parameters := [.int, .int, .int, .int, .int], returnType := some (.object "java/lang/String") }, accessFlags := 10, code := some k1c2 }
/-- com/example/latchwork/latchwork/lock/LockArgumentsRequireNamePinLaw -/
def k1 : Class := { plain "com/example/latchwork/latchwork/lock/LockArgumentsRequireNamePinLaw" (some 0) with
  accessFlags := 49
  interfaces := #[]
  cf := some (fileOf pool1 8 #[] #[{ accessFlags := 2, nameIndex := 5, descriptorIndex := 6, attributes := #[] }, { accessFlags := 9, nameIndex := 31, descriptorIndex := 32, attributes := #[] }, { accessFlags := 10, nameIndex := 11, descriptorIndex := 12, attributes := #[] }] 49 2 #[] #[])
  fields := #[]
  methods := #[k1m0, k1m1, k1m2]
  instanceTypes := #[]
  staticTypes := #[]
  resolved := Array.replicate 36 none
  statics := none }

def pool2 : Array CpInfo := pool [(1, .class_ 2), (0, u "java/io/Serializable"), (0, .class_ 4), (0, u "java/lang/Object")] 2

/-- java/io/Serializable -/
def k2 : Class := { plain "java/io/Serializable" (some 0) with
  accessFlags := 1537
  interfaces := #[]
  cf := some (fileOf pool2 1 #[] #[] 1537 3 #[] #[])
  fields := #[]
  methods := #[]
  instanceTypes := #[]
  staticTypes := #[]
  resolved := Array.replicate 7 none
  statics := none }

def pool3 : Array CpInfo := pool [(1, .class_ 2), (0, u "java/lang/Comparable"), (0, .class_ 4), (0, u "java/lang/Object")] 7

/-- java/lang/Comparable -/
def k3 : Class := { plain "java/lang/Comparable" (some 0) with
  accessFlags := 1537
  interfaces := #[]
  cf := some (fileOf pool3 1 #[] #[] 1537 3 #[] #[])
  fields := #[]
  methods := #[]
  instanceTypes := #[]
  staticTypes := #[]
  resolved := Array.replicate 12 none
  statics := none }

def pool4 : Array CpInfo := pool [(2, .class_ 4), (1, u "java/lang/CharSequence"), (42, .class_ 48), (0, u "java/lang/CharSequence$1CodePointIterator"), (10, .class_ 60), (0, u "java/lang/CharSequence$1CharIterator"), (5, .class_ 67), (0, u "java/lang/Object")] 63

/-- java/lang/CharSequence -/
def k4 : Class := { plain "java/lang/CharSequence" (some 0) with
  accessFlags := 1537
  interfaces := #[]
  cf := some (fileOf pool4 2 #[.nestMembers #[47, 59]] #[] 1537 66 #[] #[])
  fields := #[]
  methods := #[]
  instanceTypes := #[]
  staticTypes := #[]
  resolved := Array.replicate 131 none
  statics := none }

def pool5 : Array CpInfo := pool [(1, .class_ 2), (0, u "java/lang/constant/Constable"), (0, .class_ 4), (0, u "java/lang/Object")] 6

/-- java/lang/constant/Constable -/
def k5 : Class := { plain "java/lang/constant/Constable" (some 0) with
  accessFlags := 1537
  interfaces := #[]
  cf := some (fileOf pool5 1 #[] #[] 1537 3 #[] #[])
  fields := #[]
  methods := #[]
  instanceTypes := #[]
  staticTypes := #[]
  resolved := Array.replicate 11 none
  statics := none }

def pool6 : Array CpInfo := pool [(1, .class_ 2), (0, u "java/lang/constant/ConstantDesc"), (0, .class_ 4), (0, u "java/lang/Object")] 32

/-- java/lang/constant/ConstantDesc -/
def k6 : Class := { plain "java/lang/constant/ConstantDesc" (some 0) with
  accessFlags := 1537
  interfaces := #[]
  cf := some (fileOf pool6 1 #[] #[] 1537 3 #[] #[])
  fields := #[]
  methods := #[]
  instanceTypes := #[]
  staticTypes := #[]
  resolved := Array.replicate 37 none
  statics := none }

def pool7 : Array CpInfo := pool [(1, .methodref 2 3), (0, .class_ 4), (0, .nameAndType 5 6), (0, u "java/lang/Object"), (0, u "<init>"), (0, u "()V"), (2, .fieldref 10 11), (0, .class_ 12), (0, .nameAndType 13 14), (0, u "java/lang/String"), (0, u "value"), (0, u "[B"), (0, .fieldref 10 16), (0, .nameAndType 17 18), (0, u "coder"), (0, u "B"), (2, u "hash"), (0, u "I"), (2, u "hashIsZero"), (0, u "Z"), (0, .methodref 10 28), (0, .nameAndType 5 29), (0, u "([CIILjava/lang/Void;)V"), (8, .fieldref 10 39), (0, .nameAndType 40 26), (0, u "COMPACT_STRINGS"), (1, .class_ 44), (1, u "java/lang/StringUTF16"), (0, u "compress"), (1, .methodref 42 48), (0, .nameAndType 49 50), (0, u "coderFromArrayLen"), (0, u "([BI)B"), (91, u "()Z"), (34, .methodref 42 178), (0, .nameAndType 45 179), (0, u "([CII)[B"), (154, u "()I"), (0, .methodref 10 336), (0, .nameAndType 17 337), (0, u "()B"), (169, u "length"), (67, .class_ 576), (0, u "java/lang/CharSequence"), (22, u "CASE_INSENSITIVE_ORDER"), (0, u "Ljava/util/Comparator;"), (91, u "isEmpty"), (317, u "([C)V"), (90, u "serialPersistentFields"), (0, u "[Ljava/io/ObjectStreamField;"), (0, .class_ 1104), (0, u "java/lang/String$CaseInsensitiveComparator"), (1, .class_ 1107), (0, u "java/io/Serializable"), (0, .class_ 1109), (0, u "java/lang/Comparable"), (0, .class_ 1111), (0, u "java/lang/constant/Constable"), (0, .class_ 1113), (0, u "java/lang/constant/ConstantDesc"), (2, u "serialVersionUID"), (0, u "J"), (3, u "REPL"), (0, u "C"), (2, u "LATIN1"), (1, u "UTF16")] 323

def k7m0 : Method := { name := "<init>", desc := "()V", sig := { parameters := [], returnType := none }, accessFlags := 1, code := none }
def k7c1 : Code := { maxStack := 5, maxLocals := 2, code := jdk_42_method_3_code, exceptionTable := #[], attributes := #[] }
def k7m1 : Method := { name := "<init>", desc := "([C)V", sig := { parameters := [(.array .char)], returnType := none }, accessFlags := 1, code := some k7c1 }
def k7c2 : Code := { maxStack := 2, maxLocals := 1, code := jdk_42_method_54_code, exceptionTable := #[], attributes := #[] }
def k7m2 : Method := { name := "length", desc := "()I", sig := { parameters := [], returnType := some .int }, accessFlags := 1, code := some k7c2 }
def k7c3 : Code := { maxStack := 1, maxLocals := 1, code := jdk_42_method_55_code, exceptionTable := #[], attributes := #[] }
def k7m3 : Method := { name := "isEmpty", desc := "()Z", sig := { parameters := [], returnType := some .boolean }, accessFlags := 1, code := some k7c3 }
def k7c4 : Code := { maxStack := 4, maxLocals := 6, code := jdk_42_method_149_code, exceptionTable := #[], attributes := #[] }
def k7m4 : Method := { name := "<init>", desc := "([CIILjava/lang/Void;)V", sig := { parameters := [(.array .char), .int, .int, (.object "java/lang/Void")], returnType := none }, accessFlags := 2, code := some k7c4 }
def k7c5 : Code := { maxStack := 1, maxLocals := 1, code := jdk_42_method_152_code, exceptionTable := #[], attributes := #[] }
def k7m5 : Method := { name := "coder", desc := "()B", sig := { parameters := [], returnType := some .byte }, accessFlags := 0, code := some k7c5 }
/-- java/lang/String -/
def k7 : Class := { plain "java/lang/String" (some 0) with
  accessFlags := 49
  interfaces := #[2, 3, 4, 5, 6]
  cf := some (fileOf pool7 10 #[.nestMembers #[1103]] #[{ accessFlags := 1, nameIndex := 5, descriptorIndex := 6, attributes := #[] }, { accessFlags := 1, nameIndex := 5, descriptorIndex := 1010, attributes := #[] }, { accessFlags := 1, nameIndex := 507, descriptorIndex := 334, attributes := #[] }, { accessFlags := 1, nameIndex := 692, descriptorIndex := 142, attributes := #[] }, { accessFlags := 2, nameIndex := 5, descriptorIndex := 29, attributes := #[] }, { accessFlags := 0, nameIndex := 17, descriptorIndex := 337, attributes := #[] }] 49 2 #[1106, 1108, 575, 1110, 1112] #[{ accessFlags := 18, nameIndex := 13, descriptorIndex := 14, attributes := #[] }, { accessFlags := 18, nameIndex := 17, descriptorIndex := 18, attributes := #[] }, { accessFlags := 2, nameIndex := 21, descriptorIndex := 22, attributes := #[] }, { accessFlags := 2, nameIndex := 25, descriptorIndex := 26, attributes := #[] }, { accessFlags := 26, nameIndex := 1116, descriptorIndex := 1117, attributes := #[] }, { accessFlags := 24, nameIndex := 40, descriptorIndex := 26, attributes := #[] }, { accessFlags := 26, nameIndex := 1101, descriptorIndex := 1102, attributes := #[] }, { accessFlags := 26, nameIndex := 1121, descriptorIndex := 1122, attributes := #[] }, { accessFlags := 25, nameIndex := 599, descriptorIndex := 600, attributes := #[] }, { accessFlags := 24, nameIndex := 1125, descriptorIndex := 18, attributes := #[] }, { accessFlags := 24, nameIndex := 1127, descriptorIndex := 18, attributes := #[] }])
  fields := #[{ name := "value", type := (.array .byte), accessFlags := 18, slot := 0, constantValue := 0 }, { name := "coder", type := .byte, accessFlags := 18, slot := 1, constantValue := 0 }, { name := "hash", type := .int, accessFlags := 2, slot := 2, constantValue := 0 }, { name := "hashIsZero", type := .boolean, accessFlags := 2, slot := 3, constantValue := 0 }, { name := "serialVersionUID", type := .long, accessFlags := 26, slot := 0, constantValue := 0 }, { name := "COMPACT_STRINGS", type := .boolean, accessFlags := 24, slot := 1, constantValue := 0 }, { name := "serialPersistentFields", type := (.array (.object "java/io/ObjectStreamField")), accessFlags := 26, slot := 2, constantValue := 0 }, { name := "REPL", type := .char, accessFlags := 26, slot := 3, constantValue := 0 }, { name := "CASE_INSENSITIVE_ORDER", type := (.object "java/util/Comparator"), accessFlags := 25, slot := 4, constantValue := 0 }, { name := "LATIN1", type := .byte, accessFlags := 24, slot := 5, constantValue := 0 }, { name := "UTF16", type := .byte, accessFlags := 24, slot := 6, constantValue := 0 }]
  methods := #[k7m0, k7m1, k7m2, k7m3, k7m4, k7m5]
  instanceTypes := #[(.array .byte), .byte, .int, .boolean]
  staticTypes := #[.long, .boolean, (.array (.object "java/io/ObjectStreamField")), .char, (.object "java/util/Comparator"), .byte, .byte]
  resolved := Array.replicate 1451 none
  statics := some 0 }

def pool8 : Array CpInfo := pool [(6, .class_ 8), (1, u "java/lang/Object"), (0, u "<init>"), (0, u "()V"), (0, .methodref 12 13), (0, .class_ 14), (0, .nameAndType 15 16), (0, u "java/lang/StringUTF16"), (0, u "newBytesLength"), (0, u "(I)I"), (3, .integer 1073741823), (23, .fieldref 12 45), (0, .nameAndType 46 47), (0, u "$assertionsDisabled"), (0, u "Z"), (11, .fieldref 12 60), (0, .nameAndType 61 62), (0, u "HI_BYTE_SHIFT"), (0, u "I"), (0, .fieldref 12 64), (0, .nameAndType 65 62), (0, u "LO_BYTE_SHIFT"), (5, .methodref 12 72), (0, .nameAndType 73 74), (0, u "getChar"), (0, u "([BI)C"), (32, .methodref 12 108), (0, .nameAndType 109 110), (0, u "newBytesFor"), (0, u "(I)[B"), (0, .methodref 12 112), (0, .nameAndType 113 114), (0, u "putChar"), (0, u "([BII)V"), (0, .methodref 12 116), (0, .nameAndType 117 118), (0, u "compress"), (0, u "([CI[BII)I"), (0, .methodref 12 120), (0, .nameAndType 121 122), (0, u "toBytes"), (0, u "([CII)[B"), (138, u "coderFromArrayLen"), (0, u "([BI)B"), (106, .class_ 371), (1, u "java/lang/StringUTF16$LinesSpliterator"), (58, u "MAX_LENGTH"), (196, .class_ 628), (0, u "java/lang/StringUTF16$CodePointsSpliterator"), (0, .class_ 630), (0, u "java/lang/StringUTF16$CharsSpliterator")] 4

def k8m0 : Method := { name := "<init>", desc := "()V", sig := { parameters := [], returnType := none }, accessFlags := 0, code := none }
def k8c1 : Code := { maxStack := 1, maxLocals := 1, code := jdk_52_method_2_code, exceptionTable := #[], attributes := #[] }
def k8m1 : Method := { name := "newBytesFor", desc := "(I)[B", sig := { parameters := [.int], returnType := some (.array .byte) }, accessFlags := 9, code := some k8c1 }
def k8c2 : Code := { maxStack := 4, maxLocals := 1, code := jdk_52_method_3_code, exceptionTable := #[], attributes := #[] }
def k8m2 : Method := { name := "newBytesLength", desc := "(I)I", sig := { parameters := [.int], returnType := some .int }, accessFlags := 9, code := some k8c2 }
def k8c3 : Code := { maxStack := 4, maxLocals := 3, code := jdk_52_method_4_code, exceptionTable := #[], attributes := #[] }
def k8m3 : Method := { name := "putChar", desc := "([BII)V", sig := { parameters := [(.array .byte), .int, .int], returnType := none }, accessFlags := 8, code := some k8c3 }
def k8c4 : Code := { maxStack := 3, maxLocals := 2, code := jdk_52_method_5_code, exceptionTable := #[], attributes := #[] }
def k8m4 : Method := { name := "getChar", desc := "([BI)C", sig := { parameters := [(.array .byte), .int], returnType := some .char }, accessFlags := 8, code := some k8c4 }
def k8c5 : Code := { maxStack := 4, maxLocals := 5, code := jdk_52_method_14_code, exceptionTable := #[], attributes := #[] }
def k8m5 : Method := { name := "toBytes", desc := "([CII)[B", sig := { parameters := [(.array .char), .int, .int], returnType := some (.array .byte) }, accessFlags := 9, code := some k8c5 }
def k8c6 : Code := { maxStack := 2, maxLocals := 2, code := jdk_52_method_15_code, exceptionTable := #[], attributes := #[] }
def k8m6 : Method := { name := "coderFromArrayLen", desc := "([BI)B", sig := { parameters := [(.array .byte), .int], returnType := some .byte }, accessFlags := 8, code := some k8c6 }
def k8c7 : Code := { maxStack := 5, maxLocals := 6, code := jdk_52_method_16_code, exceptionTable := #[], attributes := #[] }
def k8m7 : Method := { name := "compress", desc := "([CII)[B", sig := { parameters := [(.array .char), .int, .int], returnType := some (.array .byte) }, accessFlags := 9, code := some k8c7 }
def k8c8 : Code := { maxStack := 3, maxLocals := 7, code := jdk_52_method_21_code, exceptionTable := #[], attributes := #[] }
def k8m8 : Method := { name := "compress", desc := "([CI[BII)I", sig := { parameters := [(.array .char), .int, (.array .byte), .int, .int], returnType := some .int }, accessFlags := 9, code := some k8c8 }
/-- java/lang/StringUTF16 -/
def k8 : Class := { plain "java/lang/StringUTF16" (some 0) with
  accessFlags := 48
  interfaces := #[]
  cf := some (fileOf pool8 12 #[.nestMembers #[627, 629, 369]] #[{ accessFlags := 0, nameIndex := 9, descriptorIndex := 10, attributes := #[] }, { accessFlags := 9, nameIndex := 109, descriptorIndex := 110, attributes := #[] }, { accessFlags := 9, nameIndex := 15, descriptorIndex := 16, attributes := #[] }, { accessFlags := 8, nameIndex := 113, descriptorIndex := 114, attributes := #[] }, { accessFlags := 8, nameIndex := 73, descriptorIndex := 74, attributes := #[] }, { accessFlags := 9, nameIndex := 121, descriptorIndex := 122, attributes := #[] }, { accessFlags := 8, nameIndex := 261, descriptorIndex := 262, attributes := #[] }, { accessFlags := 9, nameIndex := 117, descriptorIndex := 122, attributes := #[] }, { accessFlags := 9, nameIndex := 117, descriptorIndex := 118, attributes := #[] }] 48 6 #[] #[{ accessFlags := 26, nameIndex := 61, descriptorIndex := 62, attributes := #[] }, { accessFlags := 26, nameIndex := 65, descriptorIndex := 62, attributes := #[] }, { accessFlags := 24, nameIndex := 430, descriptorIndex := 62, attributes := #[] }, { accessFlags := 4120, nameIndex := 46, descriptorIndex := 47, attributes := #[] }])
  fields := #[{ name := "HI_BYTE_SHIFT", type := .int, accessFlags := 26, slot := 0, constantValue := 0 }, { name := "LO_BYTE_SHIFT", type := .int, accessFlags := 26, slot := 1, constantValue := 0 }, { name := "MAX_LENGTH", type := .int, accessFlags := 24, slot := 2, constantValue := 0 }, { name := "$assertionsDisabled", type := .boolean, accessFlags := 4120, slot := 3, constantValue := 0 }]
  methods := #[k8m0, k8m1, k8m2, k8m3, k8m4, k8m5, k8m6, k8m7, k8m8]
  instanceTypes := #[]
  staticTypes := #[.int, .int, .int, .boolean]
  resolved := Array.replicate 635 none
  statics := some 1 }

def pool9 : Array CpInfo := pool [(2, .class_ 4), (1, u "java/lang/Object"), (0, u "<init>"), (0, u "()V"), (0, .methodref 8 9), (0, .class_ 10), (0, .nameAndType 11 12), (0, u "java/lang/String"), (0, u "isEmpty"), (0, u "()Z"), (19, u "(Ljava/lang/String;)Ljava/lang/String;"), (0, .class_ 34), (0, u "com/example/latchwork/latchwork/lock/LockArguments"), (2, u "requireName")] 20

def k9m0 : Method := { name := "<init>", desc := "()V", sig := { parameters := [], returnType := none }, accessFlags := 2, code := none }
def k9c1 : Code := { maxStack := 3, maxLocals := 1, code := prog_23_method_2_code, exceptionTable := #[], attributes := #[] }
def k9m1 : Method := { name := "requireName", desc := "(Ljava/lang/String;)Ljava/lang/String;", sig := { parameters := [(.object "java/lang/String")], returnType := some (.object "java/lang/String") }, accessFlags := 9, code := some k9c1 }
/-- com/example/latchwork/latchwork/lock/LockArguments -/
def k9 : Class := { plain "com/example/latchwork/latchwork/lock/LockArguments" (some 0) with
  accessFlags := 49
  interfaces := #[]
  cf := some (fileOf pool9 33 #[] #[{ accessFlags := 2, nameIndex := 5, descriptorIndex := 6, attributes := #[] }, { accessFlags := 9, nameIndex := 37, descriptorIndex := 32, attributes := #[] }] 49 2 #[] #[])
  fields := #[]
  methods := #[k9m0, k9m1]
  instanceTypes := #[]
  staticTypes := #[]
  resolved := Array.replicate 58 none
  statics := none }

def pool10 : Array CpInfo := pool [(4, .class_ 6), (1, u "java/lang/Object"), (0, u "<init>"), (0, u "()V"), (5, .class_ 16), (1, u "java/lang/StringLatin1"), (104, u "$assertionsDisabled"), (0, u "Z"), (98, .class_ 223), (1, u "java/lang/StringLatin1$LinesSpliterator"), (166, .class_ 391), (0, u "java/lang/StringLatin1$CharsSpliterator")] 3

def k10m0 : Method := { name := "<init>", desc := "()V", sig := { parameters := [], returnType := none }, accessFlags := 0, code := none }
/-- java/lang/StringLatin1 -/
def k10 : Class := { plain "java/lang/StringLatin1" (some 0) with
  accessFlags := 48
  interfaces := #[]
  cf := some (fileOf pool10 14 #[.nestMembers #[390, 221]] #[{ accessFlags := 0, nameIndex := 7, descriptorIndex := 8, attributes := #[] }] 48 4 #[] #[{ accessFlags := 4120, nameIndex := 121, descriptorIndex := 122, attributes := #[] }])
  fields := #[{ name := "$assertionsDisabled", type := .boolean, accessFlags := 4120, slot := 0, constantValue := 0 }]
  methods := #[k10m0]
  instanceTypes := #[]
  staticTypes := #[.boolean]
  resolved := Array.replicate 395 none
  statics := none }

def pool11 : Array CpInfo := pool [(2, .class_ 4), (1, u "java/lang/Object"), (0, u "<init>"), (0, u "()V"), (17, .class_ 26), (1, u "jdk/internal/util/Preconditions"), (28, .class_ 56), (0, u "jdk/internal/util/Preconditions$4"), (57, .class_ 115), (0, u "jdk/internal/util/Preconditions$1"), (7, u "SIOOBE_FORMATTER"), (0, u "Ljava/util/function/BiFunction;"), (0, .class_ 126), (0, u "jdk/internal/util/Preconditions$2"), (3, u "AIOOBE_FORMATTER"), (0, .class_ 132), (0, u "jdk/internal/util/Preconditions$3"), (3, u "IOOBE_FORMATTER")] 57

def k11m0 : Method := { name := "<init>", desc := "()V", sig := { parameters := [], returnType := none }, accessFlags := 1, code := none }
/-- jdk/internal/util/Preconditions -/
def k11 : Class := { plain "jdk/internal/util/Preconditions" (some 0) with
  accessFlags := 33
  interfaces := #[]
  cf := some (fileOf pool11 24 #[.nestMembers #[55, 131, 125, 114]] #[{ accessFlags := 1, nameIndex := 5, descriptorIndex := 6, attributes := #[] }] 33 2 #[] #[{ accessFlags := 25, nameIndex := 123, descriptorIndex := 124, attributes := #[] }, { accessFlags := 25, nameIndex := 130, descriptorIndex := 124, attributes := #[] }, { accessFlags := 25, nameIndex := 136, descriptorIndex := 124, attributes := #[] }])
  fields := #[{ name := "SIOOBE_FORMATTER", type := (.object "java/util/function/BiFunction"), accessFlags := 25, slot := 0, constantValue := 0 }, { name := "AIOOBE_FORMATTER", type := (.object "java/util/function/BiFunction"), accessFlags := 25, slot := 1, constantValue := 0 }, { name := "IOOBE_FORMATTER", type := (.object "java/util/function/BiFunction"), accessFlags := 25, slot := 2, constantValue := 0 }]
  methods := #[k11m0]
  instanceTypes := #[]
  staticTypes := #[(.object "java/util/function/BiFunction"), (.object "java/util/function/BiFunction"), (.object "java/util/function/BiFunction")]
  resolved := Array.replicate 194 none
  statics := some 2 }

def pool12 : Array CpInfo := pool [(9, u "<init>"), (6, .class_ 18), (1, u "java/lang/Object"), (0, u "()V"), (1, .class_ 23), (1, u "jdk/internal/util/ArraysSupport"), (0, u "LOG2_ARRAY_LONG_INDEX_SCALE"), (0, u "I"), (2, u "U"), (0, u "Ljdk/internal/misc/Unsafe;"), (8, u "BIG_ENDIAN"), (0, u "Z"), (8, u "LOG2_BYTE_BIT_SIZE"), (4, u "LOG2_ARRAY_INT_INDEX_SCALE"), (54, u "JLA"), (0, u "Ljdk/internal/access/JavaLangAccess;"), (11, u "LOG2_ARRAY_BOOLEAN_INDEX_SCALE"), (9, u "LOG2_ARRAY_BYTE_INDEX_SCALE"), (5, u "LOG2_ARRAY_CHAR_INDEX_SCALE"), (5, u "LOG2_ARRAY_SHORT_INDEX_SCALE"), (18, u "LOG2_ARRAY_FLOAT_INDEX_SCALE"), (24, u "LOG2_ARRAY_DOUBLE_INDEX_SCALE"), (89, u "T_BOOLEAN"), (2, u "T_CHAR"), (1, u "T_FLOAT"), (1, u "T_DOUBLE"), (1, u "T_BYTE"), (1, u "T_SHORT"), (1, u "T_INT"), (1, u "T_LONG"), (1, u "SOFT_MAX_ARRAY_LENGTH")] 83

def k12m0 : Method := { name := "<init>", desc := "()V", sig := { parameters := [], returnType := none }, accessFlags := 2, code := none }
/-- jdk/internal/util/ArraysSupport -/
def k12 : Class := { plain "jdk/internal/util/ArraysSupport" (some 0) with
  accessFlags := 33
  interfaces := #[]
  cf := some (fileOf pool12 21 #[] #[{ accessFlags := 2, nameIndex := 9, descriptorIndex := 19, attributes := #[] }] 33 16 #[] #[{ accessFlags := 24, nameIndex := 28, descriptorIndex := 29, attributes := #[] }, { accessFlags := 26, nameIndex := 38, descriptorIndex := 39, attributes := #[] }, { accessFlags := 25, nameIndex := 121, descriptorIndex := 25, attributes := #[] }, { accessFlags := 25, nameIndex := 131, descriptorIndex := 25, attributes := #[] }, { accessFlags := 25, nameIndex := 137, descriptorIndex := 25, attributes := #[] }, { accessFlags := 25, nameIndex := 143, descriptorIndex := 25, attributes := #[] }, { accessFlags := 25, nameIndex := 53, descriptorIndex := 25, attributes := #[] }, { accessFlags := 25, nameIndex := 24, descriptorIndex := 25, attributes := #[] }, { accessFlags := 25, nameIndex := 162, descriptorIndex := 25, attributes := #[] }, { accessFlags := 25, nameIndex := 187, descriptorIndex := 25, attributes := #[] }, { accessFlags := 26, nameIndex := 48, descriptorIndex := 25, attributes := #[] }, { accessFlags := 25, nameIndex := 277, descriptorIndex := 25, attributes := #[] }, { accessFlags := 25, nameIndex := 280, descriptorIndex := 25, attributes := #[] }, { accessFlags := 25, nameIndex := 282, descriptorIndex := 25, attributes := #[] }, { accessFlags := 25, nameIndex := 284, descriptorIndex := 25, attributes := #[] }, { accessFlags := 25, nameIndex := 286, descriptorIndex := 25, attributes := #[] }, { accessFlags := 25, nameIndex := 288, descriptorIndex := 25, attributes := #[] }, { accessFlags := 25, nameIndex := 290, descriptorIndex := 25, attributes := #[] }, { accessFlags := 25, nameIndex := 292, descriptorIndex := 25, attributes := #[] }, { accessFlags := 26, nameIndex := 108, descriptorIndex := 109, attributes := #[] }, { accessFlags := 25, nameIndex := 294, descriptorIndex := 25, attributes := #[] }])
  fields := #[{ name := "U", type := (.object "jdk/internal/misc/Unsafe"), accessFlags := 24, slot := 0, constantValue := 0 }, { name := "BIG_ENDIAN", type := .boolean, accessFlags := 26, slot := 1, constantValue := 0 }, { name := "LOG2_ARRAY_BOOLEAN_INDEX_SCALE", type := .int, accessFlags := 25, slot := 2, constantValue := 0 }, { name := "LOG2_ARRAY_BYTE_INDEX_SCALE", type := .int, accessFlags := 25, slot := 3, constantValue := 0 }, { name := "LOG2_ARRAY_CHAR_INDEX_SCALE", type := .int, accessFlags := 25, slot := 4, constantValue := 0 }, { name := "LOG2_ARRAY_SHORT_INDEX_SCALE", type := .int, accessFlags := 25, slot := 5, constantValue := 0 }, { name := "LOG2_ARRAY_INT_INDEX_SCALE", type := .int, accessFlags := 25, slot := 6, constantValue := 0 }, { name := "LOG2_ARRAY_LONG_INDEX_SCALE", type := .int, accessFlags := 25, slot := 7, constantValue := 0 }, { name := "LOG2_ARRAY_FLOAT_INDEX_SCALE", type := .int, accessFlags := 25, slot := 8, constantValue := 0 }, { name := "LOG2_ARRAY_DOUBLE_INDEX_SCALE", type := .int, accessFlags := 25, slot := 9, constantValue := 0 }, { name := "LOG2_BYTE_BIT_SIZE", type := .int, accessFlags := 26, slot := 10, constantValue := 0 }, { name := "T_BOOLEAN", type := .int, accessFlags := 25, slot := 11, constantValue := 0 }, { name := "T_CHAR", type := .int, accessFlags := 25, slot := 12, constantValue := 0 }, { name := "T_FLOAT", type := .int, accessFlags := 25, slot := 13, constantValue := 0 }, { name := "T_DOUBLE", type := .int, accessFlags := 25, slot := 14, constantValue := 0 }, { name := "T_BYTE", type := .int, accessFlags := 25, slot := 15, constantValue := 0 }, { name := "T_SHORT", type := .int, accessFlags := 25, slot := 16, constantValue := 0 }, { name := "T_INT", type := .int, accessFlags := 25, slot := 17, constantValue := 0 }, { name := "T_LONG", type := .int, accessFlags := 25, slot := 18, constantValue := 0 }, { name := "JLA", type := (.object "jdk/internal/access/JavaLangAccess"), accessFlags := 26, slot := 19, constantValue := 0 }, { name := "SOFT_MAX_ARRAY_LENGTH", type := .int, accessFlags := 25, slot := 20, constantValue := 0 }]
  methods := #[k12m0]
  instanceTypes := #[]
  staticTypes := #[(.object "jdk/internal/misc/Unsafe"), .boolean, .int, .int, .int, .int, .int, .int, .int, .int, .int, .int, .int, .int, .int, .int, .int, .int, .int, (.object "jdk/internal/access/JavaLangAccess"), .int]
  resolved := Array.replicate 378 none
  statics := none }

def pool13 : Array CpInfo := pool [(1, u "java/lang/Cloneable"), (0, .class_ 1), (0, u "java/lang/Object"), (0, .class_ 3)] 3

/-- java/lang/Cloneable -/
def k13 : Class := { plain "java/lang/Cloneable" (some 0) with
  accessFlags := 1537
  interfaces := #[]
  cf := some (fileOf pool13 2 #[] #[] 1537 4 #[] #[])
  fields := #[]
  methods := #[]
  instanceTypes := #[]
  staticTypes := #[]
  resolved := Array.replicate 8 none
  statics := none }

/-- the primitive byte -/
def k14 : Class := { plain "byte" none with kind := .primitive 'B', accessFlags := 0x411 }
/-- [B -/
def k15 : Class := { plain "[B" (some 0) with kind := .array 14 .byte, interfaces := #[13, 2], accessFlags := 1041 }

/-- the primitive char -/
def k16 : Class := { plain "char" none with kind := .primitive 'C', accessFlags := 0x411 }
/-- [C -/
def k17 : Class := { plain "[C" (some 0) with kind := .array 16 .char, interfaces := #[13, 2], accessFlags := 1041 }

/-- the primitive int -/
def k18 : Class := { plain "int" none with kind := .primitive 'I', accessFlags := 0x411 }
/-- [I -/
def k19 : Class := { plain "[I" (some 0) with kind := .array 18 .int, interfaces := #[13, 2], accessFlags := 1041 }

def heap : Heap := #[{ cls := 7, slots := #[.long 0, .int 1, .null, .int 0, .null, .int 0, .int 0], vm := .statics 7 },
  { cls := 8, slots := #[.int 0, .int 8, .int 0, .int 1], vm := .statics 8 },
  { cls := 11, slots := #[.null, .null, .null], vm := .statics 11 }]
def classes : Array Class := #[k0, k1, k2, k3, k4, k5, k6, k7, k8, k9, k10, k11, k12, k13, k14, k15, k16, k17, k18, k19]
def interned : List (Array UInt16 × Addr) := []
def slotsUsed : Nat := 14
def theMethod : MethodId := ⟨1, 1⟩
def args0 : Array Value := #[.int 5, .int 5, .int 5, .int 5, .int 5]
def aboutOver (below : List Frame) : State where
  vm := { classes := classes, interned := interned.toArray }
  heap := heap
  slotsUsed := slotsUsed
  threads := #[{ frames := .invoking theMethod args0 :: below }]
def below0 : List Frame := [.native { method := ⟨0, 0⟩, args := #[] }]
def about1 : State := aboutOver below0
def p0 : Program := .bare "" "" ""
def e0 : Env := launch0.env 0 0 0
theorem w_frames : about1.frames = Frame.invoking theMethod args0 :: below0 := rfl
set_option maxRecDepth 65536 in
theorem w_args : argsFit about1.vm theMethod args0 = true := by decide +kernel
set_option maxRecDepth 65536 in
theorem w_heap : heapFits about1 = true := by decide +kernel
set_option maxRecDepth 65536 in
theorem w_runnable : about1.curStatus? = some .runnable := by decide +kernel
set_option maxRecDepth 65536 in
theorem w_alone : about1.alone = true := by decide +kernel
set_option maxRecDepth 65536 in
theorem w_named : about1.methodNamed? x = some theMethod := by decide +kernel
set_option maxRecDepth 65536 in
theorem w_hears : about1.hears theMethod below0 = true := by decide +kernel
set_option maxRecDepth 65536 in
theorem w_ripe : about1.ripe theMethod args0 below0 = true := by decide +kernel
theorem w_running : about1.status = .running := rfl
set_option maxRecDepth 65536 in
theorem w_room : about1.hasRoom e0.platform room_1 = true :=
  launch0.hasRoom_least _ room_1 (by decide +kernel) (by decide +kernel) (by decide +kernel) (by decide +kernel) (by decide +kernel) (by decide +kernel)
theorem allAtoms_all (ts : List Jvm.Cond) (a : Array Jvm.Value) (st : Jvm.State) : (allAtoms ts).before a st = ts.all (fun c => c.before a st) := by
  induction ts with
  | nil => rfl
  | cons c t ih =>
    show (Jvm.Cond.and c (allAtoms t)).before a st = _
    rw [Jvm.Cond.before_and, ih, List.all_cons]
def words1 : List Jvm.Cond := Jvm.Cond.code x code maxLocals ret :: tables_1
/-- a 'code' word, met by the world's own term for the bytes: nothing is compared byte by byte -/
theorem code_word {y : MethodName} {bytes : ByteArray} {mx : Nat} {rt : Option FieldType} {a : Array Value} {s : State} {m : MethodId} {meth : Method} {c : Code} (h1 : s.methodNamed? y = some m) (h2 : s.vm.method? m = some meth) (h3 : meth.code = some c) (h4 : c.code = bytes)
    (h5 : (c.maxLocals == mx && c.exceptionTable.isEmpty && decide (c.maxStack ≤ mostOperands) && decide (meth.sig.returnType = rt) && !meth.locks && decide (parseMethodDescriptor y.desc = some meth.sig)) = true) : (Jvm.Cond.code y bytes mx rt).before a s = true := by
  simp only [Bool.and_eq_true, beq_iff_eq, Bool.not_eq_true', decide_eq_true_eq] at h5
  obtain ⟨⟨⟨⟨⟨g1, g2⟩, g3⟩, g4⟩, g5⟩, g6⟩ := h5
  simp [Cond.before, Cond.holds, Cond.value, h1, h2, h3, h4, g1, g2, g3, g4, g5, g6]
def isCode : Jvm.Cond → Bool
  | .code _ _ _ _ => true
  | _ => false
theorem all_split {L : List Jvm.Cond} {P : Jvm.Cond → Bool} (h1 : L.all (fun c => isCode c || P c) = true) (h2 : ∀ c ∈ L.filter isCode, P c = true) : L.all P = true := by
  refine List.all_eq_true.mpr fun c hc => ?_
  have h := List.all_eq_true.mp h1 c hc
  rcases Bool.eq_false_or_eq_true (isCode c) with hi | hi
  · exact h2 c (List.mem_filter.mpr ⟨hc, hi⟩)
  · simpa [hi] using h
set_option maxRecDepth 65536 in
theorem w_c0 : (Jvm.Cond.code x code maxLocals ret).before args0 about1 = true := code_word (m := ⟨1, 1⟩) (meth := k1m1) (c := k1c1) (by decide +kernel) rfl rfl rfl (by decide +kernel)
set_option maxRecDepth 65536 in
theorem w_c1 : (Jvm.Cond.code ({ cls := "com/example/latchwork/latchwork/lock/LockArgumentsRequireNamePinLaw", name := "draw", desc := "(IIIII)Ljava/lang/String;" } : Jvm.MethodName) method_3_code (10 : Nat) (Option.some (Jvm.ClassFile.FieldType.object "java/lang/String"))).before args0 about1 = true := code_word (m := ⟨1, 2⟩) (meth := k1m2) (c := k1c2) (by decide +kernel) rfl rfl rfl (by decide +kernel)
set_option maxRecDepth 65536 in
theorem w_c2 : (Jvm.Cond.code ({ cls := "java/lang/String", name := "<init>", desc := "([C)V" } : Jvm.MethodName) jdk_42_method_3_code (2 : Nat) (Option.none : Option Jvm.ClassFile.FieldType)).before args0 about1 = true := code_word (m := ⟨7, 1⟩) (meth := k7m1) (c := k7c1) (by decide +kernel) rfl rfl rfl (by decide +kernel)
set_option maxRecDepth 65536 in
theorem w_c3 : (Jvm.Cond.code ({ cls := "java/lang/String", name := "<init>", desc := "([CIILjava/lang/Void;)V" } : Jvm.MethodName) jdk_42_method_149_code (6 : Nat) (Option.none : Option Jvm.ClassFile.FieldType)).before args0 about1 = true := code_word (m := ⟨7, 4⟩) (meth := k7m4) (c := k7c4) (by decide +kernel) rfl rfl rfl (by decide +kernel)
set_option maxRecDepth 65536 in
theorem w_c4 : (Jvm.Cond.code ({ cls := "java/lang/Object", name := "<init>", desc := "()V" } : Jvm.MethodName) object_method_1_code (1 : Nat) (Option.none : Option Jvm.ClassFile.FieldType)).before args0 about1 = true := code_word (m := ⟨0, 0⟩) (meth := k0m0) (c := k0c0) (by decide +kernel) rfl rfl rfl (by decide +kernel)
set_option maxRecDepth 65536 in
theorem w_c5 : (Jvm.Cond.code ({ cls := "java/lang/StringUTF16", name := "compress", desc := "([CII)[B" } : Jvm.MethodName) jdk_52_method_16_code (6 : Nat) (Option.some (Jvm.ClassFile.FieldType.array Jvm.ClassFile.FieldType.byte))).before args0 about1 = true := code_word (m := ⟨8, 7⟩) (meth := k8m7) (c := k8c7) (by decide +kernel) rfl rfl rfl (by decide +kernel)
set_option maxRecDepth 65536 in
theorem w_c6 : (Jvm.Cond.code ({ cls := "java/lang/StringUTF16", name := "compress", desc := "([CI[BII)I" } : Jvm.MethodName) jdk_52_method_21_code (7 : Nat) (Option.some Jvm.ClassFile.FieldType.int)).before args0 about1 = true := code_word (m := ⟨8, 8⟩) (meth := k8m8) (c := k8c8) (by decide +kernel) rfl rfl rfl (by decide +kernel)
set_option maxRecDepth 65536 in
theorem w_c7 : (Jvm.Cond.code ({ cls := "java/lang/StringUTF16", name := "coderFromArrayLen", desc := "([BI)B" } : Jvm.MethodName) jdk_52_method_15_code (2 : Nat) (Option.some Jvm.ClassFile.FieldType.byte)).before args0 about1 = true := code_word (m := ⟨8, 6⟩) (meth := k8m6) (c := k8c6) (by decide +kernel) rfl rfl rfl (by decide +kernel)
set_option maxRecDepth 65536 in
theorem w_c8 : (Jvm.Cond.code ({ cls := "com/example/latchwork/latchwork/lock/LockArguments", name := "requireName", desc := "(Ljava/lang/String;)Ljava/lang/String;" } : Jvm.MethodName) prog_23_method_2_code (1 : Nat) (Option.some (Jvm.ClassFile.FieldType.object "java/lang/String"))).before args0 about1 = true := code_word (m := ⟨9, 1⟩) (meth := k9m1) (c := k9c1) (by decide +kernel) rfl rfl rfl (by decide +kernel)
set_option maxRecDepth 65536 in
theorem w_c9 : (Jvm.Cond.code ({ cls := "java/lang/String", name := "isEmpty", desc := "()Z" } : Jvm.MethodName) jdk_42_method_55_code (1 : Nat) (Option.some Jvm.ClassFile.FieldType.boolean)).before args0 about1 = true := code_word (m := ⟨7, 3⟩) (meth := k7m3) (c := k7c3) (by decide +kernel) rfl rfl rfl (by decide +kernel)
set_option maxRecDepth 65536 in
theorem w_c10 : (Jvm.Cond.code ({ cls := "java/lang/String", name := "length", desc := "()I" } : Jvm.MethodName) jdk_42_method_54_code (1 : Nat) (Option.some Jvm.ClassFile.FieldType.int)).before args0 about1 = true := code_word (m := ⟨7, 2⟩) (meth := k7m2) (c := k7c2) (by decide +kernel) rfl rfl rfl (by decide +kernel)
set_option maxRecDepth 65536 in
theorem w_c11 : (Jvm.Cond.code ({ cls := "java/lang/String", name := "coder", desc := "()B" } : Jvm.MethodName) jdk_42_method_152_code (1 : Nat) (Option.some Jvm.ClassFile.FieldType.byte)).before args0 about1 = true := code_word (m := ⟨7, 5⟩) (meth := k7m5) (c := k7c5) (by decide +kernel) rfl rfl rfl (by decide +kernel)
set_option maxRecDepth 65536 in
theorem w_c12 : (Jvm.Cond.code ({ cls := "java/lang/StringUTF16", name := "toBytes", desc := "([CII)[B" } : Jvm.MethodName) jdk_52_method_14_code (5 : Nat) (Option.some (Jvm.ClassFile.FieldType.array Jvm.ClassFile.FieldType.byte))).before args0 about1 = true := code_word (m := ⟨8, 5⟩) (meth := k8m5) (c := k8c5) (by decide +kernel) rfl rfl rfl (by decide +kernel)
set_option maxRecDepth 65536 in
theorem w_c13 : (Jvm.Cond.code ({ cls := "java/lang/StringUTF16", name := "newBytesFor", desc := "(I)[B" } : Jvm.MethodName) jdk_52_method_2_code (1 : Nat) (Option.some (Jvm.ClassFile.FieldType.array Jvm.ClassFile.FieldType.byte))).before args0 about1 = true := code_word (m := ⟨8, 1⟩) (meth := k8m1) (c := k8c1) (by decide +kernel) rfl rfl rfl (by decide +kernel)
set_option maxRecDepth 65536 in
theorem w_c14 : (Jvm.Cond.code ({ cls := "java/lang/StringUTF16", name := "newBytesLength", desc := "(I)I" } : Jvm.MethodName) jdk_52_method_3_code (1 : Nat) (Option.some Jvm.ClassFile.FieldType.int)).before args0 about1 = true := code_word (m := ⟨8, 2⟩) (meth := k8m2) (c := k8c2) (by decide +kernel) rfl rfl rfl (by decide +kernel)
set_option maxRecDepth 65536 in
theorem w_c15 : (Jvm.Cond.code ({ cls := "java/lang/StringUTF16", name := "putChar", desc := "([BII)V" } : Jvm.MethodName) jdk_52_method_4_code (3 : Nat) (Option.none : Option Jvm.ClassFile.FieldType)).before args0 about1 = true := code_word (m := ⟨8, 3⟩) (meth := k8m3) (c := k8c3) (by decide +kernel) rfl rfl rfl (by decide +kernel)
set_option maxRecDepth 65536 in
theorem w_c16 : (Jvm.Cond.code ({ cls := "java/lang/StringUTF16", name := "getChar", desc := "([BI)C" } : Jvm.MethodName) jdk_52_method_5_code (2 : Nat) (Option.some Jvm.ClassFile.FieldType.char)).before args0 about1 = true := code_word (m := ⟨8, 4⟩) (meth := k8m4) (c := k8c4) (by decide +kernel) rfl rfl rfl (by decide +kernel)
def codes1 : List Jvm.Cond := [Jvm.Cond.code x code maxLocals ret, Jvm.Cond.code ({ cls := "com/example/latchwork/latchwork/lock/LockArgumentsRequireNamePinLaw", name := "draw", desc := "(IIIII)Ljava/lang/String;" } : Jvm.MethodName) method_3_code (10 : Nat) (Option.some (Jvm.ClassFile.FieldType.object "java/lang/String")), Jvm.Cond.code ({ cls := "java/lang/String", name := "<init>", desc := "([C)V" } : Jvm.MethodName) jdk_42_method_3_code (2 : Nat) (Option.none : Option Jvm.ClassFile.FieldType), Jvm.Cond.code ({ cls := "java/lang/String", name := "<init>", desc := "([CIILjava/lang/Void;)V" } : Jvm.MethodName) jdk_42_method_149_code (6 : Nat) (Option.none : Option Jvm.ClassFile.FieldType), Jvm.Cond.code ({ cls := "java/lang/Object", name := "<init>", desc := "()V" } : Jvm.MethodName) object_method_1_code (1 : Nat) (Option.none : Option Jvm.ClassFile.FieldType), Jvm.Cond.code ({ cls := "java/lang/StringUTF16", name := "compress", desc := "([CII)[B" } : Jvm.MethodName) jdk_52_method_16_code (6 : Nat) (Option.some (Jvm.ClassFile.FieldType.array Jvm.ClassFile.FieldType.byte)), Jvm.Cond.code ({ cls := "java/lang/StringUTF16", name := "compress", desc := "([CI[BII)I" } : Jvm.MethodName) jdk_52_method_21_code (7 : Nat) (Option.some Jvm.ClassFile.FieldType.int), Jvm.Cond.code ({ cls := "java/lang/StringUTF16", name := "coderFromArrayLen", desc := "([BI)B" } : Jvm.MethodName) jdk_52_method_15_code (2 : Nat) (Option.some Jvm.ClassFile.FieldType.byte), Jvm.Cond.code ({ cls := "com/example/latchwork/latchwork/lock/LockArguments", name := "requireName", desc := "(Ljava/lang/String;)Ljava/lang/String;" } : Jvm.MethodName) prog_23_method_2_code (1 : Nat) (Option.some (Jvm.ClassFile.FieldType.object "java/lang/String")), Jvm.Cond.code ({ cls := "java/lang/String", name := "isEmpty", desc := "()Z" } : Jvm.MethodName) jdk_42_method_55_code (1 : Nat) (Option.some Jvm.ClassFile.FieldType.boolean), Jvm.Cond.code ({ cls := "java/lang/String", name := "length", desc := "()I" } : Jvm.MethodName) jdk_42_method_54_code (1 : Nat) (Option.some Jvm.ClassFile.FieldType.int), Jvm.Cond.code ({ cls := "java/lang/String", name := "coder", desc := "()B" } : Jvm.MethodName) jdk_42_method_152_code (1 : Nat) (Option.some Jvm.ClassFile.FieldType.byte), Jvm.Cond.code ({ cls := "java/lang/StringUTF16", name := "toBytes", desc := "([CII)[B" } : Jvm.MethodName) jdk_52_method_14_code (5 : Nat) (Option.some (Jvm.ClassFile.FieldType.array Jvm.ClassFile.FieldType.byte)), Jvm.Cond.code ({ cls := "java/lang/StringUTF16", name := "newBytesFor", desc := "(I)[B" } : Jvm.MethodName) jdk_52_method_2_code (1 : Nat) (Option.some (Jvm.ClassFile.FieldType.array Jvm.ClassFile.FieldType.byte)), Jvm.Cond.code ({ cls := "java/lang/StringUTF16", name := "newBytesLength", desc := "(I)I" } : Jvm.MethodName) jdk_52_method_3_code (1 : Nat) (Option.some Jvm.ClassFile.FieldType.int), Jvm.Cond.code ({ cls := "java/lang/StringUTF16", name := "putChar", desc := "([BII)V" } : Jvm.MethodName) jdk_52_method_4_code (3 : Nat) (Option.none : Option Jvm.ClassFile.FieldType), Jvm.Cond.code ({ cls := "java/lang/StringUTF16", name := "getChar", desc := "([BI)C" } : Jvm.MethodName) jdk_52_method_5_code (2 : Nat) (Option.some Jvm.ClassFile.FieldType.char)]
set_option maxRecDepth 65536 in
theorem codes_eq : words1.filter isCode = codes1 := rfl
theorem w_codes : ∀ c ∈ words1.filter isCode, c.before args0 about1 = true := by
  rw [codes_eq]
  intro c hc
  simp only [codes1, List.mem_cons, List.not_mem_nil, or_false] at hc
  rcases hc with rfl | rfl | rfl | rfl | rfl | rfl | rfl | rfl | rfl | rfl | rfl | rfl | rfl | rfl | rfl | rfl | rfl
  · exact w_c0
  · exact w_c1
  · exact w_c2
  · exact w_c3
  · exact w_c4
  · exact w_c5
  · exact w_c6
  · exact w_c7
  · exact w_c8
  · exact w_c9
  · exact w_c10
  · exact w_c11
  · exact w_c12
  · exact w_c13
  · exact w_c14
  · exact w_c15
  · exact w_c16
set_option maxRecDepth 65536 in
theorem w_t1 : (words1.take 24).all (fun c => isCode c || c.before args0 about1) = true := by decide +kernel
set_option maxRecDepth 65536 in
theorem w_t2 : ((words1.drop 24).take 24).all (fun c => isCode c || c.before args0 about1) = true := by decide +kernel
set_option maxRecDepth 65536 in
theorem w_t3 : (((words1.drop 24).drop 24).take 24).all (fun c => isCode c || c.before args0 about1) = true := by decide +kernel
set_option maxRecDepth 65536 in
theorem w_t4 : (((words1.drop 24).drop 24).drop 24).all (fun c => isCode c || c.before args0 about1) = true := by decide +kernel
theorem w_tables : (allAtoms (Jvm.Cond.code x code maxLocals ret :: tables_1)).before args0 about1 = true := by
  rw [allAtoms_all]
  show words1.all (fun c => c.before args0 about1) = true
  refine all_split ?_ w_codes
  rw [← List.take_append_drop 24 words1, List.all_append, w_t1, ← List.take_append_drop 24 (words1.drop 24), List.all_append, w_t2, ← List.take_append_drop 24 ((words1.drop 24).drop 24), List.all_append, w_t3, w_t4]
  rfl
set_option maxRecDepth 65536 in
theorem w_rest : rest_1_c.before args0 about1 = true := by decide +kernel
set_option maxRecDepth 65536 in
theorem w_case : (Jvm.Cond.and given_1 narrow_1).before args0 about1 = true := by decide +kernel
theorem w_applies : (headSpec (Jvm.Cond.code x code maxLocals ret :: tables_1) room_1).applies x e0.platform about1 = true :=
  (Spec.applies_iff w_frames).mpr ⟨w_running, w_runnable, w_alone, w_named, w_hears, w_ripe, w_room, w_tables⟩
theorem atStart : AtStart classFile x code maxLocals ret World_1 tables_1 room_1 Calls_1 rest_1 Pre_1 launch0 p0 e0 about1 theMethod args0 below0 :=
  ⟨lists_1, trivial, launch0.admits_env _ _ _, launch0.least_env, fairChoices_fair.cas, fairChoices_fair.clock, w_frames, w_args, w_heap, w_applies, trivial, w_rest, w_case⟩
end start1
theorem witness_1 : WitnessClaimed_1 := ⟨start1.p0, start1.e0, start1.about1, start1.theMethod, start1.args0, start1.below0, start1.atStart⟩
end Jvm.Pilot.@@N@@
