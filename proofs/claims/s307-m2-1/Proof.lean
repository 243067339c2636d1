import JvmDerived
import JvmDerived.Pilot.@@N@@Statement
import JvmDerived.Pilot.@@N@@Code
set_option linter.unusedVariables false
set_option linter.unusedSimpArgs false
/- laws to paste: StrChars.narrow_ch, StrChars.lo8_mask (cut by pick.py; bodies as the Statement names them) -/
namespace Jvm.Pilot.@@N@@
namespace StrChars
open Jvm Sem ClassFile Op Lib Jvm.Stand Jvm.Free.XT Jvm.Free.ALB Jvm.Free.JM Jvm.Free
open Jvm.Lib.Cold (StaticIs)
/-- the byte that i2b leaves of a char -/
def lo8 (x : Int32) : Int32 := x.toInt8.toInt32
/-- the byte, read back as charAt reads it, is the char -/
theorem lo8_mask {x : Int32} (h0 : ¬ x < 0) (h1 : ¬ 255 < x) : lo8 x &&& 255 = x := by
  have t : ∀ k : Fin 256, lo8 (Int32.ofNat k.val) &&& 255 = Int32.ofNat k.val := by decide +kernel
  rw [Int32.lt_iff_toInt_lt] at h0 h1
  have e0 : (0 : Int32).toInt = 0 := rfl
  have e1 : (255 : Int32).toInt = 255 := rfl
  obtain ⟨k, hk⟩ : ∃ k : Nat, x.toInt = k := ⟨x.toInt.toNat, by omega⟩
  have hx : x = Int32.ofNat k := Int32.toInt_inj.mp (by rw [hk, Int32.toInt_ofNat_small (by omega)])
  rw [hx]
  exact t ⟨k, by omega⟩
end StrChars
namespace StrChars
open Jvm Sem ClassFile Op Lib Jvm.Stand Jvm.Free.XT Jvm.Free.ALB Jvm.Free.JM Jvm.Free
open Jvm.Lib.Cold (StaticIs)
def hi8 (x : Int32) : Int32 := lo8 (x >>> ((8 : Int32) &&& 31))
/-- what StringUTF16.getChar makes of two bytes -/
def pairCh (u v : Int32) : Int32 := (((u &&& 255) <<< ((0 : Int32) &&& 31)) ||| ((v &&& 255) <<< ((8 : Int32) &&& 31))).toUInt32.toUInt16.toUInt32.toInt32
theorem lo8_and (x : Int32) : (lo8 x &&& 255).toBitVec.toNat = x.toBitVec.toNat % 256 := by
  have h : (lo8 x).toBitVec = (x.toBitVec.signExtend 8).signExtend 32 := by rw [lo8, Int8.toBitVec_toInt32, Int32.toBitVec_toInt8]
  rw [Int32.toBitVec_and, BitVec.toNat_and, h]
  have e : ((x.toBitVec.signExtend 8).signExtend 32).toNat % 256 = x.toBitVec.toNat % 256 := by
    rw [BitVec.toNat_signExtend]
    have hlt := x.toBitVec.isLt
    simp only [BitVec.toNat_setWidth, BitVec.toNat_signExtend]
    split <;> split <;> omega
  rw [← e]
  exact Nat.and_two_pow_sub_one_eq_mod _ 8
theorem pair_says {c : Int32} (h0 : ¬ c < 0) (h1 : ¬ 65535 < c) : pairCh (lo8 c) (hi8 c) = c := by
  rw [Int32.lt_iff_toInt_lt] at h0 h1
  have e0 : (0 : Int32).toInt = 0 := rfl
  have e1 : (65535 : Int32).toInt = 65535 := rfl
  have hc : c.toInt = c.toBitVec.toNat := by
    have := c.toBitVec.isLt
    have e : c.toInt = c.toBitVec.toInt := rfl
    rw [e] at h0 h1
    rw [e]
    rw [BitVec.toInt_eq_toNat_cond] at h0 h1 ⊢
    split at h0 <;> split <;> omega
  have hn : c.toBitVec.toNat < 65536 := by omega
  have a1 := lo8_and c
  have a2 : (hi8 c &&& 255).toBitVec.toNat = c.toBitVec.toNat / 256 := by
    rw [hi8, lo8_and]
    have e : ((8 : Int32) &&& 31) = 8 := by decide
    rw [e, Int32.toBitVec_shiftRight]
    have e2 : ((8 : Int32).toBitVec.smod 32) = 8#32 := by decide
    rw [e2, BitVec.sshiftRight_eq', BitVec.toNat_sshiftRight_of_msb_false (by rw [BitVec.msb_eq_false_iff_two_mul_lt]; omega)]
    show c.toBitVec.toNat >>> 8 % 256 = _
    rw [Nat.shiftRight_eq_div_pow]
    omega
  unfold pairCh
  apply Int32.toBitVec_inj.mp
  apply BitVec.eq_of_toNat_eq
  have f0 : ((0 : Int32) &&& 31) = 0 := by decide
  have f8 : ((8 : Int32) &&& 31) = 8 := by decide
  rw [f0, f8]
  have g : (((lo8 c &&& 255) <<< (0 : Int32)) ||| ((hi8 c &&& 255) <<< (8 : Int32))).toBitVec.toNat = c.toBitVec.toNat := by
    rw [Int32.toBitVec_or, Int32.toBitVec_shiftLeft, Int32.toBitVec_shiftLeft]
    have s0 : ((0 : Int32).toBitVec.smod 32) = 0#32 := by decide
    have s8 : ((8 : Int32).toBitVec.smod 32) = 8#32 := by decide
    rw [s0, s8, BitVec.toNat_or]
    simp only [BitVec.shiftLeft_eq', BitVec.toNat_shiftLeft, a1, a2]
    show (c.toBitVec.toNat % 256) <<< 0 % 2 ^ 32 ||| (c.toBitVec.toNat / 256) <<< 8 % 2 ^ 32 = _
    rw [Nat.shiftLeft_zero, Nat.mod_eq_of_lt (show c.toBitVec.toNat % 256 < 2 ^ 32 by omega), Nat.mod_eq_of_lt (show (c.toBitVec.toNat / 256) <<< 8 < 2 ^ 32 by rw [Nat.shiftLeft_eq]; omega), Nat.or_comm, ← Nat.shiftLeft_add_eq_or_of_lt (by omega), Nat.shiftLeft_eq]
    omega
  show BitVec.toNat (((((lo8 c &&& 255) <<< (0 : Int32)) ||| ((hi8 c &&& 255) <<< (8 : Int32))).toBitVec.setWidth 16).setWidth 32) = _
  rw [BitVec.toNat_setWidth, BitVec.toNat_setWidth, g]
  omega
end StrChars
namespace StrChars
open Jvm Sem ClassFile Op Lib Jvm.Stand Jvm.Free.XT Jvm.Free.ALB Jvm.Free.JM Jvm.Free
open Jvm.Lib.Cold (StaticIs)
theorem narrow_ch {c : Int32} (h0 : ¬ c < 0) (h1 : ¬ 65535 < c) : narrow .char (.int c) = .int c := by
  have q : narrow .char (.int (pairCh (lo8 c) (hi8 c))) = .int (pairCh (lo8 c) (hi8 c)) := narrow_c _
  rwa [pair_says h0 h1] at q
end StrChars
end Jvm.Pilot.@@N@@
namespace Jvm.Pilot.@@N@@
open Jvm Jvm.ClassFile Sem Op Lib Jvm.Free Jvm.Free.XT Jvm.Stand Jvm.LawKit Jvm.RoadKit Bundle Jvm.Pilot.@@N@@.Jvm.D
theorem own_d {c : Code} {code : ByteArray} (h : c.code = code) {pc : Nat} {r : Except DecodeError (Instr × Nat)} (h2 : decode code pc = r) : decode c.code pc = r := h ▸ h2
abbrev zF0 (Z : State) (h : Heap) (a : Addr) (v : Value) : Prop := Fld Z h a "java/util/ArrayList" "size" "I" v
abbrev zF1 (Z : State) (h : Heap) (a : Addr) (v : Value) : Prop := Fld Z h a "java/util/ArrayList" "elementData" "[Ljava/lang/Object;" v
abbrev zF2 (Z : State) (h : Heap) (a : Addr) (v : Value) : Prop := Fld Z h a "java/util/AbstractList" "modCount" "I" v
abbrev zF3 (Z : State) (h : Heap) (a : Addr) (v : Value) : Prop := Fld Z h a "java/util/ImmutableCollections$List12" "e0" "Ljava/lang/Object;" v
abbrev zF4 (Z : State) (h : Heap) (a : Addr) (v : Value) : Prop := Fld Z h a "java/util/ImmutableCollections$List12" "e1" "Ljava/lang/Object;" v
abbrev zF5 (Z : State) (h : Heap) (a : Addr) (v : Value) : Prop := Fld Z h a "java/util/ImmutableCollections$ListItr" "size" "I" v
abbrev zF6 (Z : State) (h : Heap) (a : Addr) (v : Value) : Prop := Fld Z h a "java/util/ImmutableCollections$ListItr" "cursor" "I" v
abbrev zF7 (Z : State) (h : Heap) (a : Addr) (v : Value) : Prop := Fld Z h a "java/util/ImmutableCollections$ListItr" "list" "Ljava/util/List;" v
abbrev zF8 (Z : State) (h : Heap) (a : Addr) (v : Value) : Prop := Fld Z h a "java/util/ImmutableCollections$ListN" "elements" "[Ljava/lang/Object;" v
abbrev zF9 (Z : State) (h : Heap) (a : Addr) (v : Value) : Prop := Fld Z h a "java/lang/AbstractStringBuilder" "coder" "B" v
abbrev zF10 (Z : State) (h : Heap) (a : Addr) (v : Value) : Prop := Fld Z h a "java/lang/AbstractStringBuilder" "count" "I" v
abbrev zF11 (Z : State) (h : Heap) (a : Addr) (v : Value) : Prop := Fld Z h a "java/lang/String" "coder" "B" v
abbrev zF12 (Z : State) (h : Heap) (a : Addr) (v : Value) : Prop := Fld Z h a "java/lang/AbstractStringBuilder" "value" "[B" v
abbrev zF13 (Z : State) (h : Heap) (a : Addr) (v : Value) : Prop := Fld Z h a "java/lang/String" "value" "[B" v
abbrev zF14 (Z : State) (h : Heap) (a : Addr) (v : Value) : Prop := Fld Z h a "com/example/ontology_over_tables/ontologyovertables/mapping/TriplesMap$TermMap" "parts" "Ljava/util/List;" v
abbrev zF15 (Z : State) (h : Heap) (a : Addr) (v : Value) : Prop := Fld Z h a "java/util/Optional" "value" "Ljava/lang/Object;" v
abbrev zF16 (Z : State) (h : Heap) (a : Addr) (v : Value) : Prop := Fld Z h a "com/example/ontology_over_tables/ontologyovertables/mapping/TriplesMap$TermMap" "iri" "Z" v
abbrev zF17 (Z : State) (h : Heap) (a : Addr) (v : Value) : Prop := Fld Z h a "com/example/ontology_over_tables/ontologyovertables/mapping/TriplesMap$TermMap" "iriSafe" "Z" v
abbrev zF18 (Z : State) (h : Heap) (a : Addr) (v : Value) : Prop := Fld Z h a "com/example/ontology_over_tables/ontologyovertables/mapping/TriplesMap$TermMap$Text" "text" "Ljava/lang/String;" v
abbrev zF19 (Z : State) (h : Heap) (a : Addr) (v : Value) : Prop := Fld Z h a "java/util/ImmutableCollections$ListItr" "isListIterator" "Z" v
abbrev zE0 (Z : State) (h : Heap) (a : Addr) : Prop := Exa Z h a "[Ljava/lang/Object;"
abbrev zE1 (Z : State) (h : Heap) (a : Addr) : Prop := Exa Z h a "java/util/ArrayList"
abbrev zE2 (Z : State) (h : Heap) (a : Addr) : Prop := Exa Z h a "java/util/ImmutableCollections$List12"
abbrev zE3 (Z : State) (h : Heap) (a : Addr) : Prop := Exa Z h a "java/util/ImmutableCollections$ListN"
abbrev zE4 (Z : State) (h : Heap) (a : Addr) : Prop := Exa Z h a "java/lang/String"
abbrev zE5 (Z : State) (h : Heap) (a : Addr) : Prop := Exa Z h a "java/util/ImmutableCollections$ListItr"
abbrev zE6 (Z : State) (h : Heap) (a : Addr) : Prop := Exa Z h a "java/lang/StringBuilder"
abbrev zE7 (Z : State) (h : Heap) (a : Addr) : Prop := Exa Z h a "java/util/Optional"
abbrev zE8 (Z : State) (h : Heap) (a : Addr) : Prop := Exa Z h a "com/example/ontology_over_tables/ontologyovertables/mapping/TriplesMap$TermMap"
set_option maxRecDepth 65536
set_option maxHeartbeats 40000000
theorem own_w {Z : State} {a0 : Array Value} (hw : ∀ d ∈ tables_1, d.before a0 Z = true) (i : Nat) {d : Jvm.Cond} (h : tables_1[i]? = some d) : d.before a0 Z = true := hw _ (List.mem_of_getElem? h)
abbrev oS (p : Program) (e : Env) (b : List Frame) (S T : State) (g : JFrame) : Prop := Steps p.tables e b S (T.setTop g)
abbrev sI (x : Int32) : Slot := .val (.int x)
abbrev sR (x : Addr) : Slot := .val (.ref x)
theorem lM {x : Addr} {ws : List Addr} (i : Nat) (h : ws[i]? = some x) : x ∈ ws := List.mem_of_getElem? h
theorem oN {a b n : Nat} (h : a < n) (q : n ≤ b) : a ≠ b := Nat.ne_of_lt (Nat.lt_of_lt_of_le h q)
abbrev dL (k : ByteArray) (L : List (Nat × Instr × Nat)) : Prop := ∀ q ∈ L, decode k q.1 = .ok (q.2.1, q.2.2)
theorem dX {k : ByteArray} {L : List (Nat × Instr × Nat)} {c : Code} (D : dL k L) (dB : ∀ {pc : Nat} {r : Except DecodeError (Instr × Nat)}, decode k pc = r → decode c.code pc = r) (i : Nat) {pc n : Nat} {j : Instr} (h : L[i]? = some (pc, j, n)) : decode c.code pc = .ok (j, n) := dB (D (pc, j, n) (List.mem_of_getElem? h))
theorem nB {a b : Nat} (h : Nat.ble a b = true) : a ≤ b := Nat.le_of_ble_eq_true h
abbrev uN : Slot := .unset
abbrev oH (a0 : Array Value) (Z : State) : Prop := ∀ d ∈ tables_1, d.before a0 Z = true
abbrev oQ {p : Program} {l : Launch} {e : Env} {R : Room} {s : State} {m : MethodId} {args : Array Value} {below : List Frame} {meth : Method} {c : Code} {T : State} {locs : List Loc} {cells slots : Nat} (_ : Stand p l e R s m args below meth c T locs cells slots) (S : State) (pc : Nat) (ls : Array Slot) (st : List Value) : Prop := Steps p.tables e below S (T.setTop (mkF m pc ls st))
abbrev oC (l : Launch) (y : MethodName) (w : Jvm.Cond) (rm : Room) (as : Array Value) (Z : State) (h0 : Heap) (Q : Option Value → Heap → List Loc → Prop) : Prop := MetFree l y (head1 [w] rm) (fun a_ U_ => a_ = as ∧ Z.Warmed39 U_.vm ∧ U_.heap = h0) (fun _ _ _ _ _ => True) (fun _ U_ o_ V_ => ∃ v_ L_, o_ = .returned v_ ∧ Q v_ V_.heap L_ ∧ FrameEnd U_ o_ V_ L_ rm.cells rm.slots)
theorem oO {l : Launch} {y : MethodName} {w : Jvm.Cond} {rm : Room} {as : Array Value} {Z : State} {h0 : Heap} {Q : Option Value → Heap → List Loc → Prop} {code : ByteArray} {maxL : Nat} {ret : Option FieldType} (hx : plainFor y = true) (his : ∀ args (s : State) m, (head1 [w] rm).pre.before args s = true → s.methodNamed? y = some m → ∃ meth c, s.vm.method? m = some meth ∧ meth.code = some c ∧ c.code = code ∧ c.maxLocals = maxL ∧ meth.sig.returnType = ret ∧ meth.locks = false)
    (body : ∀ p e s m below meth c s₁ S0, BodyLoose p l y (head1 [w] rm) code maxL ret e s m as below meth c s₁ → S0 = s₁.setTop (entryFrame m as maxL) → p.tables.exec = Jvm.exec → (∀ {pc : Nat} {r : Except DecodeError (Instr × Nat)}, decode code pc = r → decode c.code pc = r) → c.maxLocals = maxL → s.vm.findClass y.cls = some m.cls → meth.name = y.name → Z.Warmed39 s.vm → Stand p l e rm s m as below meth c s₁ [] 0 0 → s₁.heap = h0 → ∃ s₂ o, Steps p.tables e below S0 s₂ ∧ s₂.status = .running ∧ Ended s₂ below o ∧ ∃ v L, o = .returned v ∧ Q v s₂.heap L ∧ FrameEnd s o s₂ L rm.cells rm.slots) : oC l y w rm as Z h0 Q := by
  refine MetFree.of_bodySF hx his ?_
  intro p e s m args below meth c s₁ Bd hml hP hK
  obtain ⟨rfl, hZ, hh⟩ := hP
  exact body p e s m below meth c s₁ _ Bd rfl Bd.exec (fun h => own_d Bd.bytes h) hml (findClass_of_methodNamed Bd.named) (name_of_methodNamed Bd.named Bd.method).1 hZ (Stand.of_body Bd) (by rw [← hh, Bd.state]; rfl)
theorem oE {p : Program} {e : Env} {below : List Frame} {s₁ S0 : State} {m : MethodId} {as : Array Value} {k : Nat} {g : JFrame} (hS : S0 = s₁.setTop (entryFrame m as k)) (h : entryFrame m as k = g) : Steps p.tables e below S0 (s₁.setTop g) := by
  subst hS; rw [h]; exact Steps.refl _
theorem oRA {p : Program} {l : Launch} {e : Env} {R : Room} {s : State} {m : MethodId} {args : Array Value} {below : List Frame} {meth : Method} {c : Code} {T : State} {locs : List Loc} {cells slots : Nat} (X : Stand p l e R s m args below meth c T locs cells slots) {y : MethodName} {S : Spec} {code : ByteArray} {maxL : Nat} {ret : Option FieldType} {s₁ : State} (Bd : BodyLoose p l y S code maxL ret e s m args below meth c s₁) {S0 : State} {pc : Nat} {Ls : Array Slot} {w : Value} {t : FieldType} {h : Heap} {Q : Option Value → Heap → List Loc → Prop} (cc : Steps p.tables e below S0 (T.setTop (mkF m pc Ls [w]))) (hd : decode c.code pc = .ok (.areturn, 1)) (hr : ret = some t) (hw : w.isRef = true) (ht : t.isReference = true) (eT : T.heap = h) (q : Q (some w) h locs) (hc : cells ≤ R.cells := by exact nB rfl) (hs : slots ≤ R.slots := by exact nB rfl) : ∃ s₂ o, Steps p.tables e below S0 s₂ ∧ s₂.status = .running ∧ Ended s₂ below o ∧ ∃ v L, o = .returned v ∧ Q v s₂.heap L ∧ FrameEnd s o s₂ L R.cells R.slots := by
  obtain ⟨fs, hr_, hrun, hended, hW, hsame⟩ := X.leave (v := some w) (fun h => by rw [Bd.returns, hr] at h; cases h) Bd.notSynchronized
  refine ⟨_, _, cc.trans (X.areturnOut Bd.exec hw (Bd.returns.trans hr) ht hd hr_), hrun, hended, _, _, rfl, ?_, ⟨_, rfl⟩, hW, hsame.mono hc hs⟩
  show Q (some w) T.heap locs
  rw [eT]; exact q
theorem oRI {p : Program} {l : Launch} {e : Env} {R : Room} {s : State} {m : MethodId} {args : Array Value} {below : List Frame} {meth : Method} {c : Code} {T : State} {locs : List Loc} {cells slots : Nat} (X : Stand p l e R s m args below meth c T locs cells slots) {y : MethodName} {S : Spec} {code : ByteArray} {maxL : Nat} {ret : Option FieldType} {s₁ : State} (Bd : BodyLoose p l y S code maxL ret e s m args below meth c s₁) {S0 : State} {pc : Nat} {Ls : Array Slot} {w : Int32} {t : FieldType} {h : Heap} {Q : Option Value → Heap → List Loc → Prop} (cc : Steps p.tables e below S0 (T.setTop (mkF m pc Ls [.int w]))) (hd : decode c.code pc = .ok (.ireturn, 1)) (hr : ret = some t) (hn : narrow t (.int w) = .int w) (hti : t = .int ∨ t = .boolean ∨ t = .byte ∨ t = .char ∨ t = .short) (eT : T.heap = h) (q : Q (some (.int w)) h locs) (hc : cells ≤ R.cells := by exact nB rfl) (hs : slots ≤ R.slots := by exact nB rfl) : ∃ s₂ o, Steps p.tables e below S0 s₂ ∧ s₂.status = .running ∧ Ended s₂ below o ∧ ∃ v L, o = .returned v ∧ Q v s₂.heap L ∧ FrameEnd s o s₂ L R.cells R.slots := by
  obtain ⟨fs, hr_, hrun, hended, hW, hsame⟩ := X.leave (v := some (.int w)) (fun h => by rw [Bd.returns, hr] at h; cases h) Bd.notSynchronized
  refine ⟨_, _, cc.trans (X.ireturnOut Bd.exec (Bd.returns.trans hr) hn hti hd hr_), hrun, hended, _, _, rfl, ?_, ⟨_, rfl⟩, hW, hsame.mono hc hs⟩
  show Q (some (.int w)) T.heap locs
  rw [eT]; exact q
theorem oRV {p : Program} {l : Launch} {e : Env} {R : Room} {s : State} {m : MethodId} {args : Array Value} {below : List Frame} {meth : Method} {c : Code} {T : State} {locs : List Loc} {cells slots : Nat} (X : Stand p l e R s m args below meth c T locs cells slots) {y : MethodName} {S : Spec} {code : ByteArray} {maxL : Nat} {ret : Option FieldType} {s₁ : State} (Bd : BodyLoose p l y S code maxL ret e s m args below meth c s₁) {S0 : State} {pc : Nat} {Ls : Array Slot} {h : Heap} {Q : Option Value → Heap → List Loc → Prop} (cc : Steps p.tables e below S0 (T.setTop (mkF m pc Ls []))) (hd : decode c.code pc = .ok (.return_, 1)) (hr : ret = none) (eT : T.heap = h) (q : Q none h locs) (hc : cells ≤ R.cells := by exact nB rfl) (hs : slots ≤ R.slots := by exact nB rfl) : ∃ s₂ o, Steps p.tables e below S0 s₂ ∧ s₂.status = .running ∧ Ended s₂ below o ∧ ∃ v L, o = .returned v ∧ Q v s₂.heap L ∧ FrameEnd s o s₂ L R.cells R.slots := by
  obtain ⟨fs, hr_, hrun, hended, hW, hsame⟩ := X.leave (v := none) (fun _ => rfl) Bd.notSynchronized
  refine ⟨_, _, cc.trans (X.returnOut Bd.exec (Bd.returns.trans hr) hd hr_), hrun, hended, _, _, rfl, ?_, ⟨_, rfl⟩, hW, hsame.mono hc hs⟩
  show Q none T.heap locs
  rw [eT]; exact q
theorem own_mvM {Z s : State} {a0 args : Array Value} {own host : String} {y : MethodName} {index : Nat} (hZ : Z.Warmed39 s.vm) (w : (Jvm.Cond.methodLinkNest own index y host).before a0 Z = true) : (Jvm.Cond.methodLinkNest own index y host).before args s = true := (Cond.methodLinkNest_wide hZ w :)
abbrev oPre (R : Room) (h : Heap) (as' : Array Value) (kc ks : Nat) : Pt → Array Value → Prop := fun A a => a = as' ∧ A.U.heap = h ∧ A.cells + kc ≤ R.cells ∧ A.slots + ks ≤ R.slots
abbrev oPost (Q : Option Value → Heap → List Loc → Prop) (kc ks : Nat) : Pt → Array Value → Option Value → Pt → Prop := fun A _ v B => ∃ L, Q v B.U.heap L ∧ B.locs = A.locs ++ L ∧ B.cells = A.cells + kc ∧ B.slots = A.slots + ks
theorem bO {p : Program} {l : Launch} {e : Env} {R : Room} {s : State} {args : Array Value} {below : List Frame} {Z : State} {a0 : Array Value} {h : Heap} {y : MethodName} {bytes : ByteArray} {maxL : Nat} {ret : Option FieldType} {rm : Room} {len W : Nat} {as' : Array Value} {Q : Option Value → Heap → List Loc → Prop} (hM : oC l y (.code y bytes maxL ret) rm as' Z h Q) (hZ : Z.Warmed39 s.vm) (wc : (Jvm.Cond.code y bytes maxL ret).before a0 Z = true) (wz : (Jvm.Cond.initialized y.cls).before a0 Z = true) (hf : rm.frames + 1 ≤ R.frames := by exact nB rfl) (hl : W + (maxL + 11) + rm.locals ≤ R.locals := by exact nB rfl) : Back l R p e below s args y len W (oPre R h as' rm.cells rm.slots) (oPost Q rm.cells rm.slots) := backOf hM hZ wc wz hf hl
theorem bW {p : Program} {l : Launch} {e : Env} {R : Room} {s : State} {args : Array Value} {below : List Frame} {Z : State} {a0 : Array Value} {h : Heap} {y : MethodName} {bytes : ByteArray} {maxL : Nat} {ret : Option FieldType} {rm : Room} {len W : Nat} {as' : Array Value} {Q : Option Value → Heap → List Loc → Prop} {hs : List (Nat × Nat × Nat × Nat)} (hM : oC l y (.codeWith y bytes maxL ret hs) rm as' Z h Q) (hZ : Z.Warmed39 s.vm) (wc : (Jvm.Cond.codeWith y bytes maxL ret hs).before a0 Z = true) (wz : (Jvm.Cond.initialized y.cls).before a0 Z = true) (hf : rm.frames + 1 ≤ R.frames := by exact nB rfl) (hl : W + (maxL + 11) + rm.locals ≤ R.locals := by exact nB rfl) : Back l R p e below s args y len W (oPre R h as' rm.cells rm.slots) (oPost Q rm.cells rm.slots) := backOfWith hM hZ wc wz hf hl
theorem oCT {p : Program} {l : Launch} {e : Env} {R : Room} {s : State} {m : MethodId} {args : Array Value} {below : List Frame} {meth : Method} {c : Code} {T : State} {locs : List Loc} {cells slots : Nat} (X : Stand p l e R s m args below meth c T locs cells slots) {S0 : State} {pc : Nat} {ls : Array Slot} {stk : List Value} (cc : Steps p.tables e below S0 (T.setTop (mkF m pc ls stk))) (hx : p.tables.exec = Jvm.exec) {Z : State} (hZ : Z.Warmed39 s.vm) {own : String} (hown : s.vm.findClass own = some m.cls) {k : Nat} (hml : c.maxLocals = k) {a0 : Array Value} {h : Heap} {index : Nat} {y : MethodName} {bytes : ByteArray} {maxL : Nat} {ret : Option FieldType} (hd : decode c.code pc = .ok (.invokestatic index, 3)) (eT : T.heap = h) (w1 : (Jvm.Cond.methodLink own index y).before a0 Z = true) (w2 : (Jvm.Cond.static y).before a0 Z = true) (w3 : (Jvm.Cond.initialized y.cls).before a0 Z = true) (w4 : (Jvm.Cond.code y bytes maxL ret).before a0 Z = true) (hy : y.cls ≠ "java/lang/invoke/MethodHandle" ∧ y.cls ≠ "java/lang/invoke/VarHandle") (argsL rest : List Value) (hlen : ∀ sig, parseMethodDescriptor y.desc = some sig → argsL.length = sig.parameters.length) {as' : Array Value} {Q : Option Value → Heap → List Loc → Prop} {kc ks : Nat} (hK : Back l R p e below s args y 3 ((rest.map fun v => v.category).sum) (oPre R h as' kc ks) (oPost Q kc ks)) (hk : ls.size = k := by exact rfl) (hs : stk = argsL.reverse ++ rest := by exact rfl) (ha : argsL.toArray = as' := by exact rfl) (hc : cells + kc ≤ R.cells := by exact nB rfl) (hn : slots + ks ≤ R.slots := by exact nB rfl) : ∃ (v : Option Value) (T' : State) (L : List Loc), Stand p l e R s m args below meth c T' (locs ++ L) (cells + kc) (slots + ks) ∧ Q v T'.heap L ∧ Steps p.tables e below S0 (T'.setTop (mkF m (pc + 3) ls (v.toList ++ rest))) := by
  obtain ⟨v, _, ⟨T', L', k', n'⟩, -, X', ⟨L, hQ, e1, e2, e3⟩, st⟩ := Jvm.LawKit.callS X hx hown (mvT hZ w1) (mvT hZ w2) (mvT hZ w3) (mvT hZ w4) hy hK (g := mkF m pc ls stk) rfl (hk.trans hml.symm) hlen hs (by show 2 * 0 + _ ≤ _; exact Nat.le_of_eq (Nat.zero_add _)) hd (fun _ _ => ⟨ha, eT, hc, hn⟩)
  dsimp only [Pt.U, Pt.locs, Pt.cells, Pt.slots] at X' hQ e1 e2 e3 st
  subst e1 e2 e3
  exact ⟨v, T', L, X', hQ, cc.trans (st _ (Steps.refl _))⟩
theorem oCN {p : Program} {l : Launch} {e : Env} {R : Room} {s : State} {m : MethodId} {args : Array Value} {below : List Frame} {meth : Method} {c : Code} {T : State} {locs : List Loc} {cells slots : Nat} (X : Stand p l e R s m args below meth c T locs cells slots) {S0 : State} {pc : Nat} {ls : Array Slot} {stk : List Value} (cc : Steps p.tables e below S0 (T.setTop (mkF m pc ls stk))) (hx : p.tables.exec = Jvm.exec) {Z : State} (hZ : Z.Warmed39 s.vm) {own : String} (hown : s.vm.findClass own = some m.cls) {k : Nat} (hml : c.maxLocals = k) {a0 : Array Value} {h : Heap} {index : Nat} {y : MethodName} {bytes : ByteArray} {maxL : Nat} (hd : decode c.code pc = .ok (.invokespecial index, 3)) (eT : T.heap = h) (a : Addr) (hi : y.name = "<init>") (w1 : (Jvm.Cond.methodLink own index y).before a0 Z = true) (w2 : (Jvm.Cond.instanceMethod y).before a0 Z = true) (w3 : (Jvm.Cond.code y bytes maxL none).before a0 Z = true) (hy : y.cls ≠ "java/lang/invoke/MethodHandle" ∧ y.cls ≠ "java/lang/invoke/VarHandle") (argsL rest : List Value) (hlen : ∀ sig, parseMethodDescriptor y.desc = some sig → argsL.length = sig.parameters.length) {as' : Array Value} {Q : Option Value → Heap → List Loc → Prop} {kc ks : Nat} (hK : Back l R p e below s args y 3 ((rest.map fun v => v.category).sum) (oPre R h as' kc ks) (oPost Q kc ks)) (hk : ls.size = k := by exact rfl) (hs : stk = argsL.reverse ++ .ref a :: rest := by exact rfl) (ha : (.ref a :: argsL).toArray = as' := by exact rfl) (hc : cells + kc ≤ R.cells := by exact nB rfl) (hn : slots + ks ≤ R.slots := by exact nB rfl) : ∃ (v : Option Value) (T' : State) (L : List Loc), Stand p l e R s m args below meth c T' (locs ++ L) (cells + kc) (slots + ks) ∧ Q v T'.heap L ∧ Steps p.tables e below S0 (T'.setTop (mkF m (pc + 3) ls (v.toList ++ rest))) := by
  obtain ⟨v, _, ⟨T', L', k', n'⟩, -, X', ⟨L, hQ, e1, e2, e3⟩, st⟩ := X.specialBack hx hi hown (mvT hZ w1) (mvT hZ w2) (mvT hZ w3) hy hK (g := mkF m pc ls stk) rfl (hk.trans hml.symm) cc (a := a) hlen hs (by show 2 * 0 + _ ≤ _; exact Nat.le_of_eq (Nat.zero_add _)) hd (fun _ _ => ⟨ha, eT, hc, hn⟩)
  dsimp only [Pt.U, Pt.locs, Pt.cells, Pt.slots] at X' hQ e1 e2 e3 st
  subst e1 e2 e3
  exact ⟨v, T', L, X', hQ, st⟩
theorem oCM {p : Program} {l : Launch} {e : Env} {R : Room} {s : State} {m : MethodId} {args : Array Value} {below : List Frame} {meth : Method} {c : Code} {T : State} {locs : List Loc} {cells slots : Nat} (X : Stand p l e R s m args below meth c T locs cells slots) {S0 : State} {pc : Nat} {ls : Array Slot} {stk : List Value} (cc : Steps p.tables e below S0 (T.setTop (mkF m pc ls stk))) (hx : p.tables.exec = Jvm.exec) {Z : State} (hZ : Z.Warmed39 s.vm) {own : String} (hown : s.vm.findClass own = some m.cls) {k : Nat} (hml : c.maxLocals = k) {a0 : Array Value} {h : Heap} {index : Nat} {host : String} {y : MethodName} {bytes : ByteArray} {maxL : Nat} (hd : decode c.code pc = .ok (.invokespecial index, 3)) (eT : T.heap = h) (a : Addr) (hi : y.name = "<init>") (w1 : (Jvm.Cond.methodLinkNest own index y host).before a0 Z = true) (w2 : (Jvm.Cond.instanceMethod y).before a0 Z = true) (w3 : (Jvm.Cond.code y bytes maxL none).before a0 Z = true) (hy : y.cls ≠ "java/lang/invoke/MethodHandle" ∧ y.cls ≠ "java/lang/invoke/VarHandle") (argsL rest : List Value) (hlen : ∀ sig, parseMethodDescriptor y.desc = some sig → argsL.length = sig.parameters.length) {as' : Array Value} {Q : Option Value → Heap → List Loc → Prop} {kc ks : Nat} (hK : Back l R p e below s args y 3 ((rest.map fun v => v.category).sum) (oPre R h as' kc ks) (oPost Q kc ks)) (hk : ls.size = k := by exact rfl) (hs : stk = argsL.reverse ++ .ref a :: rest := by exact rfl) (ha : (.ref a :: argsL).toArray = as' := by exact rfl) (hc : cells + kc ≤ R.cells := by exact nB rfl) (hn : slots + ks ≤ R.slots := by exact nB rfl) : ∃ (v : Option Value) (T' : State) (L : List Loc), Stand p l e R s m args below meth c T' (locs ++ L) (cells + kc) (slots + ks) ∧ Q v T'.heap L ∧ Steps p.tables e below S0 (T'.setTop (mkF m (pc + 3) ls (v.toList ++ rest))) := by
  obtain ⟨v, _, ⟨T', L', k', n'⟩, -, X', ⟨L, hQ, e1, e2, e3⟩, st⟩ := X.specialBackNest hx hi hown (own_mvM hZ w1) (mvT hZ w2) (mvT hZ w3) hy hK (g := mkF m pc ls stk) rfl (hk.trans hml.symm) cc (a := a) hlen hs (by show 2 * 0 + _ ≤ _; exact Nat.le_of_eq (Nat.zero_add _)) hd (fun _ _ => ⟨ha, eT, hc, hn⟩)
  dsimp only [Pt.U, Pt.locs, Pt.cells, Pt.slots] at X' hQ e1 e2 e3 st
  subst e1 e2 e3
  exact ⟨v, T', L, X', hQ, st⟩
theorem oCV {p : Program} {l : Launch} {e : Env} {R : Room} {s : State} {m : MethodId} {args : Array Value} {below : List Frame} {meth : Method} {c : Code} {T : State} {locs : List Loc} {cells slots : Nat} (X : Stand p l e R s m args below meth c T locs cells slots) {S0 : State} {pc : Nat} {ls : Array Slot} {stk : List Value} (cc : Steps p.tables e below S0 (T.setTop (mkF m pc ls stk))) (hx : p.tables.exec = Jvm.exec) {Z : State} (hZ : Z.Warmed39 s.vm) {own : String} (hown : s.vm.findClass own = some m.cls) {k : Nat} (hml : c.maxLocals = k) {a0 : Array Value} {h : Heap} {index : Nat} {y z : MethodName} {C : String} {a : Addr} (hd : decode c.code pc = .ok (.invokevirtual index, 3)) (eT : T.heap = h) (E : Exa Z h a C) (w1 : (Jvm.Cond.methodLink own index y).before a0 Z = true) (w2 : (Jvm.Cond.declares y).before a0 Z = true) (nf : NotFace s y) (w3 : (Jvm.Cond.selects C y z).before a0 Z = true) (w4 : (Jvm.Cond.instanceMethod z).before a0 Z = true) (hy : y.cls ≠ "java/lang/invoke/MethodHandle" ∧ y.cls ≠ "java/lang/invoke/VarHandle") (argsL rest : List Value) (hlen : ∀ sig, parseMethodDescriptor y.desc = some sig → argsL.length = sig.parameters.length) {as' : Array Value} {Q : Option Value → Heap → List Loc → Prop} {kc ks : Nat} (hK : Back l R p e below s args z 3 ((rest.map fun v => v.category).sum) (oPre R h as' kc ks) (oPost Q kc ks)) (hk : ls.size = k := by exact rfl) (hs : stk = argsL.reverse ++ .ref a :: rest := by exact rfl) (ha : (.ref a :: argsL).toArray = as' := by exact rfl) (hc : cells + kc ≤ R.cells := by exact nB rfl) (hn : slots + ks ≤ R.slots := by exact nB rfl) : ∃ (v : Option Value) (T' : State) (L : List Loc), Stand p l e R s m args below meth c T' (locs ++ L) (cells + kc) (slots + ks) ∧ Q v T'.heap L ∧ Steps p.tables e below S0 (T'.setTop (mkF m (pc + 3) ls (v.toList ++ rest))) := by
  obtain ⟨cq, kq, qa, qb, qc⟩ := isOf hZ eT E
  obtain ⟨v, _, ⟨T', L', k', n'⟩, -, X', ⟨L, hQ, e1, e2, e3⟩, st⟩ := X.virtualBack hx hown (mvT hZ w1) (mvT hZ w2) nf (mvT hZ w3) (mvT hZ w4) hy hK qa qc (g := mkF m pc ls stk) rfl (hk.trans hml.symm) cc hlen hs (by show 2 * 0 + _ ≤ _; exact Nat.le_of_eq (Nat.zero_add _)) hd (fun _ _ => ⟨ha, eT, hc, hn⟩)
  dsimp only [Pt.U, Pt.locs, Pt.cells, Pt.slots] at X' hQ e1 e2 e3 st
  subst e1 e2 e3
  exact ⟨v, T', L, X', hQ, st⟩
theorem oCU {p : Program} {l : Launch} {e : Env} {R : Room} {s : State} {m : MethodId} {args : Array Value} {below : List Frame} {meth : Method} {c : Code} {T : State} {locs : List Loc} {cells slots : Nat} (X : Stand p l e R s m args below meth c T locs cells slots) {S0 : State} {pc : Nat} {ls : Array Slot} {stk : List Value} (cc : Steps p.tables e below S0 (T.setTop (mkF m pc ls stk))) (hx : p.tables.exec = Jvm.exec) {Z : State} (hZ : Z.Warmed39 s.vm) {own : String} (hown : s.vm.findClass own = some m.cls) {k : Nat} (hml : c.maxLocals = k) {a0 : Array Value} {h : Heap} {index : Nat} {y z : MethodName} {C ow : String} {a : Addr} (hd : decode c.code pc = .ok (.invokevirtual index, 3)) (eT : T.heap = h) (E : Exa Z h a C) (w1 : (Jvm.Cond.methodLink own index y).before a0 Z = true) (w2 : (Jvm.Cond.sameMethod y.cls ow y.name y.desc).before a0 Z = true) (w3 : (Jvm.Cond.declares ⟨ow, y.name, y.desc⟩).before a0 Z = true) (how : ow ≠ "java/lang/invoke/MethodHandle" ∧ ow ≠ "java/lang/invoke/VarHandle") (w4 : (Jvm.Cond.selects C y z).before a0 Z = true) (w5 : (Jvm.Cond.instanceMethod z).before a0 Z = true) (argsL rest : List Value) (hlen : ∀ sig, parseMethodDescriptor y.desc = some sig → argsL.length = sig.parameters.length) {as' : Array Value} {Q : Option Value → Heap → List Loc → Prop} {kc ks : Nat} (hK : Back l R p e below s args z 3 ((rest.map fun v => v.category).sum) (oPre R h as' kc ks) (oPost Q kc ks)) (hk : ls.size = k := by exact rfl) (hs : stk = argsL.reverse ++ .ref a :: rest := by exact rfl) (ha : (.ref a :: argsL).toArray = as' := by exact rfl) (hc : cells + kc ≤ R.cells := by exact nB rfl) (hn : slots + ks ≤ R.slots := by exact nB rfl) : ∃ (v : Option Value) (T' : State) (L : List Loc), Stand p l e R s m args below meth c T' (locs ++ L) (cells + kc) (slots + ks) ∧ Q v T'.heap L ∧ Steps p.tables e below S0 (T'.setTop (mkF m (pc + 3) ls (v.toList ++ rest))) := by
  obtain ⟨cq, kq, qa, qb, qc⟩ := isOf hZ eT E
  obtain ⟨v, _, ⟨T', L', k', n'⟩, -, X', ⟨L, hQ, e1, e2, e3⟩, st⟩ := X.virtualBackUp hx hown (mvT hZ w1) (mvT hZ w2) (mvT hZ w3) how (mvT hZ w4) (mvT hZ w5) hK qa qc (g := mkF m pc ls stk) rfl (hk.trans hml.symm) cc hlen hs (by show 2 * 0 + _ ≤ _; exact Nat.le_of_eq (Nat.zero_add _)) hd (fun _ _ => ⟨ha, eT, hc, hn⟩)
  dsimp only [Pt.U, Pt.locs, Pt.cells, Pt.slots] at X' hQ e1 e2 e3 st
  subst e1 e2 e3
  exact ⟨v, T', L, X', hQ, st⟩
theorem oCI {p : Program} {l : Launch} {e : Env} {R : Room} {s : State} {m : MethodId} {args : Array Value} {below : List Frame} {meth : Method} {c : Code} {T : State} {locs : List Loc} {cells slots : Nat} (X : Stand p l e R s m args below meth c T locs cells slots) {S0 : State} {pc : Nat} {ls : Array Slot} {stk : List Value} (cc : Steps p.tables e below S0 (T.setTop (mkF m pc ls stk))) (hx : p.tables.exec = Jvm.exec) {Z : State} (hZ : Z.Warmed39 s.vm) {own : String} (hown : s.vm.findClass own = some m.cls) {k : Nat} (hml : c.maxLocals = k) {a0 : Array Value} {h : Heap} {index : Nat} {count : Nat} {y z : MethodName} {C : String} {a : Addr} (hd : decode c.code pc = .ok (.invokeinterface index count, 5)) (eT : T.heap = h) (E : Exa Z h a C) (w1 : (Jvm.Cond.methodLink own index y).before a0 Z = true) (w2 : (Jvm.Cond.declares y).before a0 Z = true) (w3 : (Jvm.Cond.interfaceMethod y.cls y.cls y.name y.desc).before args s = true) (w4 : (Jvm.Cond.selects C y z).before a0 Z = true) (w5 : (Jvm.Cond.instanceMethod z).before a0 Z = true) (w6 : (Jvm.Cond.publicMethod z).before a0 Z = true) (w7 : (Jvm.Cond.unhidden C y.name y.desc).before a0 Z = true) (w8 : (Jvm.Cond.castable C y.cls).before a0 Z = true) (hy : y.cls ≠ "java/lang/invoke/MethodHandle" ∧ y.cls ≠ "java/lang/invoke/VarHandle") (argsL rest : List Value) (hlen : ∀ sig, parseMethodDescriptor y.desc = some sig → argsL.length = sig.parameters.length) {as' : Array Value} {Q : Option Value → Heap → List Loc → Prop} {kc ks : Nat} (hK : Back l R p e below s args z 5 ((rest.map fun v => v.category).sum) (oPre R h as' kc ks) (oPost Q kc ks)) (hk : ls.size = k := by exact rfl) (hs : stk = argsL.reverse ++ .ref a :: rest := by exact rfl) (ha : (.ref a :: argsL).toArray = as' := by exact rfl) (hc : cells + kc ≤ R.cells := by exact nB rfl) (hn : slots + ks ≤ R.slots := by exact nB rfl) : ∃ (v : Option Value) (T' : State) (L : List Loc), Stand p l e R s m args below meth c T' (locs ++ L) (cells + kc) (slots + ks) ∧ Q v T'.heap L ∧ Steps p.tables e below S0 (T'.setTop (mkF m (pc + 5) ls (v.toList ++ rest))) := by
  obtain ⟨cq, kq, qa, qb, qc⟩ := isOf hZ eT E
  obtain ⟨v, _, ⟨T', L', k', n'⟩, -, X', ⟨L, hQ, e1, e2, e3⟩, st⟩ := X.interfaceBack hx hown (mvT hZ w1) (mvT hZ w2) w3 (mvT hZ w4) (mvT hZ w5) (mvT hZ w6) (mvT hZ w7) (mvT hZ w8) hy hK qa qb qc (g := mkF m pc ls stk) rfl (hk.trans hml.symm) cc hlen hs (by show 2 * 0 + _ ≤ _; exact Nat.le_of_eq (Nat.zero_add _)) hd (fun _ _ => ⟨ha, eT, hc, hn⟩)
  dsimp only [Pt.U, Pt.locs, Pt.cells, Pt.slots] at X' hQ e1 e2 e3 st
  subst e1 e2 e3
  exact ⟨v, T', L, X', hQ, st⟩
theorem oCP {p : Program} {l : Launch} {e : Env} {R : Room} {s : State} {m : MethodId} {args : Array Value} {below : List Frame} {meth : Method} {c : Code} {T : State} {locs : List Loc} {cells slots : Nat} (X : Stand p l e R s m args below meth c T locs cells slots) {S0 : State} {pc : Nat} {ls : Array Slot} {stk : List Value} (cc : Steps p.tables e below S0 (T.setTop (mkF m pc ls stk))) (hx : p.tables.exec = Jvm.exec) {Z : State} (hZ : Z.Warmed39 s.vm) {own : String} (hown : s.vm.findClass own = some m.cls) {k : Nat} (hml : c.maxLocals = k) {a0 : Array Value} {h : Heap} {index : Nat} {y : MethodName} {C : String} {a : Addr} {bytes : ByteArray} {maxL : Nat} {ret : Option FieldType} (hd : decode c.code pc = .ok (.invokevirtual index, 3)) (eT : T.heap = h) (E : Exa Z h a C) (w1 : (Jvm.Cond.methodLink own index y).before a0 Z = true) (w2 : (Jvm.Cond.instanceMethod y).before a0 Z = true) (sl : (Jvm.Cond.selects y.cls y y).before args s = true) (w3 : (Jvm.Cond.privateMethod y).before a0 Z = true) (w4 : (Jvm.Cond.code y bytes maxL ret).before a0 Z = true) (hy : y.cls ≠ "java/lang/invoke/MethodHandle" ∧ y.cls ≠ "java/lang/invoke/VarHandle") (argsL rest : List Value) (hlen : ∀ sig, parseMethodDescriptor y.desc = some sig → argsL.length = sig.parameters.length) {as' : Array Value} {Q : Option Value → Heap → List Loc → Prop} {kc ks : Nat} (hK : Back l R p e below s args y 3 ((rest.map fun v => v.category).sum) (oPre R h as' kc ks) (oPost Q kc ks)) (hk : ls.size = k := by exact rfl) (hs : stk = argsL.reverse ++ .ref a :: rest := by exact rfl) (ha : (.ref a :: argsL).toArray = as' := by exact rfl) (hc : cells + kc ≤ R.cells := by exact nB rfl) (hn : slots + ks ≤ R.slots := by exact nB rfl) : ∃ (v : Option Value) (T' : State) (L : List Loc), Stand p l e R s m args below meth c T' (locs ++ L) (cells + kc) (slots + ks) ∧ Q v T'.heap L ∧ Steps p.tables e below S0 (T'.setTop (mkF m (pc + 3) ls (v.toList ++ rest))) := by
  obtain ⟨cq, qa, qb⟩ := E.cell
  obtain ⟨v, _, ⟨T', L', k', n'⟩, -, X', ⟨L, hQ, e1, e2, e3⟩, st⟩ := X.privateBack hx hown (mvT hZ w1) (mvT hZ w2) sl (Cond.privateMethod_at (mvP hZ w3 (args := #[]))) (mvT hZ w4) hy hK (g := mkF m pc ls stk) rfl (hk.trans hml.symm) cc (a := a) (by rw [eT]; exact qa) qb hlen hs (by show 2 * 0 + _ ≤ _; exact Nat.le_of_eq (Nat.zero_add _)) hd (fun _ _ => ⟨ha, eT, hc, hn⟩)
  dsimp only [Pt.U, Pt.locs, Pt.cells, Pt.slots] at X' hQ e1 e2 e3 st
  subst e1 e2 e3
  exact ⟨v, T', L, X', hQ, st⟩
theorem oCS {p : Program} {l : Launch} {e : Env} {R : Room} {s : State} {m : MethodId} {args : Array Value} {below : List Frame} {meth : Method} {c : Code} {T : State} {locs : List Loc} {cells slots : Nat} (X : Stand p l e R s m args below meth c T locs cells slots) {S0 : State} {pc : Nat} {ls : Array Slot} {stk : List Value} (cc : Steps p.tables e below S0 (T.setTop (mkF m pc ls stk))) (hx : p.tables.exec = Jvm.exec) {Z : State} (hZ : Z.Warmed39 s.vm) {own : String} (hown : s.vm.findClass own = some m.cls) {k : Nat} (hml : c.maxLocals = k) {a0 : Array Value} {h : Heap} {index : Nat} {y : MethodName} {C : String} {a : Addr} {bytes : ByteArray} {maxL : Nat} {ret : Option FieldType} (hd : decode c.code pc = .ok (.invokespecial index, 3)) (eT : T.heap = h) (E : Exa Z h a C) (w1 : (Jvm.Cond.methodLink own index y).before a0 Z = true) (w2 : (Jvm.Cond.sameMethod y.cls y.cls y.name y.desc).before a0 Z = true) (w3 : (Jvm.Cond.instanceMethod y).before a0 Z = true) (w4 : (Jvm.Cond.superclass own y.cls).before a0 Z = true) (hi : y.name ≠ "<init>") (wc : (Jvm.Cond.code y bytes maxL ret).before a0 Z = true) (argsL rest : List Value) (hlen : ∀ sig, parseMethodDescriptor y.desc = some sig → argsL.length = sig.parameters.length) {as' : Array Value} {Q : Option Value → Heap → List Loc → Prop} {kc ks : Nat} (hK : Back l R p e below s args y 3 ((rest.map fun v => v.category).sum) (oPre R h as' kc ks) (oPost Q kc ks)) (hk : ls.size = k := by exact rfl) (hs : stk = argsL.reverse ++ .ref a :: rest := by exact rfl) (ha : (.ref a :: argsL).toArray = as' := by exact rfl) (hc : cells + kc ≤ R.cells := by exact nB rfl) (hn : slots + ks ≤ R.slots := by exact nB rfl) : ∃ (v : Option Value) (T' : State) (L : List Loc), Stand p l e R s m args below meth c T' (locs ++ L) (cells + kc) (slots + ks) ∧ Q v T'.heap L ∧ Steps p.tables e below S0 (T'.setTop (mkF m (pc + 3) ls (v.toList ++ rest))) := by
  obtain ⟨v, _, ⟨T', L', k', n'⟩, -, X', ⟨L, hQ, e1, e2, e3⟩, st⟩ := superBack X hx hZ hown w1 w2 w3 w4 hi hK eT (Ins.self E) (g := mkF m pc ls stk) rfl (hk.trans hml.symm) wc hlen hs (by show 2 * 0 + _ ≤ _; exact Nat.le_of_eq (Nat.zero_add _)) hd (fun _ _ => ⟨ha, eT, hc, hn⟩)
  dsimp only [Pt.U, Pt.locs, Pt.cells, Pt.slots] at X' hQ e1 e2 e3 st
  subst e1 e2 e3
  exact ⟨v, T', L, X', hQ, cc.trans st⟩
theorem oGF {p : Program} {l : Launch} {e : Env} {R : Room} {s : State} {m : MethodId} {args : Array Value} {below : List Frame} {meth : Method} {c : Code} {T : State} {locs : List Loc} {cells slots : Nat} (X : Stand p l e R s m args below meth c T locs cells slots) {S0 : State} {pc : Nat} {ls : Array Slot} {stk : List Value} (cc : Steps p.tables e below S0 (T.setTop (mkF m pc ls stk))) (hx : p.tables.exec = Jvm.exec) {Z : State} (hZ : Z.Warmed39 s.vm) {own : String} (hown : s.vm.findClass own = some m.cls) {a0 : Array Value} {h : Heap} {R0 O n d : String} {index : Nat} (w : (Jvm.Cond.fieldLink own index R0 n d).before a0 Z = true) (via : Via Z R0 O n d) (eT : T.heap = h) {a : Addr} {v : Value} (F : Fld Z h a O n d v) (hd : decode c.code pc = .ok (.getfield index, 3)) {rest : List Value} (hs : stk = .ref a :: rest := by exact rfl) : ∃ T', Stand p l e R s m args below meth c T' locs cells slots ∧ T'.heap = h ∧ Steps p.tables e below S0 (T'.setTop (mkF m (pc + 3) ls (v :: rest))) := by
  obtain ⟨T', X', e', st⟩ := getF X hx hZ hown (host := "") (Or.inl w) via eT F (g := mkF m pc ls stk) rfl hs hd
  exact ⟨T', X', e', cc.trans (st _ (Steps.refl _))⟩
theorem oGS {p : Program} {l : Launch} {e : Env} {R : Room} {s : State} {m : MethodId} {args : Array Value} {below : List Frame} {meth : Method} {c : Code} {T : State} {locs : List Loc} {cells slots : Nat} (X : Stand p l e R s m args below meth c T locs cells slots) {S0 : State} {pc : Nat} {ls : Array Slot} {stk : List Value} (cc : Steps p.tables e below S0 (T.setTop (mkF m pc ls stk))) (hx : p.tables.exec = Jvm.exec) {Z : State} (hZ : Z.Warmed39 s.vm) {own : String} (hown : s.vm.findClass own = some m.cls) {a0 : Array Value} {h : Heap} {R0 O n d : String} {index : Nat} {host : String} (w : (Jvm.Cond.fieldLink own index R0 n d).before a0 Z = true ∨ (Jvm.Cond.fieldLinkNest own index R0 n d host).before a0 Z = true) (via : Via Z R0 O n d) (eT : T.heap = h) {v : Value} (F : Sta Z h O n d v) (hd : decode c.code pc = .ok (.getstatic index, 3)) : ∃ T', Stand p l e R s m args below meth c T' locs cells slots ∧ T'.heap = h ∧ Steps p.tables e below S0 (T'.setTop (mkF m (pc + 3) ls (v :: stk))) := by
  obtain ⟨T', X', e', st⟩ := getS2 X hx hZ hown w via eT F (g := mkF m pc ls stk) rfl hd
  exact ⟨T', X', e', cc.trans (st _ (Steps.refl _))⟩
theorem oPF {p : Program} {l : Launch} {e : Env} {R : Room} {s : State} {m : MethodId} {args : Array Value} {below : List Frame} {meth : Method} {c : Code} {T : State} {locs : List Loc} {cells slots : Nat} (X : Stand p l e R s m args below meth c T locs cells slots) {S0 : State} {pc : Nat} {ls : Array Slot} {stk : List Value} (cc : Steps p.tables e below S0 (T.setTop (mkF m pc ls stk))) (hx : p.tables.exec = Jvm.exec) {Z : State} (hZ : Z.Warmed39 s.vm) {own : String} (hown : s.vm.findClass own = some m.cls) {a0 : Array Value} {h : Heap} {R0 O n d : String} {index : Nat} {C : String} {kk : Nat} {ty : FieldType} (w : (Jvm.Cond.fieldLink own index R0 n d).before a0 Z = true) (via : Via Z R0 O n d) (eT : T.heap = h) {a : Addr} {v v' old : Value} (F : Fld Z h a O n d old) (E : Exa Z h a C) (La : (Jvm.Cond.lays C O n d).before a0 Z = true ∨ ((Jvm.Cond.laysFinal C O n d).before a0 Z = true ∧ own = O ∧ meth.name = "<init>")) (wi : (Jvm.Cond.instantiable C kk).before a0 Z = true) (hty : parseFieldDescriptor d = some ty) (hn : narrow ty v = v') (hf : fits ty v' = true) (hd : decode c.code pc = .ok (.putfield index, 3)) {rest : List Value} (hs : stk = v :: .ref a :: rest := by exact rfl) : ∃ T' h', Stand p l e R s m args below meth c T' (locs ++ [⟨a, Jvm.RoadKit.slotOf Z O n d⟩]) cells slots ∧ T'.heap = h' ∧ Wr h h' a (Jvm.RoadKit.slotOf Z O n d) v' ∧ Steps p.tables e below S0 (T'.setTop (mkF m (pc + 3) ls rest)) := by
  obtain ⟨T', h', X', e', W', st⟩ := putFN X hx hZ hown w via eT F E La wi hty hn hf (g := mkF m pc ls stk) rfl hs hd
  exact ⟨T', h', X', e', W', cc.trans (st _ (Steps.refl _))⟩
abbrev rM0 : Room := { frames := 1, cells := 0, slots := 0, locals := 12 }
abbrev yM0 : MethodName := ⟨"java/lang/Record", "<init>", "()V"⟩
theorem own_pn0 : plainName "java/lang/Record" = true := by first | (simp [plainName, overriddenIn]; done) | decide +kernel
abbrev rM1 : Room := { frames := 0, cells := 0, slots := 0, locals := 0 }
abbrev yM1 : MethodName := ⟨"java/util/Objects", "requireNonNull", "(Ljava/lang/Object;Ljava/lang/String;)Ljava/lang/Object;"⟩
theorem own_pn1 : plainName "java/util/Objects" = true := by first | (simp [plainName, overriddenIn]; done) | decide +kernel
abbrev yM2 : MethodName := ⟨"java/util/Objects", "requireNonNull", "(Ljava/lang/Object;)Ljava/lang/Object;"⟩
abbrev yM3 : MethodName := ⟨"java/lang/StringLatin1", "canEncode", "(C)Z"⟩
theorem own_pn2 : plainName "java/lang/StringLatin1" = true := by first | (simp [plainName, overriddenIn]; done) | decide +kernel
abbrev rM2 : Room := { frames := 0, cells := 1, slots := 1, locals := 0 }
abbrev yM4 : MethodName := ⟨"java/lang/StringLatin1", "toBytes", "(C)[B"⟩
abbrev yM5 : MethodName := ⟨"java/lang/String", "<init>", "([BB)V"⟩
theorem own_pn3 : plainName "java/lang/String" = true := by first | (simp [plainName, overriddenIn]; done) | decide +kernel
abbrev rM3 : Room := { frames := 1, cells := 4, slots := 8, locals := 12 }
abbrev yM6 : MethodName := ⟨"java/lang/String", "<init>", "([CIILjava/lang/Void;)V"⟩
abbrev rM4 : Room := { frames := 2, cells := 4, slots := 8, locals := 29 }
theorem own_pd0 : parseMethodDescriptor "([CIILjava/lang/Void;)V" = some ⟨[(.array .char), .int, .int, (.object "java/lang/Void")], none⟩ := by decide +kernel
abbrev yM7 : MethodName := ⟨"java/lang/String", "<init>", "([C)V"⟩
abbrev rM5 : Room := { frames := 2, cells := 2, slots := 5, locals := 40 }
theorem own_pd1 : parseMethodDescriptor "(C)Z" = some ⟨[.char], some .boolean⟩ := by decide +kernel
theorem own_pd2 : parseMethodDescriptor "(C)[B" = some ⟨[.char], some (.array .byte)⟩ := by decide +kernel
theorem own_pd3 : parseMethodDescriptor "([BB)V" = some ⟨[(.array .byte), .byte], none⟩ := by decide +kernel
abbrev yM8 : MethodName := ⟨"java/lang/String", "valueOf", "(C)Ljava/lang/String;"⟩
abbrev rM6 : Room := { frames := 2, cells := 0, slots := 0, locals := 25 }
theorem own_pd4 : parseMethodDescriptor "()V" = some ⟨[], none⟩ := by decide +kernel
abbrev yM9 : MethodName := ⟨"com/example/ontology_over_tables/ontologyovertables/mapping/SqlIdentifier", "<init>", "(Ljava/lang/String;Z)V"⟩
theorem own_pn4 : plainName "com/example/ontology_over_tables/ontologyovertables/mapping/SqlIdentifier" = true := by first | (simp [plainName, overriddenIn]; done) | decide +kernel
abbrev rM7 : Room := { frames := 2, cells := 2, slots := 24, locals := 25 }
theorem own_pd5 : parseMethodDescriptor "(Ljava/lang/Object;Ljava/lang/String;)Ljava/lang/Object;" = some ⟨[(.object "java/lang/Object"), (.object "java/lang/String")], some (.object "java/lang/Object")⟩ := by decide +kernel
abbrev yM10 : MethodName := ⟨"com/example/ontology_over_tables/ontologyovertables/mapping/TriplesMap$TermMap$Column", "<init>", "(Lcom/example/ontology_over_tables/ontologyovertables/mapping/SqlIdentifier;)V"⟩
theorem own_pn5 : plainName "com/example/ontology_over_tables/ontologyovertables/mapping/TriplesMap$TermMap$Column" = true := by first | (simp [plainName, overriddenIn]; done) | decide +kernel
abbrev yM11 : MethodName := ⟨"com/example/ontology_over_tables/ontologyovertables/mapping/TriplesMap$TermMap$Text", "<init>", "(Ljava/lang/String;)V"⟩
theorem own_pn6 : plainName "com/example/ontology_over_tables/ontologyovertables/mapping/TriplesMap$TermMap$Text" = true := by first | (simp [plainName, overriddenIn]; done) | decide +kernel
abbrev yM12 : MethodName := ⟨"com/example/ontology_over_tables/ontologyovertables/mapping/TriplesMap$TermMap$Text", "text", "()Ljava/lang/String;"⟩
abbrev yM13 : MethodName := ⟨"java/util/AbstractCollection", "<init>", "()V"⟩
theorem own_pn7 : plainName "java/util/AbstractCollection" = true := by first | (simp [plainName, overriddenIn]; done) | decide +kernel
abbrev yM14 : MethodName := ⟨"java/util/AbstractList", "<init>", "()V"⟩
theorem own_pn8 : plainName "java/util/AbstractList" = true := by first | (simp [plainName, overriddenIn]; done) | decide +kernel
abbrev rM8 : Room := { frames := 3, cells := 0, slots := 0, locals := 38 }
abbrev yM15 : MethodName := ⟨"java/util/ArrayList", "<init>", "()V"⟩
theorem own_pn9 : plainName "java/util/ArrayList" = true := by first | (simp [plainName, overriddenIn]; done) | decide +kernel
abbrev yM16 : MethodName := ⟨"java/lang/Math", "max", "(II)I"⟩
abbrev rM9 : Room := { frames := 1, cells := 1, slots := 10, locals := 16 }
theorem own_pd6 : parseMethodDescriptor "(II)I" = some ⟨[.int, .int], some .int⟩ := by decide +kernel
abbrev yM17 : MethodName := ⟨"java/util/ArrayList", "grow", "(I)[Ljava/lang/Object;"⟩
abbrev rM10 : Room := { frames := 2, cells := 1, slots := 10, locals := 32 }
theorem own_pd7 : parseMethodDescriptor "(I)[Ljava/lang/Object;" = some ⟨[.int], some (.array (.object "java/lang/Object"))⟩ := by decide +kernel
abbrev yM18 : MethodName := ⟨"java/util/ArrayList", "grow", "()[Ljava/lang/Object;"⟩
abbrev rM11 : Room := { frames := 3, cells := 1, slots := 10, locals := 48 }
theorem own_pd8 : parseMethodDescriptor "()[Ljava/lang/Object;" = some ⟨[], some (.array (.object "java/lang/Object"))⟩ := by decide +kernel
abbrev yM19 : MethodName := ⟨"java/util/ArrayList", "add", "(Ljava/lang/Object;[Ljava/lang/Object;I)V"⟩
abbrev rM12 : Room := { frames := 4, cells := 1, slots := 10, locals := 64 }
theorem own_pd9 : parseMethodDescriptor "(Ljava/lang/Object;[Ljava/lang/Object;I)V" = some ⟨[(.object "java/lang/Object"), (.array (.object "java/lang/Object")), .int], none⟩ := by decide +kernel
abbrev yM20 : MethodName := ⟨"java/util/ArrayList", "add", "(Ljava/lang/Object;)Z"⟩
abbrev rM13 : Room := { frames := 1, cells := 0, slots := 0, locals := 16 }
abbrev yM21 : MethodName := ⟨"java/lang/Math", "min", "(II)I"⟩
abbrev rM14 : Room := { frames := 1, cells := 1, slots := 1, locals := 40 }
abbrev yM22 : MethodName := ⟨"java/util/Arrays", "copyOf", "([Ljava/lang/Object;ILjava/lang/Class;)[Ljava/lang/Object;"⟩
theorem own_pn10 : plainName "java/util/Arrays" = true := by first | (simp [plainName, overriddenIn]; done) | decide +kernel
abbrev rM15 : Room := { frames := 2, cells := 1, slots := 1, locals := 56 }
theorem own_pd10 : parseMethodDescriptor "([Ljava/lang/Object;ILjava/lang/Class;)[Ljava/lang/Object;" = some ⟨[(.array (.object "java/lang/Object")), .int, (.object "java/lang/Class")], some (.array (.object "java/lang/Object"))⟩ := by decide +kernel
abbrev yM23 : MethodName := ⟨"java/util/Arrays", "copyOf", "([Ljava/lang/Object;I)[Ljava/lang/Object;"⟩
abbrev rM16 : Room := { frames := 3, cells := 1, slots := 1, locals := 70 }
theorem own_pd11 : parseMethodDescriptor "([Ljava/lang/Object;I)[Ljava/lang/Object;" = some ⟨[(.array (.object "java/lang/Object")), .int], some (.array (.object "java/lang/Object"))⟩ := by decide +kernel
abbrev yM24 : MethodName := ⟨"java/util/ArrayList", "toArray", "()[Ljava/lang/Object;"⟩
abbrev rM17 : Room := { frames := 1, cells := 1, slots := 2, locals := 40 }
abbrev rM18 : Room := { frames := 2, cells := 1, slots := 2, locals := 56 }
abbrev rM19 : Room := { frames := 3, cells := 1, slots := 2, locals := 70 }
abbrev rM20 : Room := { frames := 1, cells := 1, slots := 3, locals := 40 }
abbrev rM21 : Room := { frames := 2, cells := 1, slots := 3, locals := 56 }
abbrev rM22 : Room := { frames := 3, cells := 1, slots := 3, locals := 70 }
abbrev yM25 : MethodName := ⟨"java/util/ArrayList", "isEmpty", "()Z"⟩
abbrev yM26 : MethodName := ⟨"java/util/ImmutableCollections$AbstractImmutableCollection", "<init>", "()V"⟩
theorem own_pn11 : plainName "java/util/ImmutableCollections$AbstractImmutableCollection" = true := by first | (simp [plainName, overriddenIn]; done) | decide +kernel
abbrev yM27 : MethodName := ⟨"java/util/ImmutableCollections$AbstractImmutableList", "<init>", "()V"⟩
theorem own_pn12 : plainName "java/util/ImmutableCollections$AbstractImmutableList" = true := by first | (simp [plainName, overriddenIn]; done) | decide +kernel
abbrev rM23 : Room := { frames := 4, cells := 0, slots := 0, locals := 51 }
abbrev yM28 : MethodName := ⟨"java/util/ImmutableCollections$ListN", "<init>", "([Ljava/lang/Object;Z)V"⟩
theorem own_pn13 : plainName "java/util/ImmutableCollections$ListN" = true := by first | (simp [plainName, overriddenIn]; done) | decide +kernel
theorem own_pd12 : parseMethodDescriptor "(Ljava/lang/Object;)Ljava/lang/Object;" = some ⟨[(.object "java/lang/Object")], some (.object "java/lang/Object")⟩ := by decide +kernel
abbrev yM29 : MethodName := ⟨"java/util/ImmutableCollections$List12", "<init>", "(Ljava/lang/Object;)V"⟩
theorem own_pn14 : plainName "java/util/ImmutableCollections$List12" = true := by first | (simp [plainName, overriddenIn]; done) | decide +kernel
abbrev yM30 : MethodName := ⟨"java/util/ImmutableCollections$List12", "<init>", "(Ljava/lang/Object;Ljava/lang/Object;)V"⟩
abbrev rM24 : Room := { frames := 5, cells := 2, slots := 6, locals := 68 }
theorem own_pd13 : parseMethodDescriptor "([Ljava/lang/Object;Z)V" = some ⟨[(.array (.object "java/lang/Object")), .boolean], none⟩ := by decide +kernel
abbrev yM31 : MethodName := ⟨"java/util/ImmutableCollections", "listFromArray", "([Ljava/lang/Object;)Ljava/util/List;"⟩
theorem own_pn15 : plainName "java/util/ImmutableCollections" = true := by first | (simp [plainName, overriddenIn]; done) | decide +kernel
abbrev rM25 : Room := { frames := 6, cells := 2, slots := 6, locals := 82 }
theorem own_pd14 : parseMethodDescriptor "(Ljava/lang/Object;)V" = some ⟨[(.object "java/lang/Object")], none⟩ := by decide +kernel
abbrev yM32 : MethodName := ⟨"java/util/List", "of", "([Ljava/lang/Object;)Ljava/util/List;"⟩
theorem own_pn16 : plainName "java/util/List" = true := by first | (simp [plainName, overriddenIn]; done) | decide +kernel
theorem own_pd15 : parseMethodDescriptor "(Ljava/lang/Object;Ljava/lang/Object;)V" = some ⟨[(.object "java/lang/Object"), (.object "java/lang/Object")], none⟩ := by decide +kernel
theorem own_pd16 : parseMethodDescriptor "([Ljava/lang/Object;)Ljava/util/List;" = some ⟨[(.array (.object "java/lang/Object"))], some (.object "java/util/List")⟩ := by decide +kernel
abbrev yM33 : MethodName := ⟨"java/util/List", "of", "()Ljava/util/List;"⟩
abbrev rM26 : Room := { frames := 7, cells := 3, slots := 10, locals := 96 }
theorem own_pd17 : parseMethodDescriptor "()Z" = some ⟨[], some .boolean⟩ := by decide +kernel
abbrev yM34 : MethodName := ⟨"java/util/Collection", "isEmpty", "()Z"⟩
abbrev yM35 : MethodName := ⟨"java/util/Collection", "toArray", "()[Ljava/lang/Object;"⟩
abbrev yM36 : MethodName := ⟨"java/util/ImmutableCollections", "listCopy", "(Ljava/util/Collection;)Ljava/util/List;"⟩
abbrev rM27 : Room := { frames := 8, cells := 3, slots := 10, locals := 110 }
theorem own_pd18 : parseMethodDescriptor "(Ljava/util/Collection;)Ljava/util/List;" = some ⟨[(.object "java/util/Collection")], some (.object "java/util/List")⟩ := by decide +kernel
abbrev yM37 : MethodName := ⟨"java/util/List", "copyOf", "(Ljava/util/Collection;)Ljava/util/List;"⟩
abbrev rM28 : Room := { frames := 1, cells := 0, slots := 0, locals := 15 }
theorem own_pd19 : parseMethodDescriptor "()Ljava/util/List;" = some ⟨[], some (.object "java/util/List")⟩ := by decide +kernel
abbrev rM29 : Room := { frames := 2, cells := 0, slots := 0, locals := 30 }
abbrev rM30 : Room := { frames := 9, cells := 3, slots := 10, locals := 124 }
abbrev yM38 : MethodName := ⟨"com/example/ontology_over_tables/ontologyovertables/mapping/TriplesMap$TermMap", "<init>", "(Ljava/util/List;ZZ)V"⟩
theorem own_pn17 : plainName "com/example/ontology_over_tables/ontologyovertables/mapping/TriplesMap$TermMap" = true := by first | (simp [plainName, overriddenIn]; done) | decide +kernel
abbrev rM31 : Room := { frames := 3, cells := 0, slots := 0, locals := 45 }
abbrev yM39 : MethodName := ⟨"java/util/ImmutableCollections$ListN", "size", "()I"⟩
abbrev yM40 : MethodName := ⟨"java/util/ImmutableCollections$List12", "size", "()I"⟩
abbrev yM41 : MethodName := ⟨"java/util/ImmutableCollections$ListItr", "<init>", "(Ljava/util/List;I)V"⟩
theorem own_pn18 : plainName "java/util/ImmutableCollections$ListItr" = true := by first | (simp [plainName, overriddenIn]; done) | decide +kernel
abbrev rM32 : Room := { frames := 2, cells := 1, slots := 4, locals := 28 }
theorem own_pd20 : parseMethodDescriptor "()I" = some ⟨[], some .int⟩ := by decide +kernel
abbrev yM42 : MethodName := ⟨"java/util/ImmutableCollections$AbstractImmutableList", "size", "()I"⟩
theorem own_pd21 : parseMethodDescriptor "(Ljava/util/List;I)V" = some ⟨[(.object "java/util/List"), .int], none⟩ := by decide +kernel
abbrev yM43 : MethodName := ⟨"java/util/ImmutableCollections$AbstractImmutableList", "iterator", "()Ljava/util/Iterator;"⟩
abbrev yM44 : MethodName := ⟨"java/util/ImmutableCollections$ListItr", "hasNext", "()Z"⟩
abbrev yM45 : MethodName := ⟨"java/util/ImmutableCollections$List12", "get", "(I)Ljava/lang/Object;"⟩
abbrev rM33 : Room := { frames := 1, cells := 0, slots := 0, locals := 14 }
theorem own_pd22 : parseMethodDescriptor "(I)Ljava/lang/Object;" = some ⟨[.int], some (.object "java/lang/Object")⟩ := by decide +kernel
abbrev yM46 : MethodName := ⟨"java/util/List", "get", "(I)Ljava/lang/Object;"⟩
abbrev yM47 : MethodName := ⟨"java/util/ImmutableCollections$ListItr", "next", "()Ljava/lang/Object;"⟩
abbrev yM48 : MethodName := ⟨"java/util/ImmutableCollections$ListN", "get", "(I)Ljava/lang/Object;"⟩
abbrev yM49 : MethodName := ⟨"java/util/Optional", "<init>", "(Ljava/lang/Object;)V"⟩
theorem own_pn19 : plainName "java/util/Optional" = true := by first | (simp [plainName, overriddenIn]; done) | decide +kernel
abbrev rM34 : Room := { frames := 2, cells := 1, slots := 1, locals := 28 }
abbrev yM50 : MethodName := ⟨"java/util/Optional", "of", "(Ljava/lang/Object;)Ljava/util/Optional;"⟩
abbrev yM51 : MethodName := ⟨"java/util/Optional", "empty", "()Ljava/util/Optional;"⟩
abbrev yM52 : MethodName := ⟨"java/util/Optional", "isPresent", "()Z"⟩
abbrev yM53 : MethodName := ⟨"java/util/Optional", "get", "()Ljava/lang/Object;"⟩
abbrev yM54 : MethodName := ⟨"java/lang/String", "coder", "()B"⟩
abbrev rM35 : Room := { frames := 1, cells := 0, slots := 0, locals := 13 }
theorem own_pd23 : parseMethodDescriptor "()B" = some ⟨[], some .byte⟩ := by decide +kernel
abbrev yM55 : MethodName := ⟨"java/lang/String", "length", "()I"⟩
abbrev yM56 : MethodName := ⟨"java/lang/StringUTF16", "coderFromArrayLen", "([BI)B"⟩
theorem own_pn20 : plainName "java/lang/StringUTF16" = true := by first | (simp [plainName, overriddenIn]; done) | decide +kernel
abbrev yM57 : MethodName := ⟨"java/lang/StringUTF16", "compress", "([CI[BII)I"⟩
abbrev rM36 : Room := { frames := 1, cells := 1, slots := 2, locals := 20 }
theorem own_pd24 : parseMethodDescriptor "([CI[BII)I" = some ⟨[(.array .char), .int, (.array .byte), .int, .int], some .int⟩ := by decide +kernel
abbrev yM58 : MethodName := ⟨"java/lang/StringUTF16", "compress", "([CII)[B"⟩
abbrev rM37 : Room := { frames := 2, cells := 1, slots := 2, locals := 42 }
theorem own_pd25 : parseMethodDescriptor "([CII)[B" = some ⟨[(.array .char), .int, .int], some (.array .byte)⟩ := by decide +kernel
theorem own_pd26 : parseMethodDescriptor "([BI)B" = some ⟨[(.array .byte), .int], some .byte⟩ := by decide +kernel
abbrev rM38 : Room := { frames := 3, cells := 1, slots := 2, locals := 60 }
abbrev rM39 : Room := { frames := 1, cells := 1, slots := 16, locals := 12 }
abbrev yM59 : MethodName := ⟨"java/lang/AbstractStringBuilder", "<init>", "(I)V"⟩
theorem own_pn21 : plainName "java/lang/AbstractStringBuilder" = true := by first | (simp [plainName, overriddenIn]; done) | decide +kernel
abbrev rM40 : Room := { frames := 2, cells := 1, slots := 16, locals := 25 }
theorem own_pd27 : parseMethodDescriptor "(I)V" = some ⟨[.int], none⟩ := by decide +kernel
abbrev yM60 : MethodName := ⟨"java/lang/StringBuilder", "<init>", "()V"⟩
theorem own_pn22 : plainName "java/lang/StringBuilder" = true := by first | (simp [plainName, overriddenIn]; done) | decide +kernel
abbrev yM61 : MethodName := ⟨"java/lang/AbstractStringBuilder", "ensureCapacityInternal", "(I)V"⟩
abbrev yM62 : MethodName := ⟨"java/lang/AbstractStringBuilder", "inflateIfNeededFor", "(Ljava/lang/String;)V"⟩
abbrev rM41 : Room := { frames := 1, cells := 0, slots := 0, locals := 40 }
abbrev yM63 : MethodName := ⟨"java/lang/String", "getBytes", "([BIB)V"⟩
abbrev rM42 : Room := { frames := 2, cells := 0, slots := 0, locals := 55 }
theorem own_pd28 : parseMethodDescriptor "(Ljava/lang/String;)V" = some ⟨[(.object "java/lang/String")], none⟩ := by decide +kernel
theorem own_pd29 : parseMethodDescriptor "([BIB)V" = some ⟨[(.array .byte), .int, .byte], none⟩ := by decide +kernel
abbrev yM64 : MethodName := ⟨"java/lang/AbstractStringBuilder", "putStringAt", "(ILjava/lang/String;)V"⟩
abbrev rM43 : Room := { frames := 3, cells := 0, slots := 0, locals := 69 }
theorem own_pd30 : parseMethodDescriptor "(ILjava/lang/String;)V" = some ⟨[.int, (.object "java/lang/String")], none⟩ := by decide +kernel
abbrev yM65 : MethodName := ⟨"java/lang/AbstractStringBuilder", "append", "(Ljava/lang/String;)Ljava/lang/AbstractStringBuilder;"⟩
abbrev rM44 : Room := { frames := 4, cells := 0, slots := 0, locals := 83 }
theorem own_pd31 : parseMethodDescriptor "(Ljava/lang/String;)Ljava/lang/AbstractStringBuilder;" = some ⟨[(.object "java/lang/String")], some (.object "java/lang/AbstractStringBuilder")⟩ := by decide +kernel
abbrev yM66 : MethodName := ⟨"java/lang/StringBuilder", "append", "(Ljava/lang/String;)Ljava/lang/StringBuilder;"⟩
abbrev yM67 : MethodName := ⟨"java/lang/AbstractStringBuilder", "getValue", "()[B"⟩
abbrev yM68 : MethodName := ⟨"java/lang/AbstractStringBuilder", "length", "()I"⟩
abbrev yM69 : MethodName := ⟨"java/lang/StringBuilder", "length", "()I"⟩
abbrev yM70 : MethodName := ⟨"java/lang/AbstractStringBuilder", "isLatin1", "()Z"⟩
abbrev yM71 : MethodName := ⟨"java/util/Arrays", "checkLength", "(II)V"⟩
abbrev rM45 : Room := { frames := 1, cells := 1, slots := 16, locals := 40 }
theorem own_pd32 : parseMethodDescriptor "(II)V" = some ⟨[.int, .int], none⟩ := by decide +kernel
abbrev yM72 : MethodName := ⟨"java/util/Arrays", "copyOfRangeByte", "([BII)[B"⟩
abbrev rM46 : Room := { frames := 2, cells := 1, slots := 16, locals := 56 }
theorem own_pd33 : parseMethodDescriptor "([BII)[B" = some ⟨[(.array .byte), .int, .int], some (.array .byte)⟩ := by decide +kernel
abbrev yM73 : MethodName := ⟨"java/util/Arrays", "copyOfRange", "([BII)[B"⟩
abbrev rM47 : Room := { frames := 3, cells := 1, slots := 16, locals := 71 }
theorem own_pd34 : parseMethodDescriptor "()[B" = some ⟨[], some (.array .byte)⟩ := by decide +kernel
abbrev yM74 : MethodName := ⟨"java/lang/String", "<init>", "(Ljava/lang/AbstractStringBuilder;Ljava/lang/Void;)V"⟩
abbrev rM48 : Room := { frames := 4, cells := 1, slots := 16, locals := 87 }
theorem own_pd35 : parseMethodDescriptor "(Ljava/lang/AbstractStringBuilder;Ljava/lang/Void;)V" = some ⟨[(.object "java/lang/AbstractStringBuilder"), (.object "java/lang/Void")], none⟩ := by decide +kernel
abbrev yM75 : MethodName := ⟨"java/lang/String", "<init>", "(Ljava/lang/StringBuilder;)V"⟩
abbrev rM49 : Room := { frames := 5, cells := 2, slots := 20, locals := 101 }
theorem own_pd36 : parseMethodDescriptor "(Ljava/lang/StringBuilder;)V" = some ⟨[(.object "java/lang/StringBuilder")], none⟩ := by decide +kernel
abbrev yM76 : MethodName := ⟨"java/lang/StringBuilder", "toString", "()Ljava/lang/String;"⟩
abbrev rM50 : Room := { frames := 6, cells := 8, slots := 64, locals := 116 }
theorem own_pd37 : parseMethodDescriptor "()Ljava/util/Iterator;" = some ⟨[], some (.object "java/util/Iterator")⟩ := by decide +kernel
abbrev yM77 : MethodName := ⟨"java/util/List", "iterator", "()Ljava/util/Iterator;"⟩
abbrev yM78 : MethodName := ⟨"java/util/Iterator", "hasNext", "()Z"⟩
theorem own_pd38 : parseMethodDescriptor "()Ljava/lang/String;" = some ⟨[], some (.object "java/lang/String")⟩ := by decide +kernel
theorem own_pd39 : parseMethodDescriptor "(Ljava/lang/Object;)Ljava/util/Optional;" = some ⟨[(.object "java/lang/Object")], some (.object "java/util/Optional")⟩ := by decide +kernel
abbrev yM79 : MethodName := ⟨"com/example/ontology_over_tables/ontologyovertables/mapping/TriplesMap$TermMap", "constant", "()Ljava/util/Optional;"⟩
theorem own_pd40 : parseMethodDescriptor "()Ljava/lang/Object;" = some ⟨[], some (.object "java/lang/Object")⟩ := by decide +kernel
abbrev yM80 : MethodName := ⟨"java/util/Iterator", "next", "()Ljava/lang/Object;"⟩
theorem own_pd41 : parseMethodDescriptor "()Ljava/util/Optional;" = some ⟨[], some (.object "java/util/Optional")⟩ := by decide +kernel
theorem own_pd42 : parseMethodDescriptor "(Ljava/lang/String;)Ljava/lang/StringBuilder;" = some ⟨[(.object "java/lang/String")], some (.object "java/lang/StringBuilder")⟩ := by decide +kernel
abbrev yM81 : MethodName := ⟨"java/lang/String", "isLatin1", "()Z"⟩
abbrev yM82 : MethodName := ⟨"jdk/internal/util/Preconditions", "checkIndex", "(IILjava/util/function/BiFunction;)I"⟩
theorem own_pn23 : plainName "jdk/internal/util/Preconditions" = true := by first | (simp [plainName, overriddenIn]; done) | decide +kernel
theorem own_pd43 : parseMethodDescriptor "(IILjava/util/function/BiFunction;)I" = some ⟨[.int, .int, (.object "java/util/function/BiFunction")], some .int⟩ := by decide +kernel
abbrev yM83 : MethodName := ⟨"java/lang/String", "checkIndex", "(II)V"⟩
abbrev yM84 : MethodName := ⟨"java/lang/StringLatin1", "charAt", "([BI)C"⟩
abbrev rM51 : Room := { frames := 4, cells := 0, slots := 0, locals := 60 }
theorem own_pd44 : parseMethodDescriptor "([BI)C" = some ⟨[(.array .byte), .int], some .char⟩ := by decide +kernel
abbrev yM85 : MethodName := ⟨"java/lang/String", "charAt", "(I)C"⟩
abbrev rM52 : Room := { frames := 5, cells := 6, slots := 16, locals := 90 }
theorem own_pd45 : parseMethodDescriptor "([C)V" = some ⟨[(.array .char)], none⟩ := by decide +kernel
theorem own_pd46 : parseMethodDescriptor "(C)Ljava/lang/String;" = some ⟨[.char], some (.object "java/lang/String")⟩ := by decide +kernel
abbrev yM86 : MethodName := ⟨"com/example/ontology_over_tables/ontologyovertables/mapping/TermMapConstantPinLaw", "text", "(I)Ljava/lang/String;"⟩
theorem own_pn24 : plainName "com/example/ontology_over_tables/ontologyovertables/mapping/TermMapConstantPinLaw" = true := by first | (simp [plainName, overriddenIn]; done) | decide +kernel
abbrev rM53 : Room := { frames := 5, cells := 0, slots := 0, locals := 75 }
theorem own_pd47 : parseMethodDescriptor "(I)C" = some ⟨[.int], some .char⟩ := by decide +kernel
abbrev yM87 : MethodName := ⟨"com/example/ontology_over_tables/ontologyovertables/mapping/TermMapConstantPinLaw", "put", "([CILjava/lang/String;)I"⟩
abbrev yM88 : MethodName := ⟨"com/example/ontology_over_tables/ontologyovertables/mapping/TermMapConstantPinLaw", "same", "(Ljava/lang/String;[CI)Z"⟩
theorem own_pd48 : parseMethodDescriptor "(I)Ljava/lang/String;" = some ⟨[.int], some (.object "java/lang/String")⟩ := by decide +kernel
theorem own_pd49 : parseMethodDescriptor "(Ljava/lang/String;Z)V" = some ⟨[(.object "java/lang/String"), .boolean], none⟩ := by decide +kernel
theorem own_pd50 : parseMethodDescriptor "(Lcom/example/ontology_over_tables/ontologyovertables/mapping/SqlIdentifier;)V" = some ⟨[(.object "com/example/ontology_over_tables/ontologyovertables/mapping/SqlIdentifier")], none⟩ := by decide +kernel
theorem own_pd51 : parseMethodDescriptor "(Ljava/util/List;ZZ)V" = some ⟨[(.object "java/util/List"), .boolean, .boolean], none⟩ := by decide +kernel
theorem own_pd52 : parseMethodDescriptor "(Ljava/lang/String;[CI)Z" = some ⟨[(.object "java/lang/String"), (.array .char), .int], some .boolean⟩ := by decide +kernel
theorem own_pd53 : parseMethodDescriptor "(Ljava/lang/Object;)Z" = some ⟨[(.object "java/lang/Object")], some .boolean⟩ := by decide +kernel
theorem own_pd54 : parseMethodDescriptor "([CILjava/lang/String;)I" = some ⟨[(.array .char), .int, (.object "java/lang/String")], some .int⟩ := by decide +kernel
theorem D_0 : dL jdk_30_method_1_code [(0, .aload_n 0, 1), (1, .invokespecial 1, 3), (4, .return_, 1)] := by decide +kernel
theorem D_1 : dL jdk_31_method_11_code [(0, .aload_n 0, 1), (1, .ifnonnull 12, 3), (13, .aload_n 0, 1), (14, .areturn, 1)] := by decide +kernel
theorem D_2 : dL jdk_31_method_10_code [(0, .aload_n 0, 1), (1, .ifnonnull 11, 3), (12, .aload_n 0, 1), (13, .areturn, 1)] := by decide +kernel
theorem D_3 : dL jdk_43_method_3_code [(0, .iload_n 0, 1), (1, .sipush 255, 3), (4, .if_icmp .gt 7, 3), (7, .iconst 1, 1), (8, .goto 4, 3), (12, .ireturn, 1)] := by decide +kernel
theorem D_4 : dL jdk_43_method_46_code [(0, .iconst 1, 1), (1, .newarray .byte, 2), (3, .dup, 1), (4, .iconst 0, 1), (5, .iload_n 0, 1), (6, .i2b, 1), (7, .bastore, 1), (8, .areturn, 1)] := by decide +kernel
theorem D_5 : dL jdk_42_method_151_code [(0, .aload_n 0, 1), (1, .invokespecial 1, 3), (4, .aload_n 0, 1), (5, .aload_n 1, 1), (6, .putfield 9, 3), (9, .aload_n 0, 1), (10, .iload_n 2, 1), (11, .putfield 15, 3), (14, .return_, 1)] := by decide +kernel
theorem D_6 : dL jdk_42_method_149_code [(0, .aload_n 0, 1), (1, .invokespecial 1, 3), (4, .iload_n 3, 1), (5, .ifCond .ne 22, 3), (8, .aload_n 0, 1), (9, .ldc 7, 2), (11, .getfield 9, 3), (14, .putfield 9, 3), (17, .aload_n 0, 1), (18, .ldc 7, 2), (20, .getfield 15, 3), (23, .putfield 15, 3), (26, .return_, 1), (27, .getstatic 38, 3), (30, .ifCond .eq 28, 3), (33, .aload_n 1, 1), (34, .iload_n 2, 1), (35, .iload_n 3, 1), (36, .invokestatic 177, 3), (39, .astore 5, 2), (41, .aload_n 0, 1), (42, .aload 5, 2), (44, .iload_n 3, 1), (45, .invokestatic 47, 3), (48, .putfield 15, 3), (51, .aload_n 0, 1), (52, .aload 5, 2), (54, .putfield 9, 3), (57, .return_, 1)] := by decide +kernel
theorem D_7 : dL jdk_42_method_3_code [(0, .aload_n 0, 1), (1, .aload_n 1, 1), (2, .iconst 0, 1), (3, .aload_n 1, 1), (4, .arraylength, 1), (5, .aconst_null, 1), (6, .invokespecial 27, 3), (9, .return_, 1)] := by decide +kernel
theorem D_8 : dL jdk_42_method_139_code [(0, .getstatic 38, 3), (3, .ifCond .eq 23, 3), (6, .iload_n 0, 1), (7, .invokestatic 1015, 3), (10, .ifCond .eq 16, 3), (13, .new 10, 3), (16, .dup, 1), (17, .iload_n 0, 1), (18, .invokestatic 1018, 3), (21, .iconst 0, 1), (22, .invokespecial 209, 3), (25, .areturn, 1)] := by decide +kernel
theorem D_9 : dL prog_7_method_1_code [(0, .aload_n 0, 1), (1, .invokespecial 1, 3), (4, .aload_n 0, 1), (5, .aload_n 1, 1), (6, .putfield 7, 3), (9, .aload_n 0, 1), (10, .iload_n 2, 1), (11, .putfield 13, 3), (14, .return_, 1)] := by decide +kernel
theorem D_10 : dL prog_19_method_1_code [(0, .aload_n 0, 1), (1, .invokespecial 1, 3), (4, .aload_n 1, 1), (5, .ldc 7, 2), (7, .invokestatic 9, 3), (10, .pop, 1), (11, .aload_n 0, 1), (12, .aload_n 1, 1), (13, .putfield 15, 3), (16, .return_, 1)] := by decide +kernel
theorem D_11 : dL prog_21_method_1_code [(0, .aload_n 0, 1), (1, .invokespecial 1, 3), (4, .aload_n 1, 1), (5, .ldc 7, 2), (7, .invokestatic 9, 3), (10, .pop, 1), (11, .aload_n 0, 1), (12, .aload_n 1, 1), (13, .putfield 15, 3), (16, .return_, 1)] := by decide +kernel
theorem D_12 : dL prog_21_method_5_code [(0, .aload_n 0, 1), (1, .getfield 15, 3), (4, .areturn, 1)] := by decide +kernel
theorem D_13 : dL jdk_22_method_1_code [(0, .aload_n 0, 1), (1, .invokespecial 1, 3), (4, .return_, 1)] := by decide +kernel
theorem D_14 : dL jdk_39_method_1_code [(0, .aload_n 0, 1), (1, .invokespecial 1, 3), (4, .aload_n 0, 1), (5, .iconst 0, 1), (6, .putfield 7, 3), (9, .return_, 1)] := by decide +kernel
theorem D_15 : dL jdk_38_method_2_code [(0, .aload_n 0, 1), (1, .invokespecial 1, 3), (4, .aload_n 0, 1), (5, .getstatic 39, 3), (8, .putfield 9, 3), (11, .return_, 1)] := by decide +kernel
theorem D_16 : dL jdk_29_method_65_code [(0, .iload_n 0, 1), (1, .iload_n 1, 1), (2, .if_icmp .lt 7, 3), (5, .iload_n 0, 1), (6, .goto 4, 3), (10, .ireturn, 1)] := by decide +kernel
theorem D_17 : dL jdk_38_method_6_code [(0, .aload_n 0, 1), (1, .getfield 9, 3), (4, .arraylength, 1), (5, .istore_n 2, 1), (6, .iload_n 2, 1), (7, .ifCond .gt 13, 3), (10, .aload_n 0, 1), (11, .getfield 9, 3), (14, .getstatic 39, 3), (17, .if_acmp .eq 28, 3), (45, .aload_n 0, 1), (46, .bipush 10, 2), (48, .iload_n 1, 1), (49, .invokestatic 79, 3), (52, .anewarray 7, 3), (55, .dup_x1, 1), (56, .putfield 9, 3), (59, .areturn, 1)] := by decide +kernel
theorem D_18 : dL jdk_38_method_7_code [(0, .aload_n 0, 1), (1, .aload_n 0, 1), (2, .getfield 48, 3), (5, .iconst 1, 1), (6, .iadd, 1), (7, .invokevirtual 69, 3), (10, .areturn, 1)] := by decide +kernel
theorem D_19 : dL jdk_38_method_24_code [(0, .iload_n 3, 1), (1, .aload_n 2, 1), (2, .arraylength, 1), (3, .if_icmp .ne 8, 3), (6, .aload_n 0, 1), (7, .invokevirtual 129, 3), (10, .astore_n 2, 1), (11, .aload_n 2, 1), (12, .iload_n 3, 1), (13, .aload_n 1, 1), (14, .aastore, 1), (15, .aload_n 0, 1), (16, .iload_n 3, 1), (17, .iconst 1, 1), (18, .iadd, 1), (19, .putfield 48, 3), (22, .return_, 1)] := by decide +kernel
theorem D_20 : dL jdk_38_method_25_code [(0, .aload_n 0, 1), (1, .dup, 1), (2, .getfield 63, 3), (5, .iconst 1, 1), (6, .iadd, 1), (7, .putfield 63, 3), (10, .aload_n 0, 1), (11, .aload_n 1, 1), (12, .aload_n 0, 1), (13, .getfield 9, 3), (16, .aload_n 0, 1), (17, .getfield 48, 3), (20, .invokevirtual 131, 3), (23, .iconst 1, 1), (24, .ireturn, 1)] := by decide +kernel
theorem D_21 : dL jdk_29_method_69_code [(0, .iload_n 0, 1), (1, .iload_n 1, 1), (2, .if_icmp .gt 7, 3), (9, .iload_n 1, 1), (10, .ireturn, 1)] := by decide +kernel
theorem D_22 : dL jdk_65_method_120_code [(0, .aload_n 2, 1), (1, .ldc 110, 2), (3, .if_acmp .ne 10, 3), (6, .iload_n 1, 1), (7, .anewarray 2, 3), (10, .goto 14, 3), (24, .astore_n 3, 1), (25, .aload_n 0, 1), (26, .iconst 0, 1), (27, .aload_n 3, 1), (28, .iconst 0, 1), (29, .aload_n 0, 1), (30, .arraylength, 1), (31, .iload_n 1, 1), (32, .invokestatic 304, 3), (35, .invokestatic 150, 3), (38, .aload_n 3, 1), (39, .areturn, 1)] := by decide +kernel
theorem D_23 : dL jdk_65_method_119_code [(0, .aload_n 0, 1), (1, .iload_n 1, 1), (2, .aload_n 0, 1), (3, .invokevirtual 86, 3), (6, .invokestatic 300, 3), (9, .areturn, 1)] := by decide +kernel
theorem D_24 : dL jdk_38_method_16_code [(0, .aload_n 0, 1), (1, .getfield 9, 3), (4, .aload_n 0, 1), (5, .getfield 48, 3), (8, .invokestatic 66, 3), (11, .areturn, 1)] := by decide +kernel
theorem D_25 : dL jdk_38_method_9_code [(0, .aload_n 0, 1), (1, .getfield 48, 3), (4, .ifCond .ne 7, 3), (11, .iconst 0, 1), (12, .ireturn, 1), (7, .iconst 1, 1), (8, .goto 4, 3)] := by decide +kernel
theorem D_26 : dL jdk_47_method_1_code [(0, .aload_n 0, 1), (1, .invokespecial 1, 3), (4, .return_, 1)] := by decide +kernel
theorem D_27 : dL jdk_46_method_1_code [(0, .aload_n 0, 1), (1, .invokespecial 1, 3), (4, .return_, 1)] := by decide +kernel
theorem D_28 : dL jdk_45_method_1_code [(0, .aload_n 0, 1), (1, .invokespecial 1, 3), (4, .aload_n 0, 1), (5, .aload_n 1, 1), (6, .putfield 7, 3), (9, .aload_n 0, 1), (10, .iload_n 2, 1), (11, .putfield 13, 3), (14, .return_, 1)] := by decide +kernel
theorem D_29 : dL jdk_44_method_1_code [(0, .aload_n 0, 1), (1, .invokespecial 1, 3), (4, .aload_n 0, 1), (5, .aload_n 1, 1), (6, .invokestatic 7, 3), (9, .putfield 13, 3), (12, .aload_n 0, 1), (13, .getstatic 19, 3), (16, .putfield 24, 3), (19, .return_, 1)] := by decide +kernel
theorem D_30 : dL jdk_44_method_2_code [(0, .aload_n 0, 1), (1, .invokespecial 1, 3), (4, .aload_n 0, 1), (5, .aload_n 1, 1), (6, .invokestatic 7, 3), (9, .putfield 13, 3), (12, .aload_n 0, 1), (13, .aload_n 2, 1), (14, .invokestatic 7, 3), (17, .putfield 24, 3), (20, .return_, 1)] := by decide +kernel
theorem D_31 : dL jdk_56_method_4_code [(0, .aload_n 0, 1), (1, .arraylength, 1), (2, .anewarray 2, 3), (5, .astore_n 1, 1), (6, .iconst 0, 1), (7, .istore_n 2, 1), (8, .iload_n 2, 1), (9, .aload_n 0, 1), (10, .arraylength, 1), (11, .if_icmp .ge 18, 3), (14, .aload_n 1, 1), (15, .iload_n 2, 1), (16, .aload_n 0, 1), (17, .iload_n 2, 1), (18, .aaload, 1), (19, .invokestatic 37, 3), (22, .aastore, 1), (23, .iinc 2 1, 3), (26, .goto (-18), 3), (29, .new 12, 3), (32, .dup, 1), (33, .aload_n 1, 1), (34, .iconst 0, 1), (35, .invokespecial 43, 3), (38, .areturn, 1)] := by decide +kernel
theorem D_32 : dL jdk_40_method_47_code [(0, .aload_n 0, 1), (1, .arraylength, 1), (2, .tableswitch 57 0 2 #[26, 32, 43], 26), (34, .new 96, 3), (37, .dup, 1), (38, .aload_n 0, 1), (39, .iconst 0, 1), (40, .aaload, 1), (41, .invokespecial 98, 3), (44, .areturn, 1), (45, .new 96, 3), (48, .dup, 1), (49, .aload_n 0, 1), (50, .iconst 0, 1), (51, .aaload, 1), (52, .aload_n 0, 1), (53, .iconst 1, 1), (54, .aaload, 1), (55, .invokespecial 100, 3), (58, .areturn, 1), (59, .aload_n 0, 1), (60, .invokestatic 109, 3), (63, .areturn, 1)] := by decide +kernel
theorem D_33 : dL jdk_40_method_36_code [(0, .getstatic 90, 3), (3, .areturn, 1)] := by decide +kernel
theorem D_34 : dL jdk_56_method_3_code [(0, .aload_n 0, 1), (1, .instanceof 10, 3), (4, .ifCond .ne 22, 3), (7, .aload_n 0, 1), (8, .instanceof 12, 3), (11, .ifCond .eq 20, 3), (31, .aload_n 0, 1), (32, .invokeinterface 20 1, 5), (37, .ifCond .eq 7, 3), (44, .aload_n 0, 1), (45, .invokeinterface 30 1, 5), (50, .invokestatic 34, 3), (53, .areturn, 1), (40, .invokestatic 26, 3), (43, .areturn, 1)] := by decide +kernel
theorem D_35 : dL jdk_40_method_48_code [(0, .aload_n 0, 1), (1, .invokestatic 112, 3), (4, .areturn, 1)] := by decide +kernel
theorem D_36 : dL prog_18_method_1_code [(0, .aload_n 0, 1), (1, .invokespecial 1, 3), (4, .aload_n 1, 1), (5, .invokestatic 7, 3), (8, .astore_n 1, 1), (9, .aload_n 0, 1), (10, .aload_n 1, 1), (11, .putfield 13, 3), (14, .aload_n 0, 1), (15, .iload_n 2, 1), (16, .putfield 19, 3), (19, .aload_n 0, 1), (20, .iload_n 3, 1), (21, .putfield 23, 3), (24, .return_, 1)] := by decide +kernel
theorem D_37 : dL jdk_45_method_3_code [(0, .aload_n 0, 1), (1, .getfield 7, 3), (4, .arraylength, 1), (5, .ireturn, 1)] := by decide +kernel
theorem D_38 : dL jdk_44_method_3_code [(0, .aload_n 0, 1), (1, .getfield 24, 3), (4, .getstatic 19, 3), (7, .if_acmp .eq 7, 3), (14, .iconst 1, 1), (15, .ireturn, 1), (10, .iconst 2, 1), (11, .goto 4, 3)] := by decide +kernel
theorem D_39 : dL jdk_53_method_1_code [(0, .aload_n 0, 1), (1, .invokespecial 1, 3), (4, .aload_n 0, 1), (5, .aload_n 1, 1), (6, .putfield 7, 3), (9, .aload_n 0, 1), (10, .iload_n 2, 1), (11, .putfield 13, 3), (14, .aload_n 0, 1), (15, .iconst 0, 1), (16, .putfield 17, 3), (19, .aload_n 0, 1), (20, .iconst 0, 1), (21, .putfield 20, 3), (24, .return_, 1)] := by decide +kernel
theorem D_40 : dL jdk_46_method_10_code [(0, .new 61, 3), (3, .dup, 1), (4, .aload_n 0, 1), (5, .aload_n 0, 1), (6, .invokevirtual 13, 3), (9, .invokespecial 63, 3), (12, .areturn, 1)] := by decide +kernel
theorem D_41 : dL jdk_53_method_3_code [(0, .aload_n 0, 1), (1, .getfield 17, 3), (4, .aload_n 0, 1), (5, .getfield 13, 3), (8, .if_icmp .eq 7, 3), (11, .iconst 1, 1), (12, .goto 4, 3), (16, .ireturn, 1), (15, .iconst 0, 1)] := by decide +kernel
theorem D_42 : dL jdk_44_method_5_code [(0, .iload_n 1, 1), (1, .ifCond .ne 8, 3), (4, .aload_n 0, 1), (5, .getfield 13, 3), (8, .areturn, 1), (9, .iload_n 1, 1), (10, .iconst 1, 1), (11, .if_icmp .ne 18, 3), (14, .aload_n 0, 1), (15, .getfield 24, 3), (18, .getstatic 19, 3), (21, .if_acmp .eq 8, 3), (24, .aload_n 0, 1), (25, .getfield 24, 3), (28, .areturn, 1)] := by decide +kernel
theorem D_43 : dL jdk_53_method_4_code [(0, .aload_n 0, 1), (1, .getfield 17, 3), (4, .istore_n 1, 1), (5, .aload_n 0, 1), (6, .getfield 7, 3), (9, .iload_n 1, 1), (10, .invokeinterface 24 2, 5), (15, .astore_n 2, 1), (16, .aload_n 0, 1), (17, .iload_n 1, 1), (18, .iconst 1, 1), (19, .iadd, 1), (20, .putfield 17, 3), (23, .aload_n 2, 1), (24, .areturn, 1)] := by decide +kernel
theorem D_44 : dL jdk_45_method_4_code [(0, .aload_n 0, 1), (1, .getfield 7, 3), (4, .iload_n 1, 1), (5, .aaload, 1), (6, .areturn, 1)] := by decide +kernel
theorem D_45 : dL jdk_32_method_2_code [(0, .aload_n 0, 1), (1, .invokespecial 7, 3), (4, .aload_n 0, 1), (5, .aload_n 1, 1), (6, .putfield 13, 3), (9, .return_, 1)] := by decide +kernel
theorem D_46 : dL jdk_32_method_3_code [(0, .new 2, 3), (3, .dup, 1), (4, .aload_n 0, 1), (5, .invokestatic 17, 3), (8, .invokespecial 23, 3), (11, .areturn, 1)] := by decide +kernel
theorem D_47 : dL jdk_32_method_1_code [(0, .getstatic 1, 3), (3, .astore_n 0, 1), (4, .aload_n 0, 1), (5, .areturn, 1)] := by decide +kernel
theorem D_48 : dL jdk_32_method_6_code [(0, .aload_n 0, 1), (1, .getfield 13, 3), (4, .ifnull 7, 3), (7, .iconst 1, 1), (8, .goto 4, 3), (12, .ireturn, 1), (11, .iconst 0, 1)] := by decide +kernel
theorem D_49 : dL jdk_32_method_5_code [(0, .aload_n 0, 1), (1, .getfield 13, 3), (4, .ifnonnull 13, 3), (17, .aload_n 0, 1), (18, .getfield 13, 3), (21, .areturn, 1)] := by decide +kernel
theorem D_50 : dL jdk_42_method_152_code [(0, .getstatic 38, 3), (3, .ifCond .eq 10, 3), (6, .aload_n 0, 1), (7, .getfield 15, 3), (10, .goto 4, 3), (14, .ireturn, 1)] := by decide +kernel
theorem D_51 : dL jdk_42_method_54_code [(0, .aload_n 0, 1), (1, .getfield 9, 3), (4, .arraylength, 1), (5, .aload_n 0, 1), (6, .invokevirtual 335, 3), (9, .ishr, 1), (10, .ireturn, 1)] := by decide +kernel
theorem D_52 : dL jdk_52_method_15_code [(0, .iload_n 1, 1), (1, .aload_n 0, 1), (2, .arraylength, 1), (3, .isub, 1), (4, .bipush 31, 2), (6, .iushr, 1), (7, .i2b, 1), (8, .ireturn, 1)] := by decide +kernel
theorem D_53 : dL jdk_52_method_21_code [(0, .iconst 0, 1), (1, .istore 5, 2), (3, .iload 5, 2), (5, .iload 4, 2), (7, .if_icmp .ge 37, 3), (10, .aload_n 0, 1), (11, .iload_n 1, 1), (12, .caload, 1), (13, .istore 6, 2), (15, .iload 6, 2), (17, .sipush 255, 3), (20, .if_icmp .le 6, 3), (26, .aload_n 2, 1), (27, .iload_n 3, 1), (28, .iload 6, 2), (30, .i2b, 1), (31, .bastore, 1), (32, .iinc 1 1, 3), (35, .iinc 3 1, 3), (38, .iinc 5 1, 3), (41, .goto (-38), 3), (44, .iload 4, 2), (46, .ireturn, 1)] := by decide +kernel
theorem D_54 : dL jdk_52_method_16_code [(0, .iload_n 2, 1), (1, .newarray .byte, 2), (3, .astore_n 3, 1), (4, .aload_n 0, 1), (5, .iload_n 1, 1), (6, .aload_n 3, 1), (7, .iconst 0, 1), (8, .iload_n 2, 1), (9, .invokestatic 115, 3), (12, .istore 4, 2), (14, .iload 4, 2), (16, .iload_n 2, 1), (17, .if_icmp .eq 40, 3), (57, .aload_n 3, 1), (58, .areturn, 1)] := by decide +kernel
theorem D_55 : dL jdk_68_method_2_code [(0, .aload_n 0, 1), (1, .invokespecial 3, 3), (4, .getstatic 18, 3), (7, .ifCond .eq 18, 3), (10, .aload_n 0, 1), (11, .iload_n 1, 1), (12, .newarray .byte, 2), (14, .putfield 15, 3), (17, .aload_n 0, 1), (18, .iconst 0, 1), (19, .putfield 22, 3), (22, .goto 16, 3), (38, .return_, 1)] := by decide +kernel
theorem D_56 : dL jdk_67_method_1_code [(0, .aload_n 0, 1), (1, .bipush 16, 2), (3, .invokespecial 1, 3), (6, .return_, 1)] := by decide +kernel
theorem D_57 : dL jdk_68_method_9_code [(0, .aload_n 0, 1), (1, .getfield 15, 3), (4, .arraylength, 1), (5, .aload_n 0, 1), (6, .getfield 22, 3), (9, .ishr, 1), (10, .istore_n 2, 1), (11, .iload_n 1, 1), (12, .iload_n 2, 1), (13, .isub, 1), (14, .ifCond .le 24, 3), (38, .return_, 1)] := by decide +kernel
theorem D_58 : dL jdk_68_method_71_code [(0, .getstatic 18, 3), (3, .ifCond .eq 18, 3), (6, .aload_n 0, 1), (7, .getfield 22, 3), (10, .aload_n 1, 1), (11, .invokevirtual 40, 3), (14, .if_icmp .eq 7, 3), (21, .return_, 1)] := by decide +kernel
theorem D_59 : dL jdk_42_method_147_code [(0, .aload_n 0, 1), (1, .invokevirtual 335, 3), (4, .iload_n 3, 1), (5, .if_icmp .ne 23, 3), (8, .aload_n 0, 1), (9, .getfield 9, 3), (12, .iconst 0, 1), (13, .aload_n 1, 1), (14, .iload_n 2, 1), (15, .iload_n 3, 1), (16, .ishl, 1), (17, .aload_n 0, 1), (18, .getfield 9, 3), (21, .arraylength, 1), (22, .invokestatic 212, 3), (25, .goto 18, 3), (43, .return_, 1)] := by decide +kernel
theorem D_60 : dL jdk_68_method_73_code [(0, .aload_n 0, 1), (1, .aload_n 2, 1), (2, .invokevirtual 397, 3), (5, .aload_n 2, 1), (6, .aload_n 0, 1), (7, .getfield 15, 3), (10, .iload_n 1, 1), (11, .aload_n 0, 1), (12, .getfield 22, 3), (15, .invokevirtual 399, 3), (18, .return_, 1)] := by decide +kernel
theorem D_61 : dL jdk_68_method_22_code [(0, .aload_n 1, 1), (1, .ifnonnull 8, 3), (9, .aload_n 1, 1), (10, .invokevirtual 32, 3), (13, .istore_n 2, 1), (14, .aload_n 0, 1), (15, .aload_n 0, 1), (16, .getfield 79, 3), (19, .iload_n 2, 1), (20, .iadd, 1), (21, .invokevirtual 100, 3), (24, .aload_n 0, 1), (25, .aload_n 0, 1), (26, .getfield 79, 3), (29, .aload_n 1, 1), (30, .invokevirtual 208, 3), (33, .aload_n 0, 1), (34, .dup, 1), (35, .getfield 79, 3), (38, .iload_n 2, 1), (39, .iadd, 1), (40, .putfield 79, 3), (43, .aload_n 0, 1), (44, .areturn, 1)] := by decide +kernel
theorem D_62 : dL jdk_67_method_7_code [(0, .aload_n 0, 1), (1, .aload_n 1, 1), (2, .invokespecial 29, 3), (5, .pop, 1), (6, .aload_n 0, 1), (7, .areturn, 1)] := by decide +kernel
theorem D_63 : dL jdk_68_method_64_code [(0, .aload_n 0, 1), (1, .getfield 15, 3), (4, .areturn, 1)] := by decide +kernel
theorem D_64 : dL jdk_68_method_6_code [(0, .aload_n 0, 1), (1, .getfield 79, 3), (4, .ireturn, 1)] := by decide +kernel
theorem D_65 : dL jdk_67_method_93_code [(0, .aload_n 0, 1), (1, .invokespecial 343, 3), (4, .ireturn, 1)] := by decide +kernel
theorem D_66 : dL jdk_68_method_68_code [(0, .getstatic 18, 3), (3, .ifCond .eq 14, 3), (6, .aload_n 0, 1), (7, .getfield 22, 3), (10, .ifCond .ne 7, 3), (13, .iconst 1, 1), (14, .goto 4, 3), (18, .ireturn, 1)] := by decide +kernel
theorem D_67 : dL jdk_65_method_131_code [(0, .iload_n 1, 1), (1, .iload_n 0, 1), (2, .if_icmp .ge 35, 3), (37, .return_, 1)] := by decide +kernel
theorem D_68 : dL jdk_65_method_133_code [(0, .iload_n 1, 1), (1, .iload_n 2, 1), (2, .invokestatic 343, 3), (5, .iload_n 2, 1), (6, .iload_n 1, 1), (7, .isub, 1), (8, .istore_n 3, 1), (9, .iload_n 3, 1), (10, .newarray .byte, 2), (12, .astore 4, 2), (14, .aload_n 0, 1), (15, .iload_n 1, 1), (16, .aload 4, 2), (18, .iconst 0, 1), (19, .aload_n 0, 1), (20, .arraylength, 1), (21, .iload_n 1, 1), (22, .isub, 1), (23, .iload_n 3, 1), (24, .invokestatic 304, 3), (27, .invokestatic 150, 3), (30, .aload 4, 2), (32, .areturn, 1)] := by decide +kernel
theorem D_69 : dL jdk_65_method_132_code [(0, .iload_n 1, 1), (1, .ifCond .ne 9, 3), (4, .iload_n 2, 1), (5, .aload_n 0, 1), (6, .arraylength, 1), (7, .if_icmp .eq 10, 3), (10, .aload_n 0, 1), (11, .iload_n 1, 1), (12, .iload_n 2, 1), (13, .invokestatic 339, 3), (16, .areturn, 1)] := by decide +kernel
theorem D_70 : dL jdk_42_method_150_code [(0, .aload_n 0, 1), (1, .invokespecial 1, 3), (4, .aload_n 1, 1), (5, .invokevirtual 552, 3), (8, .astore_n 3, 1), (9, .aload_n 1, 1), (10, .invokevirtual 549, 3), (13, .istore 4, 2), (15, .aload_n 1, 1), (16, .invokevirtual 1047, 3), (19, .ifCond .eq 22, 3), (22, .aload_n 0, 1), (23, .iconst 0, 1), (24, .putfield 15, 3), (27, .aload_n 0, 1), (28, .aload_n 3, 1), (29, .iconst 0, 1), (30, .iload 4, 2), (32, .invokestatic 54, 3), (35, .putfield 9, 3), (38, .goto 59, 3), (97, .return_, 1)] := by decide +kernel
theorem D_71 : dL jdk_42_method_53_code [(0, .aload_n 0, 1), (1, .aload_n 1, 1), (2, .aconst_null, 1), (3, .invokespecial 489, 3), (6, .return_, 1)] := by decide +kernel
theorem D_72 : dL jdk_67_method_42_code [(0, .new 18, 3), (3, .dup, 1), (4, .aload_n 0, 1), (5, .invokespecial 137, 3), (8, .areturn, 1)] := by decide +kernel
theorem D_73 : dL prog_18_method_3_code [(0, .new 55, 3), (3, .dup, 1), (4, .invokespecial 57, 3), (7, .astore_n 1, 1), (8, .aload_n 0, 1), (9, .getfield 13, 3), (12, .invokeinterface 29 1, 5), (17, .astore_n 2, 1), (18, .aload_n 2, 1), (19, .invokeinterface 33 1, 5), (24, .ifCond .eq 46, 3), (70, .aload_n 1, 1), (71, .invokevirtual 74, 3), (74, .invokestatic 77, 3), (77, .areturn, 1), (27, .aload_n 2, 1), (28, .invokeinterface 39 1, 5), (33, .checkcast 43, 3), (36, .astore_n 3, 1), (37, .aload_n 3, 1), (38, .instanceof 58, 3), (41, .ifCond .eq 22, 3), (63, .invokestatic 68, 3), (66, .areturn, 1), (44, .aload_n 3, 1), (45, .checkcast 58, 3), (48, .astore 4, 2), (50, .aload_n 1, 1), (51, .aload 4, 2), (53, .invokevirtual 60, 3), (56, .invokevirtual 64, 3), (59, .pop, 1), (60, .goto 7, 3), (67, .goto (-49), 3)] := by decide +kernel
theorem D_74 : dL jdk_42_method_154_code [(0, .getstatic 38, 3), (3, .ifCond .eq 14, 3), (6, .aload_n 0, 1), (7, .getfield 15, 3), (10, .ifCond .ne 7, 3), (13, .iconst 1, 1), (14, .goto 4, 3), (18, .ireturn, 1), (17, .iconst 0, 1)] := by decide +kernel
theorem D_75 : dL jdk_41_method_11_code [(0, .iload_n 0, 1), (1, .ifCond .lt 8, 3), (4, .iload_n 0, 1), (5, .iload_n 1, 1), (6, .if_icmp .lt 10, 3), (16, .iload_n 0, 1), (17, .ireturn, 1)] := by decide +kernel
theorem D_76 : dL jdk_42_method_155_code [(0, .iload_n 0, 1), (1, .iload_n 1, 1), (2, .getstatic 1053, 3), (5, .invokestatic 1059, 3), (8, .pop, 1), (9, .return_, 1)] := by decide +kernel
theorem D_77 : dL jdk_43_method_2_code [(0, .iload_n 1, 1), (1, .aload_n 0, 1), (2, .arraylength, 1), (3, .invokestatic 9, 3), (6, .aload_n 0, 1), (7, .iload_n 1, 1), (8, .baload, 1), (9, .sipush 255, 3), (12, .iand, 1), (13, .i2c, 1), (14, .ireturn, 1)] := by decide +kernel
theorem D_78 : dL jdk_42_method_56_code [(0, .aload_n 0, 1), (1, .invokevirtual 492, 3), (4, .ifCond .eq 12, 3), (7, .aload_n 0, 1), (8, .getfield 9, 3), (11, .iload_n 1, 1), (12, .invokestatic 495, 3), (15, .ireturn, 1)] := by decide +kernel
theorem D_79 : dL method_3_code [(0, .iload_n 0, 1), (1, .bipush 16, 2), (3, .iushr, 1), (4, .iconst 3, 1), (5, .irem, 1), (6, .istore_n 1, 1), (7, .iload_n 0, 1), (8, .sipush 255, 3), (11, .iand, 1), (12, .i2c, 1), (13, .istore_n 2, 1), (14, .iload_n 0, 1), (15, .bipush 8, 2), (17, .iushr, 1), (18, .sipush 255, 3), (21, .iand, 1), (22, .i2c, 1), (23, .istore_n 3, 1), (24, .iload_n 1, 1), (25, .ifCond .ne 14, 3), (28, .new 16, 3), (31, .dup, 1), (32, .iconst 0, 1), (33, .newarray .char, 2), (35, .invokespecial 68, 3), (38, .areturn, 1), (39, .iload_n 1, 1), (40, .iconst 1, 1), (41, .if_icmp .ne 8, 3), (44, .iload_n 2, 1), (45, .invokestatic 15, 3), (48, .areturn, 1), (49, .iconst 2, 1), (50, .newarray .char, 2), (52, .astore 4, 2), (54, .aload 4, 2), (56, .iconst 0, 1), (57, .iload_n 2, 1), (58, .castore, 1), (59, .aload 4, 2), (61, .iconst 1, 1), (62, .iload_n 3, 1), (63, .castore, 1), (64, .new 16, 3), (67, .dup, 1), (68, .aload 4, 2), (70, .invokespecial 68, 3), (73, .areturn, 1)] := by decide +kernel
theorem D_80 : dL method_4_code [(0, .aload_n 2, 1), (1, .invokevirtual 71, 3), (4, .ifCond .le 11, 3), (15, .aload_n 2, 1), (16, .invokevirtual 71, 3), (19, .iconst 1, 1), (20, .if_icmp .le 13, 3), (33, .iload_n 1, 1), (34, .aload_n 2, 1), (35, .invokevirtual 71, 3), (38, .iadd, 1), (39, .ireturn, 1), (7, .aload_n 0, 1), (8, .iload_n 1, 1), (9, .aload_n 2, 1), (10, .iconst 0, 1), (11, .invokevirtual 75, 3), (14, .castore, 1), (23, .aload_n 0, 1), (24, .iload_n 1, 1), (25, .iconst 1, 1), (26, .iadd, 1), (27, .aload_n 2, 1), (28, .iconst 1, 1), (29, .invokevirtual 75, 3), (32, .castore, 1)] := by decide +kernel
theorem D_81 : dL method_5_code [(0, .aload_n 0, 1), (1, .invokevirtual 71, 3), (4, .iload_n 2, 1), (5, .if_icmp .eq 5, 3), (10, .iload_n 2, 1), (11, .ifCond .le 16, 3), (14, .aload_n 0, 1), (15, .iconst 0, 1), (16, .invokevirtual 75, 3), (19, .aload_n 1, 1), (20, .iconst 0, 1), (21, .caload, 1), (22, .if_icmp .eq 5, 3), (27, .iload_n 2, 1), (28, .iconst 1, 1), (29, .if_icmp .le 16, 3), (32, .aload_n 0, 1), (33, .iconst 1, 1), (34, .invokevirtual 75, 3), (37, .aload_n 1, 1), (38, .iconst 1, 1), (39, .caload, 1), (40, .if_icmp .eq 5, 3), (45, .iload_n 2, 1), (46, .iconst 2, 1), (47, .if_icmp .le 16, 3), (50, .aload_n 0, 1), (51, .iconst 2, 1), (52, .invokevirtual 75, 3), (55, .aload_n 1, 1), (56, .iconst 2, 1), (57, .caload, 1), (58, .if_icmp .eq 5, 3), (63, .iload_n 2, 1), (64, .iconst 3, 1), (65, .if_icmp .le 16, 3), (68, .aload_n 0, 1), (69, .iconst 3, 1), (70, .invokevirtual 75, 3), (73, .aload_n 1, 1), (74, .iconst 3, 1), (75, .caload, 1), (76, .if_icmp .eq 5, 3), (81, .iload_n 2, 1), (82, .iconst 4, 1), (83, .if_icmp .le 16, 3), (86, .aload_n 0, 1), (87, .iconst 4, 1), (88, .invokevirtual 75, 3), (91, .aload_n 1, 1), (92, .iconst 4, 1), (93, .caload, 1), (94, .if_icmp .eq 5, 3), (99, .iload_n 2, 1), (100, .iconst 5, 1), (101, .if_icmp .le 16, 3), (104, .aload_n 0, 1), (105, .iconst 5, 1), (106, .invokevirtual 75, 3), (109, .aload_n 1, 1), (110, .iconst 5, 1), (111, .caload, 1), (112, .if_icmp .eq 5, 3), (117, .iconst 1, 1), (118, .ireturn, 1)] := by decide +kernel
abbrev EL : List (String × Nat) := [("com/example/ontology_over_tables/ontologyovertables/mapping/TriplesMap$TermMap$Column", 7), ("com/example/ontology_over_tables/ontologyovertables/mapping/TriplesMap$TermMap$Text", 7), ("java/lang/String", 7)]
theorem own_EW {Z : State} {a0 : Array Value} (hw : ∀ d ∈ tables_1, d.before a0 Z = true) : EW Z a0 EL := (EW.cons (hw _ (List.mem_of_getElem? (i := 64) rfl)) (by decide +kernel) (EW.cons (hw _ (List.mem_of_getElem? (i := 78) rfl)) (by decide +kernel) (EW.cons (hw _ (List.mem_of_getElem? (i := 18) rfl)) (by decide +kernel) EW.nil)))
theorem own_arv_eq {Z : State} {h : Heap} {a : Addr} {k : ClassId} {ty : FieldType} {z : Int32} {vs vs' : List Value} {dv : Value} (F : Arv Z h a k ty z vs dv) (e : vs = vs') : Arv Z h a k ty z vs' dv := e ▸ F
/-- the bytes of Latin-1 chars -/
abbrev own_by (cs : List Int32) : List Value := (cs.map fun c => c.toInt8.toInt32).map Value.int
/-- x is a Latin-1 String of the chars cs -/
def own_Lat (Z : State) (h : Heap) (x : Addr) (cs : List Int32) : Prop := zE4 Z h x ∧ zF11 Z h x (.int (0 : Int32)) ∧ (∀ c ∈ cs, ¬ c < 0 ∧ ¬ (255 : Int32) < c) ∧ cs.length ≤ 4000 ∧ ∃ (t : Addr) (kb : ClassId), zF13 Z h x (.ref t) ∧ Arv Z h t kb .byte (Int32.ofNat cs.length) (own_by cs) (.int (0 : Int32))
theorem own_Lat.keep0 {Z : State} {h h' : Heap} {x : Addr} {cs : List Int32} (H : own_Lat Z h x cs) (K : Keep h h' []) : own_Lat Z h' x cs := by
  obtain ⟨E, C, p, l, t, kb, V, A⟩ := H
  exact ⟨E.keep K, C.keep K nin0, p, l, t, kb, V.keep K nin0, A.keep K nin0⟩
theorem own_up (cs : List Int32) (h : ∀ c ∈ cs, ¬ c < 0 ∧ ¬ (255 : Int32) < c) : ∀ c ∈ cs, ¬ c < 0 ∧ ¬ (65535 : Int32) < c := fun c hc => ⟨(h c hc).1, fun q => (h c hc).2 (by rw [Int32.lt_iff_toInt_lt] at q ⊢; have e1 : (65535 : Int32).toInt = 65535 := rfl; have e2 : (255 : Int32).toInt = 255 := rfl; omega)⟩
theorem own_sameM {Z : State} {a0 : Array Value} {C : String} {y u z : MethodName} (wi : (Jvm.Cond.instanceMethod y).before a0 Z = true) (ws : (Jvm.Cond.selects C u z).before a0 Z = true) (hz : z.cls = y.cls) (hy : y.cls ≠ "java/lang/invoke/MethodHandle" ∧ y.cls ≠ "java/lang/invoke/VarHandle") : (Jvm.Cond.sameMethod y.cls y.cls y.name y.desc).before a0 Z = true := by
  obtain ⟨mk, methM, hnamed, hmethM, -, -⟩ := Cond.instanceMethod_spec wi
  obtain ⟨c2, r2, m2, q1, q2, q3, q4, kP, hkP, hkPi⟩ := Cond.selects_spec ws
  have h1 := findClass_of_methodNamed hnamed
  have h2 := findClass_of_methodNamed q3
  rw [hz, h1] at h2
  rw [← Option.some.inj h2] at hkP
  have h3 := State.methodFound?_of_named hnamed hy
  simp [Cond.before, Cond.holds, Cond.value, h1, h3, hnamed, hkP, hkPi]
theorem own_selP {Z s : State} {a0 args : Array Value} {C : String} {y : MethodName} (hZ : Z.Warmed39 s.vm) (ws : (Jvm.Cond.selects C y y).before a0 Z = true) (wp : (Jvm.Cond.privateMethod y).before a0 Z = true) (wi : (Jvm.Cond.instanceMethod y).before a0 Z = true) (hy : y.cls ≠ "java/lang/invoke/MethodHandle" ∧ y.cls ≠ "java/lang/invoke/VarHandle") : (Jvm.Cond.selects y.cls y y).before args s = true := by
  have wi' : (Jvm.Cond.instanceMethod y).before args s = true := mvT hZ wi
  have ws' : (Jvm.Cond.selects C y y).before args s = true := mvT hZ ws
  obtain ⟨mk, methM, hnamed, hmethM, -, -⟩ := Cond.instanceMethod_spec wi'
  obtain ⟨c2, r2, m2, q1, q2, q3, q4, kP, hkP, hkPi⟩ := Cond.selects_spec ws'
  cases hnamed.symm.trans q3
  have h1 := findClass_of_methodNamed hnamed
  have h3 := State.methodFound?_of_named hnamed hy
  have hp := Cond.privateMethod_at (mvP hZ wp (args := args)) mk methM hnamed hmethM
  have h4 : selectMethod {} s.vm mk.cls mk = .method mk := selectMethod_private hmethM hp
  simp [Cond.before, Cond.holds, Cond.value, h1, h3, hnamed, h4, hkP, hkPi]
theorem own_nf {Z s : State} {a0 : Array Value} {C : String} {y u z : MethodName} (hZ : Z.Warmed39 s.vm) (ws : (Jvm.Cond.selects C u z).before a0 Z = true) (hz : z.cls = y.cls) : NotFace s y := fun r0 h0 => by
  have ws' : (Jvm.Cond.selects C u z).before #[] s = true := mvT hZ ws
  obtain ⟨c2, r2, m2, q1, q2, q3, q4, kP, hkP, hkPi⟩ := Cond.selects_spec ws'
  have h1 := findClass_of_methodNamed h0
  have h2 := findClass_of_methodNamed q3
  rw [hz, h1] at h2
  rw [← Option.some.inj h2] at hkP
  exact ⟨kP, hkP, hkPi⟩
theorem own_nar {x : Int32} (h : ¬ x < 0 ∧ ¬ (255 : Int32) < x) : nar .char x = x := by
  have q : narrow .char (.int x) = .int x := StrChars.narrow_ch h.1 (fun q => h.2 (by rw [Int32.lt_iff_toInt_lt] at q ⊢; have e1 : (65535 : Int32).toInt = 65535 := rfl; have e2 : (255 : Int32).toInt = 255 := rfl; omega))
  have q2 : narrow .char (.int x) = .int (nar .char x) := rfl
  rw [q2] at q
  exact Value.int.inj q
theorem own_and255 (x : Int32) : ¬ ((x &&& (255 : Int32)).toUInt32.toUInt16.toUInt32.toInt32) < 0 ∧ ¬ (255 : Int32) < ((x &&& (255 : Int32)).toUInt32.toUInt16.toUInt32.toInt32) := by
  have t : ∀ k : Fin 256, ¬ ((Int32.ofNat k.val).toUInt32.toUInt16.toUInt32.toInt32) < 0 ∧ ¬ (255 : Int32) < ((Int32.ofNat k.val).toUInt32.toUInt16.toUInt32.toInt32) := by decide +kernel
  have h : (x &&& 255).toBitVec.toNat < 256 := by
    simp only [Int32.toBitVec_and, BitVec.toNat_and]
    exact Nat.lt_succ_of_le Nat.and_le_right
  have e : (x &&& 255) = Int32.ofNat (x &&& 255).toBitVec.toNat := by
    apply Int32.toBitVec_inj.mp
    show _ = BitVec.ofNat 32 _
    rw [BitVec.ofNat_toNat]; simp
  rw [e]
  exact t ⟨_, h⟩
def Q_own_rec (Z : State) (a : Addr) (h0 : Heap) (n0 : Nat) (v : Option Value) (h : Heap) (L : List Loc) : Prop := v = none ∧ Fr n0 L ∧ h = h0
theorem own_rec (l : Launch) (Z : State) (a0 : Array Value) (hw : oH a0 Z) (a : Addr) (h0 : Heap) (n0 : Nat) (Z0 : n0 ≤ h0.size)  :
    oC l yM0 (.code yM0 jdk_30_method_1_code 1 none) rM0 #[(.ref a)] Z h0 (Q_own_rec Z a h0 n0) := by
  refine oO (plainFor_of_name own_pn0) hisR fun p e s m below meth c s₁ S0' Bd hS hx dB hml hown hnm hZ X0 e0 => ?_
  have N0 := Fr.nil n0
  have KK0 := Keep.refl h0 ([] : List Addr)
  have cc0 : oQ X0 S0' 0 #[sR a] [] := oE hS rfl
  have W := @own_w Z a0 hw
  have q := @dX _ _ c D_0 @dB
  have cc21 : oQ X0 S0' 1 #[sR a] [.ref a] := Steps.trans cc0 (by
    refine XS.aloadN X0.here hx rfl (q 0 rfl) rfl rfl ?_
    exact Steps.refl _)
  obtain ⟨T22, X22, e22, st22⟩ := initO X0 hx hZ hown (W 52 rfl) (W 16 rfl) (W 17 rfl) e0 (g := (mkF m 1 #[sR a] [.ref a])) rfl (by rw [hml]; rfl) rfl (q 1 rfl) (by decide) (W := 0) (by show 2 * 0 + _ ≤ _; exact Nat.le_of_eq rfl) (by decide)
  have cc23 : oQ X22 S0' 4 #[sR a] [] := (cc21.trans (st22 _ (Steps.refl _)))
  exact oRV X22 Bd cc23 (q 2 rfl) rfl e22 ⟨rfl, N0, rfl⟩
def Q_own_nn (Z : State) (a m1 : Addr) (h0 : Heap) (n0 : Nat) (v : Option Value) (h : Heap) (L : List Loc) : Prop := v = some (.ref a) ∧ Fr n0 L ∧ h = h0
theorem own_nn (l : Launch) (Z : State) (a0 : Array Value) (hw : oH a0 Z) (a m1 : Addr) (h0 : Heap) (n0 : Nat) (Z0 : n0 ≤ h0.size)  :
    oC l yM1 (.code yM1 jdk_31_method_11_code 2 (some (.object "java/lang/Object"))) rM1 #[(.ref a), (.ref m1)] Z h0 (Q_own_nn Z a m1 h0 n0) := by
  refine oO (plainFor_of_name own_pn1) hisR fun p e s m below meth c s₁ S0' Bd hS hx dB hml hown hnm hZ X0 e0 => ?_
  have N0 := Fr.nil n0
  have KK0 := Keep.refl h0 ([] : List Addr)
  have cc0 : oQ X0 S0' 0 #[sR a, sR m1] [] := oE hS rfl
  have W := @own_w Z a0 hw
  have q := @dX _ _ c D_1 @dB
  have cc21 : oQ X0 S0' 14 #[sR a, sR m1] [.ref a] := Steps.trans cc0 (by
    refine XS.aloadN X0.here hx rfl (q 0 rfl) rfl rfl ?_
    refine XT.ifnonnullYes X0.here hx rfl (pc0 := 1) rfl (q 1 rfl) rfl (by decide) rfl ?_
    refine XS.aloadN X0.here hx rfl (q 2 rfl) rfl rfl ?_
    exact Steps.refl _)
  exact oRA X0 Bd cc21 (q 3 rfl) rfl (rfl) rfl e0 ⟨rfl, N0, rfl⟩
def Q_own_nn1 (Z : State) (a : Addr) (h0 : Heap) (n0 : Nat) (v : Option Value) (h : Heap) (L : List Loc) : Prop := v = some (.ref a) ∧ Fr n0 L ∧ h = h0
theorem own_nn1 (l : Launch) (Z : State) (a0 : Array Value) (hw : oH a0 Z) (a : Addr) (h0 : Heap) (n0 : Nat) (Z0 : n0 ≤ h0.size)  :
    oC l yM2 (.code yM2 jdk_31_method_10_code 1 (some (.object "java/lang/Object"))) rM1 #[(.ref a)] Z h0 (Q_own_nn1 Z a h0 n0) := by
  refine oO (plainFor_of_name own_pn1) hisR fun p e s m below meth c s₁ S0' Bd hS hx dB hml hown hnm hZ X0 e0 => ?_
  have N0 := Fr.nil n0
  have KK0 := Keep.refl h0 ([] : List Addr)
  have cc0 : oQ X0 S0' 0 #[sR a] [] := oE hS rfl
  have W := @own_w Z a0 hw
  have q := @dX _ _ c D_2 @dB
  have cc21 : oQ X0 S0' 13 #[sR a] [.ref a] := Steps.trans cc0 (by
    refine XS.aloadN X0.here hx rfl (q 0 rfl) rfl rfl ?_
    refine XT.ifnonnullYes X0.here hx rfl (pc0 := 1) rfl (q 1 rfl) rfl (by decide) rfl ?_
    refine XS.aloadN X0.here hx rfl (q 2 rfl) rfl rfl ?_
    exact Steps.refl _)
  exact oRA X0 Bd cc21 (q 3 rfl) rfl (rfl) rfl e0 ⟨rfl, N0, rfl⟩
def Q_own_ce (Z : State) (w : Int32) (h0 : Heap) (n0 : Nat) (v : Option Value) (h : Heap) (L : List Loc) : Prop := v = some (.int 1) ∧ Fr n0 L ∧ h = h0
theorem own_ce (l : Launch) (Z : State) (a0 : Array Value) (hw : oH a0 Z) (w : Int32) (h0 : Heap) (n0 : Nat) (Z0 : n0 ≤ h0.size) (h1 : ¬ (255 : Int32) < w) :
    oC l yM3 (.code yM3 jdk_43_method_3_code 1 (some .boolean)) rM1 #[(.int w)] Z h0 (Q_own_ce Z w h0 n0) := by
  refine oO (plainFor_of_name own_pn2) hisR fun p e s m below meth c s₁ S0' Bd hS hx dB hml hown hnm hZ X0 e0 => ?_
  have N0 := Fr.nil n0
  have KK0 := Keep.refl h0 ([] : List Addr)
  have cc0 : oQ X0 S0' 0 #[sI w] [] := oE hS rfl
  have W := @own_w Z a0 hw
  have q := @dX _ _ c D_3 @dB
  have cc21 : oQ X0 S0' 12 #[sI w] [.int 1] := Steps.trans cc0 (by
    refine XS.iloadN X0.here hx rfl (q 0 rfl) rfl ?_
    refine sipushV X0.here hx rfl 255 (q 1 rfl) (by decide) ?_
    refine XS.icmpNo X0.here hx rfl (q 2 rfl) rfl (ii_gt_f h1) ?_
    refine iconstV X0.here hx rfl 1 (q 3 rfl) (by decide) ?_
    refine XS.goto X0.here hx rfl (pc0 := 8) rfl (q 4 rfl) (by decide) rfl ?_
    exact Steps.refl _)
  exact oRI X0 Bd cc21 (q 5 rfl) rfl (rfl) (by simp) e0 ⟨rfl, N0, rfl⟩
def Q_own_tb1 (Z : State) (w : Int32) (h0 : Heap) (n0 : Nat) (v : Option Value) (h : Heap) (L : List Loc) : Prop := ∃ (t : Addr) (kt : ClassId), v = some (.ref t) ∧ Fr n0 L ∧ Keep h0 h [] ∧ h0.size ≤ t ∧ Arv Z h t kt .byte (1 : Int32) (own_by [w]) (.int (0 : Int32))
theorem own_tb1 (l : Launch) (Z : State) (a0 : Array Value) (hw : oH a0 Z) (w : Int32) (h0 : Heap) (n0 : Nat) (Z0 : n0 ≤ h0.size)  :
    oC l yM4 (.code yM4 jdk_43_method_46_code 1 (some (.array .byte))) rM2 #[(.int w)] Z h0 (Q_own_tb1 Z w h0 n0) := by
  refine oO (plainFor_of_name own_pn2) hisR fun p e s m below meth c s₁ S0' Bd hS hx dB hml hown hnm hZ X0 e0 => ?_
  have N0 := Fr.nil n0
  have KK0 := Keep.refl h0 ([] : List Addr)
  have cc0 : oQ X0 S0' 0 #[sI w] [] := oE hS rfl
  have W := @own_w Z a0 hw
  have q := @dX _ _ c D_4 @dB
  have cc21 : oQ X0 S0' 1 #[sI w] [.int 1] := Steps.trans cc0 (by
    refine iconstV X0.here hx rfl 1 (q 0 rfl) (by decide) ?_
    exact Steps.refl _)
  obtain ⟨T22, h22, k22, X22, e22, E22, A22, st22⟩ := newP X0 hx hZ (aty := .byte) (W 19 rfl) e0 (g := (mkF m 1 #[sI w] [.int 1])) rfl (q 1 rfl) rfl (by decide) (cap := 1) (by decide) (by decide) (by decide) (by decide)
  obtain ⟨t, g_t⟩ : ∃ z, z = h0.size := ⟨_, rfl⟩
  rw [← g_t] at A22 st22
  have K22 := (Keep.refl h0 ([] : List Addr)).ext E22
  have b_t : h0.size ≤ t := (Nat.le_of_eq g_t.symm)
  have gn_t := Nat.le_trans Z0 b_t
  have s0_t := Nat.le_trans KK0.1 b_t
  have KK1 := KK0.trans K22 all0
  have Zs1 := Nat.le_trans Z0 K22.1
  have V_t : Arv Z h22 t k22 .byte (1 : Int32) [(.int (0 : Int32))] (.int (0 : Int32)) := (Arv.new A22 (by decide)).pad (pad_rep [] (.int (0 : Int32)) 1)
  have cc23 : oQ X22 S0' 7 #[sI w] [.int w.toInt8.toInt32, .int 0, .ref t, .ref t] := Steps.trans (cc21.trans (st22 _ (Steps.refl _))) (by
    refine XS.dup X22.here hx rfl (q 2 rfl) rfl rfl ?_
    refine iconstV X22.here hx rfl 0 (q 3 rfl) (by decide) ?_
    refine XS.iloadN X22.here hx rfl (q 4 rfl) rfl ?_
    refine XT.i2b X22.here hx rfl (q 5 rfl) rfl ?_
    exact Steps.refl _)
  obtain ⟨clu24, Aru24, qu24, Su24, Ngu24, Hsu24, Gsu24⟩ := id V_t
  have inu24 : ¬ ((0 : Int32) < 0 ∨ clu24.slots.size ≤ (0 : Int32).toNatClampNeg) := inb_of Su24 ⟨by decide, by decide⟩
  obtain ⟨T25, h25, X25, e25, W25, st25⟩ := stB X22 hx hZ e22 Aru24 (j := (0 : Int32)) inu24 (g := (mkF m 7 #[sI w] [.int w.toInt8.toInt32, .int 0, .ref t, .ref t])) rfl rfl (q 6 rfl)
  have K25 := Keep.of_wr W25
  have N25 := Fr.snoc X25 N0 gn_t
  have KK2 := KK1.trans K25 (allS (Or.inr s0_t) all0)
  have Zs2 := Nat.le_trans Zs1 K25.1
  have V25 : Arv Z h25 t k22 .byte (1 : Int32) ([(.int (nar .byte w.toInt8.toInt32))]) (.int (0 : Int32)) := Arv.set Aru24 qu24 Su24 Ngu24 Hsu24 Gsu24 (fits_nar_byte _) W25 0 rfl (Nat.le_of_ble_eq_true rfl)
  have cc26 : oQ X25 S0' 8 #[sI w] [.ref t] := (cc23.trans (st25 _ (Steps.refl _)))
  exact oRA X25 Bd cc26 (q 7 rfl) rfl (rfl) rfl e25 ⟨t, _, rfl, N25, KK2, s0_t, own_arv_eq V25 (by simp [nar, own_by])⟩
def Q_own_ibb (Z : State) (x t : Addr) (h0 : Heap) (n0 : Nat) (v : Option Value) (h : Heap) (L : List Loc) : Prop := v = none ∧ Fr n0 L ∧ Keep h0 h [x] ∧ zE4 Z h x ∧ zF11 Z h x (.int (0 : Int32)) ∧ zF13 Z h x (.ref t)
theorem own_ibb (l : Launch) (Z : State) (a0 : Array Value) (hw : oH a0 Z) (x t : Addr) (h0 : Heap) (n0 : Nat) (Z0 : n0 ≤ h0.size) (E : zE4 Z h0 x) (V : zF13 Z h0 x .null) (C : zF11 Z h0 x (.int (0 : Int32))) (gx : n0 ≤ x) :
    oC l yM5 (.code yM5 jdk_42_method_151_code 3 none) rM0 #[(.ref x), (.ref t), (.int 0)] Z h0 (Q_own_ibb Z x t h0 n0) := by
  refine oO (plainFor_of_name own_pn3) hisR fun p e s m below meth c s₁ S0' Bd hS hx dB hml hown hnm hZ X0 e0 => ?_
  have N0 := Fr.nil n0
  have KK0 := Keep.refl h0 [x]
  have cc0 : oQ X0 S0' 0 #[sR x, sR t, sI 0] [] := oE hS rfl
  have W := @own_w Z a0 hw
  have q := @dX _ _ c D_5 @dB
  have cc21 : oQ X0 S0' 1 #[sR x, sR t, sI 0] [.ref x] := Steps.trans cc0 (by
    refine XS.aloadN X0.here hx rfl (q 0 rfl) rfl rfl ?_
    exact Steps.refl _)
  obtain ⟨T22, X22, e22, st22⟩ := initO X0 hx hZ hown (W 15 rfl) (W 16 rfl) (W 17 rfl) e0 (g := (mkF m 1 #[sR x, sR t, sI 0] [.ref x])) rfl (by rw [hml]; rfl) rfl (q 1 rfl) (by decide) (W := 0) (by show 2 * 0 + _ ≤ _; exact Nat.le_of_eq rfl) (by decide)
  have cc23 : oQ X22 S0' 6 #[sR x, sR t, sI 0] [.ref t, .ref x] := Steps.trans (cc21.trans (st22 _ (Steps.refl _))) (by
    refine XS.aloadN X22.here hx rfl (q 2 rfl) rfl rfl ?_
    refine XS.aloadN X22.here hx rfl (q 3 rfl) rfl rfl ?_
    exact Steps.refl _)
  obtain ⟨T24, h24, X24, e24, W24, st24⟩ := oPF X22 cc23 hx hZ hown (W 24 rfl) Via.refl e22 V E (Or.inr ⟨(W 20 rfl), rfl, hnm⟩) (W 5 rfl) (ty := (.array .byte)) (by decide) rfl rfl (q 4 rfl)
  have K24 := Keep.of_wr W24
  have N24 := Fr.snoc X24 N0 gx
  have KK1 := KK0.trans K24 (allS (Or.inl (lM 0 rfl)) all0)
  have Zs1 := Nat.le_trans Z0 K24.1
  have cc26 : oQ X24 S0' 11 #[sR x, sR t, sI 0] [.int 0, .ref x] := Steps.trans st24 (by
    refine XS.aloadN X24.here hx rfl (q 5 rfl) rfl rfl ?_
    refine XS.iloadN X24.here hx rfl (q 6 rfl) rfl ?_
    exact Steps.refl _)
  have fa25 := C.other W24 (Or.inr (slot_ne (Or.inr (W 21 rfl)) (Or.inr (W 20 rfl)) (by decide) (t := .byte) (t' := (.array .byte)) (by decide) (by decide)))
  have fa27 := E.keep K24
  obtain ⟨T28, h28, X28, e28, W28, st28⟩ := oPF X24 cc26 hx hZ hown (W 25 rfl) Via.refl e24 fa25 fa27 (Or.inr ⟨(W 21 rfl), rfl, hnm⟩) (W 5 rfl) (ty := .byte) (v := (.int 0)) (v' := (.int (0 : Int32))) (by decide) rfl rfl (q 7 rfl)
  have K28 := Keep.of_wr W28
  have N28 := Fr.snoc X28 N24 gx
  have KK2 := KK1.trans K28 (allS (Or.inl (lM 0 rfl)) all0)
  have Zs2 := Nat.le_trans Zs1 K28.1
  have cc30 : oQ X28 S0' 14 #[sR x, sR t, sI 0] [] := st28
  have fa29 := fa27.keep K28
  have fa31 := (Fld.same W24 V).other W28 (Or.inr (slot_ne (Or.inr (W 20 rfl)) (Or.inr (W 21 rfl)) (by decide) (t := (.array .byte)) (t' := .byte) (by decide) (by decide)))
  exact oRV X28 Bd cc30 (q 8 rfl) rfl e28 ⟨rfl, N28, KK2, fa29, (Fld.same W28 fa25), fa31⟩
theorem own_safe_null {Z : State} {EL : List (String × Nat)} {vm : Vm} {h : Heap} {x : Addr} {a0 : Array Value} {kI : Nat} (hal : Z.vm.Alike vm) (wi : (Jvm.Cond.instantiable "java/lang/String" kI).before a0 Z = true) (E : zE4 Z h x) (F : zF13 Z h x .null) : Safe Z EL vm h x := fun B => by
  obtain ⟨p, -, u, a, -, q, -, G, hx⟩ := B
  obtain ⟨cS, ⟨⟨s1, s2, s3, ⟨cv, kv, iv, s4, s4'⟩, ⟨cc, kc, ic, s5, s5'⟩, s6, s7, s8, s9, s10, s11, s12, -⟩, -⟩, -⟩ := G
  rcases hx with rfl | rfl
  · obtain ⟨cell, cf, k, i, f, h1, h2, -, -, -, -, h7⟩ := F
    cases h1.symm.trans s1
    obtain ⟨k3, e3, -⟩ := State.fieldFound?_setVm (s := Z) hal h2
    have e4 := (show (Wst Z vm h).fieldFound? "java/lang/String" "value" "[B" = _ from e3).symm.trans s4
    simp only [Option.some.injEq, Prod.mk.injEq] at e4
    rw [e4.2.2.2, s8] at h7
    simp at h7
  · obtain ⟨cell, k, h1, h2, h3, -, -⟩ := E
    cases h1.symm.trans s10
    obtain ⟨c2, k2, i1, i2, i3, -⟩ := Cond.instantiable_spec wi
    cases h2.symm.trans i1
    cases h3.symm.trans i2
    obtain ⟨-, k9, hk9, comp, hkind9⟩ := s11
    obtain ⟨k', hk', ek⟩ := hal.2.2 _ _ h3
    cases (show vm.classes[_]? = some k9 from hk9).symm.trans hk'
    rw [ek, i3] at hkind9
    cases hkind9
def Q_own_new4e (Z : State) (x b : Addr) (h0 : Heap) (n0 : Nat) (v : Option Value) (h : Heap) (L : List Loc) : Prop := v = none ∧ Fr n0 L ∧ Keep h0 h [x] ∧ zE4 Z h x ∧ zF11 Z h x (.int (0 : Int32)) ∧ ∃ (t : Addr) (kb : ClassId), t ≠ x ∧ t < h.size ∧ zF13 Z h x (.ref t) ∧ Arv Z h t kb .byte (0 : Int32) [] (.int (0 : Int32))
set_option maxRecDepth 65536 in
set_option maxHeartbeats 40000000 in
theorem own_new4e (l : Launch) (Z : State) (a0 : Array Value) (hw : ∀ d ∈ tables_1, d.before a0 Z = true) (x b : Addr) (h0 : Heap) (n0 : Nat) (Z0 : n0 ≤ h0.size) (E : zE4 Z h0 x) (V : zF13 Z h0 x .null) (C : zF11 Z h0 x (.int (0 : Int32))) (gx : n0 ≤ x) :
    MetFree l yM6 (head1 [Jvm.Cond.code yM6 jdk_42_method_149_code 6 none] rM3) (fun a_ U_ => a_ = #[(.ref x), (.ref b), (.int 0), (.int 0), .null] ∧ Z.Warmed39 U_.vm ∧ U_.heap = h0 ∧ CHv Z EL U_.vm h0) (fun _ _ _ _ _ => True) (fun _ U_ o_ V_ => ∃ v_ L_, o_ = .returned v_ ∧ Q_own_new4e Z x b h0 n0 v_ V_.heap L_ ∧ CHr Z EL U_.vm U_.heap V_.vm V_.heap ∧ ReturnedEndW U_ o_ V_ L_ rM3.cells rM3.slots) := by
  refine MetFree.of_bodySF (plainFor_of_name own_pn3) hisR ?_
  intro p e s m args below meth c s₁ Bd hml0 hP hK
  obtain ⟨rfl, hZ, hh, hCH⟩ := hP
  have hx := Bd.exec
  have hby := Bd.bytes
  have dB := @own_d c _ hby
  have hml : c.maxLocals = 6 := hml0
  have hown : s.vm.findClass "java/lang/String" = some m.cls := findClass_of_methodNamed Bd.named
  have hnm := (name_of_methodNamed Bd.named Bd.method).1
  have X0 : Stand p l e rM3 (s.setVm s.vm) m #[(.ref x), (.ref b), (.int 0), (.int 0), .null] below meth c s₁ [] 0 0 := Stand.of_body Bd
  have e0 : s₁.heap = h0 := by rw [← hh, Bd.state]; rfl
  have N0 := Fr.nil n0
  have KK0 := Keep.refl h0 [x]
  have C0 := CHr.refl hCH
  have hS0 : s.Since s.vm 0 := (State.WarmedH.refl s).since 0
  have hk0 : 0 ≤ h0.size := Nat.zero_le _
  have hEL : EW Z a0 EL := own_EW hw
  have cc0 : Steps p.tables e below (s₁.setTop (entryFrame m #[(.ref x), (.ref b), (.int 0), (.int 0), .null] 6)) (s₁.setTop (mkF m 0 #[sR x, sR b, sI 0, sI 0, .val .null, uN] [])) := XT.entry rfl
  obtain ⟨S0', hS0'⟩ : ∃ S, S = (s₁.setTop (entryFrame m #[(.ref x), (.ref b), (.int 0), (.int 0), .null] 6)) := ⟨_, rfl⟩
  rw [← hS0'] at cc0
  have W := @own_w Z a0 hw
  have q := @dX _ _ c D_6 @dB
  have sx := own_safe_null (EL := EL) hZ.alike (W 5 rfl) E V
  have cc21 : oQ X0 S0' 1 #[sR x, sR b, sI 0, sI 0, .val .null, uN] [.ref x] := Steps.trans cc0 (by
    refine XS.aloadN X0.here hx rfl (q 0 rfl) rfl rfl ?_
    exact Steps.refl _)
  obtain ⟨T22, X22, e22, st22⟩ := initO X0 hx hZ hown (W 15 rfl) (W 16 rfl) (W 17 rfl) e0 (g := (mkF m 1 #[sR x, sR b, sI 0, sI 0, .val .null, uN] [.ref x])) rfl (by rw [hml]; rfl) rfl (q 1 rfl) (by decide) (W := 0) (by show 2 * 0 + _ ≤ _; exact Nat.le_of_eq rfl) (by decide)
  have cc23 : oQ X22 S0' 9 #[sR x, sR b, sI 0, sI 0, .val .null, uN] [.ref x] := Steps.trans (cc21.trans (st22 _ (Steps.refl _))) (by
    refine XS.iloadN X22.here hx rfl (q 2 rfl) rfl ?_
    refine XS.ifNo X22.here hx rfl (q 3 rfl) rfl (i0_ne_f rfl) ?_
    refine XS.aloadN X22.here hx rfl (q 4 rfl) rfl rfl ?_
    exact Steps.refl _)
  obtain ⟨q1, T24, h24, k24, t1, kb24, X24, e24, E24, hS24, hk24, hZ24, hown24, Ex24, Fc24, Fv24, Ar24, lta24, ltb24, CH24, -, sfn24, st24⟩ := ldcCH X22 hx hZ hown (W 18 rfl) (fun a ha => hw a ((by decide +kernel : ∀ a ∈ Bundle.stringAtoms, a ∈ tables_1) a ha)) e22 hS0 hk0 hEL (by decide +kernel) C0.1 (vs := []) (z := 0) (by decide +kernel) (by decide) (by decide) (g := (mkF m 9 #[sR x, sR b, sI 0, sI 0, .val .null, uN] [.ref x])) rfl (q 5 rfl) (n := 0) (by decide) (by decide) (by decide) (by decide)
  have K24 := (Keep.refl h0 ([] : List Addr)).ext E24
  have C24 := C0.trans CH24
  have KK1 := KK0.trans K24 all0
  have Zs1 := Nat.le_trans Z0 K24.1
  have sf25 := CH24.safe E.lt sx
  have lt26 := Nat.lt_of_lt_of_le E.lt K24.1
  have nl24_x := sfn24 _ sf25
  have cc27 : oQ X24 S0' 11 #[sR x, sR b, sI 0, sI 0, .val .null, uN] [.ref q1, .ref x] := (cc23.trans (st24 _ (Steps.refl _)))
  obtain ⟨T28, X28, e28, st28⟩ := oGF X24 cc27 hx hZ24 hown24 (W 24 rfl) Via.refl e24 Fv24 (q 6 rfl)
  have cc30 : oQ X28 S0' 14 #[sR x, sR b, sI 0, sI 0, .val .null, uN] [.ref t1, .ref x] := st28
  have fa29 := V.keep K24 nin0
  have fa31 := E.keep K24
  obtain ⟨T32, h32, X32, e32, W32, st32⟩ := oPF X28 cc30 hx hZ24 hown24 (W 24 rfl) Via.refl e28 fa29 fa31 (Or.inr ⟨(W 20 rfl), rfl, hnm⟩) (W 5 rfl) (ty := (.array .byte)) (by decide) rfl rfl (q 7 rfl)
  have K32 := Keep.of_wr W32
  have N32 := Fr.snoc X32 N0 gx
  have D33 := CHr.wr W32 sf25 C24.1
  have C34 := C24.trans D33
  have KK2 := KK1.trans K32 (allS (Or.inl (lM 0 rfl)) all0)
  have Zs2 := Nat.le_trans Zs1 K32.1
  have cc35 : oQ X32 S0' 18 #[sR x, sR b, sI 0, sI 0, .val .null, uN] [.ref x] := Steps.trans st32 (by
    refine XS.aloadN X32.here hx rfl (q 8 rfl) rfl rfl ?_
    exact Steps.refl _)
  obtain ⟨q2, T36, h36, k36, t2, kb36, X36, e36, E36, hS36, hk36, hZ36, hown36, Ex36, Fc36, Fv36, Ar36, lta36, ltb36, CH36, -, sfn36, st36⟩ := ldcCH X32 hx hZ24 hown24 (W 18 rfl) (fun a ha => hw a ((by decide +kernel : ∀ a ∈ Bundle.stringAtoms, a ∈ tables_1) a ha)) e32 hS24 (Nat.le_trans hk24 K32.1) hEL (by decide +kernel) C34.1 (vs := []) (z := 0) (by decide +kernel) (by decide) (by decide) (g := (mkF m 18 #[sR x, sR b, sI 0, sI 0, .val .null, uN] [.ref x])) rfl (q 9 rfl) (n := 0) (by decide) (by decide) (by decide) (by decide)
  have K36 := (Keep.refl h32 ([] : List Addr)).ext E36
  have C36 := C34.trans CH36
  have KK3 := KK2.trans K36 all0
  have Zs3 := Nat.le_trans Zs2 K36.1
  have sf37 := D33.safe lt26 sf25
  have lt38 := Nat.lt_of_lt_of_le lt26 K32.1
  have sf39 := CH36.safe lt38 sf37
  have lt40 := Nat.lt_of_lt_of_le lt38 K36.1
  have nl36_x := sfn36 _ sf39
  have cc41 : oQ X36 S0' 20 #[sR x, sR b, sI 0, sI 0, .val .null, uN] [.ref q2, .ref x] := (cc35.trans (st36 _ (Steps.refl _)))
  obtain ⟨T42, X42, e42, st42⟩ := oGF X36 cc41 hx hZ36 hown36 (W 25 rfl) Via.refl e36 Fc36 (q 10 rfl)
  have cc44 : oQ X42 S0' 23 #[sR x, sR b, sI 0, sI 0, .val .null, uN] [.int (0 : Int32), .ref x] := st42
  have fa43 := ((C.keep K24 nin0).other W32 (Or.inr (slot_ne (Or.inr (W 21 rfl)) (Or.inr (W 20 rfl)) (by decide) (t := .byte) (t' := (.array .byte)) (by decide) (by decide)))).keep K36 nin0
  have fa45 := (fa31.keep K32).keep K36
  obtain ⟨T46, h46, X46, e46, W46, st46⟩ := oPF X42 cc44 hx hZ36 hown36 (W 25 rfl) Via.refl e42 fa43 fa45 (Or.inr ⟨(W 21 rfl), rfl, hnm⟩) (W 5 rfl) (ty := .byte) (v := (.int (0 : Int32))) (v' := (.int (0 : Int32))) (by decide) rfl rfl (q 11 rfl)
  have K46 := Keep.of_wr W46
  have N46 := Fr.snoc X46 N32 gx
  have D47 := CHr.wr W46 sf39 C36.1
  have C48 := C36.trans D47
  have KK4 := KK3.trans K46 (allS (Or.inl (lM 0 rfl)) all0)
  have Zs4 := Nat.le_trans Zs3 K46.1
  have cc50 : oQ X46 S0' 26 #[sR x, sR b, sI 0, sI 0, .val .null, uN] [] := st46
  have fa49 := fa45.keep K46
  have fa51 := ((Fld.same W32 fa29).keep K36 nin0).other W46 (Or.inr (slot_ne (Or.inr (W 20 rfl)) (Or.inr (W 21 rfl)) (by decide) (t := (.array .byte)) (t' := .byte) (by decide) (by decide)))
  have fa52 := ((Ar24.keep K32 (ninS (Ne.symm nl24_x.2) nin0)).keep K36 nin0).keep K46 (ninS (Ne.symm nl24_x.2) nin0)
  have cE := cc50
  rw [hS0'] at cE
  obtain ⟨fs, hr_, hrun, hended, hE⟩ := X46.leaveW hS36 (by rw [e46]; exact (Nat.le_trans hk36 K46.1)) (v := none) (fun _ => rfl)
  have CE := C48.trans (CHv.at X46 hZ36 hEL C48.1)
  refine ⟨_, _, cE.trans (X46.returnOut hx Bd.returns (q 12 rfl) hr_), hrun, hended, _, _, rfl, ?_, ?_, hE.1, hE.2.1, hE.2.2.1, hE.2.2.2.mono (by first | decide | omega) (by first | decide | omega)⟩
  · show Q_own_new4e Z x b h0 n0 _ T46.heap _
    rw [e46]
    exact ⟨rfl, N46, KK4, fa49, (Fld.same W46 fa43), t1, _, Ne.symm nl24_x.2, fa52.lt, fa51, fa52⟩
  · rw [hh]
    show CHr Z EL s.vm h0 T46.vm T46.heap
    rw [e46]
    exact CE
def Q_own_new1e (Z : State) (x b : Addr) (kc : ClassId) (h0 : Heap) (n0 : Nat) (v : Option Value) (h : Heap) (L : List Loc) : Prop := v = none ∧ Fr n0 L ∧ Keep h0 h [x] ∧ zE4 Z h x ∧ zF11 Z h x (.int (0 : Int32)) ∧ ∃ (t : Addr) (kb : ClassId), t ≠ x ∧ t < h.size ∧ zF13 Z h x (.ref t) ∧ Arv Z h t kb .byte (0 : Int32) [] (.int (0 : Int32))
set_option maxRecDepth 65536 in
set_option maxHeartbeats 40000000 in
theorem own_new1e (l : Launch) (Z : State) (a0 : Array Value) (hw : ∀ d ∈ tables_1, d.before a0 Z = true) (x b : Addr) (kc : ClassId) (h0 : Heap) (n0 : Nat) (Z0 : n0 ≤ h0.size) (E : zE4 Z h0 x) (V : zF13 Z h0 x .null) (C : zF11 Z h0 x (.int (0 : Int32))) (gx : n0 ≤ x) (K : Arv Z h0 b kc .char (0 : Int32) [] (.int (0 : Int32))) :
    MetFree l yM7 (head1 [Jvm.Cond.code yM7 jdk_42_method_3_code 2 none] rM4) (fun a_ U_ => a_ = #[(.ref x), (.ref b)] ∧ Z.Warmed39 U_.vm ∧ U_.heap = h0 ∧ CHv Z EL U_.vm h0) (fun _ _ _ _ _ => True) (fun _ U_ o_ V_ => ∃ v_ L_, o_ = .returned v_ ∧ Q_own_new1e Z x b kc h0 n0 v_ V_.heap L_ ∧ CHr Z EL U_.vm U_.heap V_.vm V_.heap ∧ ReturnedEndW U_ o_ V_ L_ rM4.cells rM4.slots) := by
  refine MetFree.of_bodySF (plainFor_of_name own_pn3) hisR ?_
  intro p e s m args below meth c s₁ Bd hml0 hP hK
  obtain ⟨rfl, hZ, hh, hCH⟩ := hP
  have hx := Bd.exec
  have hby := Bd.bytes
  have dB := @own_d c _ hby
  have hml : c.maxLocals = 2 := hml0
  have hown : s.vm.findClass "java/lang/String" = some m.cls := findClass_of_methodNamed Bd.named
  have hnm := (name_of_methodNamed Bd.named Bd.method).1
  have X0 : Stand p l e rM4 (s.setVm s.vm) m #[(.ref x), (.ref b)] below meth c s₁ [] 0 0 := Stand.of_body Bd
  have e0 : s₁.heap = h0 := by rw [← hh, Bd.state]; rfl
  have N0 := Fr.nil n0
  have KK0 := Keep.refl h0 [x]
  have C0 := CHr.refl hCH
  have hS0 : s.Since s.vm 0 := (State.WarmedH.refl s).since 0
  have hk0 : 0 ≤ h0.size := Nat.zero_le _
  have hEL : EW Z a0 EL := own_EW hw
  have cc0 : Steps p.tables e below (s₁.setTop (entryFrame m #[(.ref x), (.ref b)] 2)) (s₁.setTop (mkF m 0 #[sR x, sR b] [])) := XT.entry rfl
  obtain ⟨S0', hS0'⟩ : ∃ S, S = (s₁.setTop (entryFrame m #[(.ref x), (.ref b)] 2)) := ⟨_, rfl⟩
  rw [← hS0'] at cc0
  have W := @own_w Z a0 hw
  have q := @dX _ _ c D_7 @dB
  have cc21 : oQ X0 S0' 4 #[sR x, sR b] [.ref b, .int 0, .ref b, .ref x] := Steps.trans cc0 (by
    refine XS.aloadN X0.here hx rfl (q 0 rfl) rfl rfl ?_
    refine XS.aloadN X0.here hx rfl (q 1 rfl) rfl rfl ?_
    refine iconstV X0.here hx rfl 0 (q 2 rfl) (by decide) ?_
    refine XS.aloadN X0.here hx rfl (q 3 rfl) rfl rfl ?_
    exact Steps.refl _)
  obtain ⟨clu22, Aru22, -, Su22, Ngu22, -, -⟩ := id K
  have cl_u22 := X0.arraylength hx (by rw [e0]; exact Aru22.1) (State.isArrayOf_alike (hZ).alike Aru22.2.1) (g := (mkF m 4 #[sR x, sR b] [.ref b, .int 0, .ref b, .ref x])) rfl rfl (q 4 rfl) _ (Steps.refl _)
  rw [len_of Su22 Ngu22] at cl_u22
  have cc23 : oQ X0 S0' 6 #[sR x, sR b] [.null, .int (0 : Int32), .int 0, .ref b, .ref x] := Steps.trans (Steps.trans cc21 cl_u22) (by
    refine XS.aconstNull X0.here hx rfl (q 5 rfl) ?_
    exact Steps.refl _)
  obtain ⟨_, _, ⟨T24, L24, k24, n24⟩, -, X24, hs24, gr24, ⟨Lc24, hQ24, l24, y24, z24, CH24⟩, st24⟩ := X0.specialBackS hx (y := yM6) rfl hown (mvT hZ (W 11 rfl)) (mvT hZ (W 12 rfl)) (mvT hZ (W 14 rfl)) (by decide) (backOfSH (W := 0) (own_new4e l Z a0 hw x b h0 n0 Z0 E V C gx) hZ (W 14 rfl) (W 6 rfl) (by decide) (by decide) hEL C0.1) (g := (mkF m 6 #[sR x, sR b] [.null, .int (0 : Int32), .int 0, .ref b, .ref x])) rfl (by rw [hml]; rfl) (Steps.refl _) (a := x) (argsL := [(.ref b), (.int 0), (.int (0 : Int32)), .null]) (rest := []) (lenOf own_pd0 rfl) rfl (Nat.le_of_eq rfl) (q 6 rfl) (fun _ _ => ⟨rfl, e0, nB rfl, nB rfl⟩)
  dsimp only [Pt.U, Pt.locs, Pt.cells, Pt.slots] at X24 l24 y24 z24 st24 hQ24 hs24 gr24 CH24
  subst l24 y24 z24
  obtain ⟨rfl, Nq24, Kq24, Eq24, Cq24, t, kb, q124, q224, Vq24, Aq24⟩ := hQ24
  obtain ⟨Xr24, hS24, hZ24, hown24⟩ := rebS hS0 (by rw [e0]; exact hk0) X24 hs24 gr24 hZ hown
  have hk24 : T24.heap.size ≤ T24.heap.size := Nat.le_refl _
  have C24 := C0.trans CH24
  have N24 := Fr.app N0 Nq24
  have KK1 := KK0.trans Kq24 (allS (Or.inl (lM 0 rfl)) all0)
  have Zs1 := Nat.le_trans Z0 Kq24.1
  have e24 : T24.heap = T24.heap := rfl
  have cc25 : oQ Xr24 S0' 9 #[sR x, sR b] [] := (Steps.trans cc23 st24)
  have cE := cc25
  rw [hS0'] at cE
  obtain ⟨fs, hr_, hrun, hended, hE⟩ := Xr24.leaveW hS24 (by rw [e24]; exact hk24) (v := none) (fun _ => rfl)
  have CE := C24.trans (CHv.at Xr24 hZ24 hEL C24.1)
  refine ⟨_, _, cE.trans (Xr24.returnOut hx Bd.returns (q 7 rfl) hr_), hrun, hended, _, _, rfl, ?_, ?_, hE.1, hE.2.1, hE.2.2.1, hE.2.2.2.mono (by first | decide | omega) (by first | decide | omega)⟩
  · show Q_own_new1e Z x b kc h0 n0 _ T24.heap _
    rw [e24]
    exact ⟨rfl, N24, KK1, Eq24, Cq24, t, kb, q124, q224, Vq24, Aq24⟩
  · rw [hh]
    show CHr Z EL s.vm h0 T24.vm T24.heap
    rw [e24]
    exact CE
def Q_own_vo (Z : State) (w z : Int32) (h0 : Heap) (n0 : Nat) (v : Option Value) (h : Heap) (L : List Loc) : Prop := ∃ x : Addr, v = some (.ref x) ∧ Fr n0 L ∧ Keep h0 h [] ∧ h0.size ≤ x ∧ own_Lat Z h x [w]
theorem own_vo (l : Launch) (Z : State) (a0 : Array Value) (hw : oH a0 Z) (w z : Int32) (h0 : Heap) (n0 : Nat) (Z0 : n0 ≤ h0.size) (X00 : Old Z n0 h0) (O2 : Sta Z Z.heap "java/lang/String" "COMPACT_STRINGS" "Z" (.int z)) (P5 : ¬ z = 0) (hb : ¬ w < 0 ∧ ¬ (255 : Int32) < w) :
    oC l yM8 (.code yM8 jdk_42_method_139_code 1 (some (.object "java/lang/String"))) rM5 #[(.int w)] Z h0 (Q_own_vo Z w z h0 n0) := by
  refine oO (plainFor_of_name own_pn3) hisR fun p e s m below meth c s₁ S0' Bd hS hx dB hml hown hnm hZ X0 e0 => ?_
  have N0 := Fr.nil n0
  have KK0 := Keep.refl h0 ([] : List Addr)
  have cc0 : oQ X0 S0' 0 #[sI w] [] := oE hS rfl
  have W := @own_w Z a0 hw
  have q := @dX _ _ c D_8 @dB
  have w_35 := W 35 rfl
  obtain ⟨T21, X21, e21, st21⟩ := oGS X0 cc0 hx hZ hown (host := "") (Or.inl (W 32 rfl)) Via.refl e0 (O2.ext X00.2) (q 0 rfl)
  have cc22 : oQ X21 S0' 7 #[sI w] [.int w] := Steps.trans st21 (by
    refine XS.ifNo X21.here hx rfl (q 1 rfl) rfl (i0_eq_f P5) ?_
    refine XS.iloadN X21.here hx rfl (q 2 rfl) rfl ?_
    exact Steps.refl _)
  obtain ⟨_, T23, L23, X23, ⟨rfl, Nq23, eq23⟩, st23⟩ := oCT (y := yM3) X21 cc22 hx hZ hown hml (q 3 rfl) e21 (W 33 rfl) (W 34 rfl) w_35 (W 36 rfl) (by decide) [.int w] [] (lenOf own_pd1 rfl) (bO (own_ce l Z a0 hw w h0 n0 Z0 hb.2) hZ (W 36 rfl) w_35)
  have N23 := Fr.app N0 Nq23
  have cc24 : oQ X23 S0' 13 #[sI w] [] := Steps.trans st23 (by
    refine XS.ifNo X23.here hx rfl (q 4 rfl) rfl (i0_eq_f (by decide)) ?_
    exact Steps.refl _)
  obtain ⟨T25, h25, X25, e25, E25, A25, D25, -, st25⟩ := newO X23 hx hZ hown (W 37 rfl) (W 5 rfl) (W 6 rfl) eq23 (g := (mkF m 13 #[sI w] [])) rfl (q 5 rfl) (by decide) (by decide)
  obtain ⟨x, g_x⟩ : ∃ z, z = h0.size := ⟨_, rfl⟩
  rw [← g_x] at A25 D25 st25
  have K25 := (Keep.refl h0 ([] : List Addr)).ext E25
  have b_x : h0.size ≤ x := (Nat.le_of_eq g_x.symm)
  have gn_x := Nat.le_trans Z0 b_x
  have s0_x := Nat.le_trans KK0.1 b_x
  have KK1 := KK0.trans K25 all0
  have Zs1 := Nat.le_trans Z0 K25.1
  have F_value_x : zF13 Z h25 x .null := D25 (Or.inr (W 20 rfl)) (ty := (.array .byte)) (by decide)
  have F_coder_x : zF11 Z h25 x (.int (0 : Int32)) := D25 (Or.inr (W 21 rfl)) (ty := .byte) (by decide)
  have cc26 : oQ X25 S0' 18 #[sI w] [.int w, .ref x, .ref x] := Steps.trans (cc24.trans (st25 _ (Steps.refl _))) (by
    refine XS.dup X25.here hx rfl (q 6 rfl) rfl rfl ?_
    refine XS.iloadN X25.here hx rfl (q 7 rfl) rfl ?_
    exact Steps.refl _)
  obtain ⟨_, T27, L27, X27, ⟨t, kt, rfl, Nq27, Kq27, sq27, Aq27⟩, st27⟩ := oCT (y := yM4) X25 cc26 hx hZ hown hml (q 8 rfl) e25 (W 38 rfl) (W 39 rfl) w_35 (W 40 rfl) (by decide) [.int w] [.ref x, .ref x] (lenOf own_pd2 rfl) (bO (own_tb1 l Z a0 hw w h25 n0 Zs1 ) hZ (W 40 rfl) w_35)
  have N27 := Fr.app N23 Nq27
  have b_t : h25.size ≤ t := sq27
  have gn_t := Nat.le_trans Zs1 b_t
  have s0_t := Nat.le_trans KK1.1 b_t
  have ne_x_t := oN A25.lt b_t
  have KK2 := KK1.trans Kq27 all0
  have Zs2 := Nat.le_trans Zs1 Kq27.1
  have e27 : T27.heap = T27.heap := rfl
  have cc29 : oQ X27 S0' 22 #[sI w] [.int 0, .ref t, .ref x, .ref x] := Steps.trans st27 (by
    refine iconstV X27.here hx rfl 0 (q 9 rfl) (by decide) ?_
    exact Steps.refl _)
  have fa28 := A25.keep Kq27
  have fa30 := F_value_x.keep Kq27 nin0
  have fa31 := F_coder_x.keep Kq27 nin0
  obtain ⟨_, T32, L32, X32, ⟨rfl, Nq32, Kq32, Eq32, Cq32, Vq32⟩, st32⟩ := oCN (y := yM5) X27 cc29 hx hZ hown hml (q 10 rfl) e27 x rfl (W 41 rfl) (W 42 rfl) (W 43 rfl) (by decide) [.ref t, .int 0] [.ref x] (lenOf own_pd3 rfl) (bO (own_ibb l Z a0 hw x t T27.heap n0 Zs2 fa28 fa30 fa31 gn_x) hZ (W 43 rfl) (W 6 rfl))
  have N32 := Fr.app N27 Nq32
  have KK3 := KK2.trans Kq32 (allS (Or.inr s0_x) all0)
  have Zs3 := Nat.le_trans Zs2 Kq32.1
  have e32 : T32.heap = T32.heap := rfl
  have cc34 : oQ X32 S0' 25 #[sI w] [.ref x] := st32
  have fa33 := Aq27.keep Kq32 (ninS (Ne.symm ne_x_t) nin0)
  exact oRA X32 Bd cc34 (q 11 rfl) rfl (rfl) rfl e32 ⟨x, rfl, N32, KK3, s0_x, Eq32, Cq32, by simpa using hb, by simp, t, kt, Vq32, fa33⟩
def Q_own_sqi (Z : State) (o x : Addr) (b : Int32) (h0 : Heap) (n0 : Nat) (v : Option Value) (h : Heap) (L : List Loc) : Prop := v = none ∧ Fr n0 L ∧ Keep h0 h [o]
theorem own_sqi (l : Launch) (Z : State) (a0 : Array Value) (hw : oH a0 Z) (o x : Addr) (b : Int32) (h0 : Heap) (n0 : Nat) (Z0 : n0 ≤ h0.size) (E : Exa Z h0 o "com/example/ontology_over_tables/ontologyovertables/mapping/SqlIdentifier") (F1 : Fld Z h0 o "com/example/ontology_over_tables/ontologyovertables/mapping/SqlIdentifier" "name" "Ljava/lang/String;" .null) (F2 : Fld Z h0 o "com/example/ontology_over_tables/ontologyovertables/mapping/SqlIdentifier" "delimited" "Z" (.int (0 : Int32))) (go : n0 ≤ o) (hb : b = 0 ∨ b = 1) :
    oC l yM9 (.code yM9 prog_7_method_1_code 3 none) rM6 #[(.ref o), (.ref x), (.int b)] Z h0 (Q_own_sqi Z o x b h0 n0) := by
  refine oO (plainFor_of_name own_pn4) hisR fun p e s m below meth c s₁ S0' Bd hS hx dB hml hown hnm hZ X0 e0 => ?_
  have N0 := Fr.nil n0
  have KK0 := Keep.refl h0 [o]
  have cc0 : oQ X0 S0' 0 #[sR o, sR x, sI b] [] := oE hS rfl
  have W := @own_w Z a0 hw
  have q := @dX _ _ c D_9 @dB
  have cc21 : oQ X0 S0' 1 #[sR o, sR x, sI b] [.ref o] := Steps.trans cc0 (by
    refine XS.aloadN X0.here hx rfl (q 0 rfl) rfl rfl ?_
    exact Steps.refl _)
  obtain ⟨_, T22, L22, X22, ⟨rfl, Nq22, eq22⟩, st22⟩ := oCN (y := yM0) X0 cc21 hx hZ hown hml (q 1 rfl) e0 o rfl (W 47 rfl) (W 48 rfl) (W 51 rfl) (by decide) [] [] (lenOf own_pd4 rfl) (bO (own_rec l Z a0 hw o h0 n0 Z0 ) hZ (W 51 rfl) (W 50 rfl))
  have N22 := Fr.app N0 Nq22
  have cc23 : oQ X22 S0' 6 #[sR o, sR x, sI b] [.ref x, .ref o] := Steps.trans st22 (by
    refine XS.aloadN X22.here hx rfl (q 2 rfl) rfl rfl ?_
    refine XS.aloadN X22.here hx rfl (q 3 rfl) rfl rfl ?_
    exact Steps.refl _)
  obtain ⟨T24, h24, X24, e24, W24, st24⟩ := oPF X22 cc23 hx hZ hown (W 53 rfl) Via.refl eq22 F1 E (Or.inr ⟨(W 54 rfl), rfl, hnm⟩) (W 27 rfl) (ty := (.object "java/lang/String")) (by decide) rfl rfl (q 4 rfl)
  have K24 := Keep.of_wr W24
  have N24 := Fr.snoc X24 N22 go
  have KK1 := KK0.trans K24 (allS (Or.inl (lM 0 rfl)) all0)
  have Zs1 := Nat.le_trans Z0 K24.1
  have cc26 : oQ X24 S0' 11 #[sR o, sR x, sI b] [.int b, .ref o] := Steps.trans st24 (by
    refine XS.aloadN X24.here hx rfl (q 5 rfl) rfl rfl ?_
    refine XS.iloadN X24.here hx rfl (q 6 rfl) rfl ?_
    exact Steps.refl _)
  have fa25 := F2.other W24 (Or.inr (slot_ne (Or.inr (W 56 rfl)) (Or.inr (W 54 rfl)) (by decide) (t := .boolean) (t' := (.object "java/lang/String")) (by decide) (by decide)))
  have fa27 := E.keep K24
  obtain ⟨T28, h28, X28, e28, W28, st28⟩ := oPF X24 cc26 hx hZ hown (W 55 rfl) Via.refl e24 fa25 fa27 (Or.inr ⟨(W 56 rfl), rfl, hnm⟩) (W 27 rfl) (ty := .boolean) (v := (.int b)) (v' := (.int b)) (by decide) (by rcases hb with rfl | rfl <;> rfl) (by rcases hb with rfl | rfl <;> rfl) (q 7 rfl)
  have K28 := Keep.of_wr W28
  have N28 := Fr.snoc X28 N24 go
  have KK2 := KK1.trans K28 (allS (Or.inl (lM 0 rfl)) all0)
  have Zs2 := Nat.le_trans Zs1 K28.1
  have cc29 : oQ X28 S0' 14 #[sR o, sR x, sI b] [] := st28
  exact oRV X28 Bd cc29 (q 8 rfl) rfl e28 ⟨rfl, N28, KK2⟩
def Q_own_coi (Z : State) (o x : Addr) (h0 : Heap) (n0 : Nat) (v : Option Value) (h : Heap) (L : List Loc) : Prop := v = none ∧ Fr n0 L ∧ Keep h0 h [o] ∧ Fld Z h o "com/example/ontology_over_tables/ontologyovertables/mapping/TriplesMap$TermMap$Column" "name" "Lcom/example/ontology_over_tables/ontologyovertables/mapping/SqlIdentifier;" (.ref x)
set_option maxRecDepth 65536 in
set_option maxHeartbeats 40000000 in
theorem own_coi (l : Launch) (Z : State) (a0 : Array Value) (hw : ∀ d ∈ tables_1, d.before a0 Z = true) (o x : Addr) (h0 : Heap) (n0 : Nat) (Z0 : n0 ≤ h0.size) (E : Exa Z h0 o "com/example/ontology_over_tables/ontologyovertables/mapping/TriplesMap$TermMap$Column") (F1 : Fld Z h0 o "com/example/ontology_over_tables/ontologyovertables/mapping/TriplesMap$TermMap$Column" "name" "Lcom/example/ontology_over_tables/ontologyovertables/mapping/SqlIdentifier;" .null) (go : n0 ≤ o) :
    MetFree l yM10 (head1 [Jvm.Cond.code yM10 prog_19_method_1_code 2 none] rM7) (fun a_ U_ => a_ = #[(.ref o), (.ref x)] ∧ Z.Warmed39 U_.vm ∧ U_.heap = h0 ∧ CHv Z EL U_.vm h0) (fun _ _ _ _ _ => True) (fun _ U_ o_ V_ => ∃ v_ L_, o_ = .returned v_ ∧ Q_own_coi Z o x h0 n0 v_ V_.heap L_ ∧ CHr Z EL U_.vm U_.heap V_.vm V_.heap ∧ ReturnedEndW U_ o_ V_ L_ rM7.cells rM7.slots) := by
  refine MetFree.of_bodySF (plainFor_of_name own_pn5) hisR ?_
  intro p e s m args below meth c s₁ Bd hml0 hP hK
  obtain ⟨rfl, hZ, hh, hCH⟩ := hP
  have hx := Bd.exec
  have hby := Bd.bytes
  have dB := @own_d c _ hby
  have hml : c.maxLocals = 2 := hml0
  have hown : s.vm.findClass "com/example/ontology_over_tables/ontologyovertables/mapping/TriplesMap$TermMap$Column" = some m.cls := findClass_of_methodNamed Bd.named
  have hnm := (name_of_methodNamed Bd.named Bd.method).1
  have X0 : Stand p l e rM7 (s.setVm s.vm) m #[(.ref o), (.ref x)] below meth c s₁ [] 0 0 := Stand.of_body Bd
  have e0 : s₁.heap = h0 := by rw [← hh, Bd.state]; rfl
  have N0 := Fr.nil n0
  have KK0 := Keep.refl h0 [o]
  have C0 := CHr.refl hCH
  have hS0 : s.Since s.vm 0 := (State.WarmedH.refl s).since 0
  have hk0 : 0 ≤ h0.size := Nat.zero_le _
  have hEL : EW Z a0 EL := own_EW hw
  have cc0 : Steps p.tables e below (s₁.setTop (entryFrame m #[(.ref o), (.ref x)] 2)) (s₁.setTop (mkF m 0 #[sR o, sR x] [])) := XT.entry rfl
  obtain ⟨S0', hS0'⟩ : ∃ S, S = (s₁.setTop (entryFrame m #[(.ref o), (.ref x)] 2)) := ⟨_, rfl⟩
  rw [← hS0'] at cc0
  have W := @own_w Z a0 hw
  have q := @dX _ _ c D_10 @dB
  have cc21 : oQ X0 S0' 1 #[sR o, sR x] [.ref o] := Steps.trans cc0 (by
    refine XS.aloadN X0.here hx rfl (q 0 rfl) rfl rfl ?_
    exact Steps.refl _)
  obtain ⟨_, T22, L22, X22, ⟨rfl, Nq22, eq22⟩, st22⟩ := oCN (y := yM0) X0 cc21 hx hZ hown hml (q 1 rfl) e0 o rfl (W 63 rfl) (W 48 rfl) (W 51 rfl) (by decide) [] [] (lenOf own_pd4 rfl) (bO (own_rec l Z a0 hw o h0 n0 Z0 ) hZ (W 51 rfl) (W 50 rfl))
  have N22 := Fr.app N0 Nq22
  have cc23 : oQ X22 S0' 5 #[sR o, sR x] [.ref x] := Steps.trans st22 (by
    refine XS.aloadN X22.here hx rfl (q 2 rfl) rfl rfl ?_
    exact Steps.refl _)
  obtain ⟨m1, T24, h24, k24, X24, e24, E24, hS24, hk24, hZ24, hown24, CH24, -, st24⟩ := ldcOH X22 hx hZ hown (W 64 rfl) (fun a ha => hw a ((by decide +kernel : ∀ a ∈ Bundle.stringAtoms, a ∈ tables_1) a ha)) eq22 hS0 hk0 hEL C0.1 (g := (mkF m 5 #[sR o, sR x] [.ref x])) rfl (q 3 rfl) (n := 16) (by decide) (by decide) (by decide) (by decide)
  have K24 := (Keep.refl h0 ([] : List Addr)).ext E24
  have C24 := C0.trans CH24
  have KK1 := KK0.trans K24 all0
  have Zs1 := Nat.le_trans Z0 K24.1
  have cc25 : oQ X24 S0' 7 #[sR o, sR x] [.ref m1, .ref x] := (cc23.trans (st24 _ (Steps.refl _)))
  obtain ⟨_, T26, L26, X26, ⟨rfl, Nq26, eq26⟩, st26⟩ := oCT (y := yM1) X24 cc25 hx hZ24 hown24 hml (q 4 rfl) e24 (W 65 rfl) (W 66 rfl) (W 67 rfl) (W 68 rfl) (by decide) [.ref x, .ref m1] [] (lenOf own_pd5 rfl) (bO (own_nn l Z a0 hw x m1 h24 n0 Zs1 ) hZ24 (W 68 rfl) (W 67 rfl))
  have N26 := Fr.app N22 Nq26
  have cc28 : oQ X26 S0' 13 #[sR o, sR x] [.ref x, .ref o] := Steps.trans st26 (by
    refine XT.pop X26.here hx rfl (q 5 rfl) rfl rfl ?_
    refine XS.aloadN X26.here hx rfl (q 6 rfl) rfl rfl ?_
    refine XS.aloadN X26.here hx rfl (q 7 rfl) rfl rfl ?_
    exact Steps.refl _)
  have fa27 := F1.keep K24 nin0
  have fa29 := E.keep K24
  obtain ⟨T30, h30, X30, e30, W30, st30⟩ := oPF X26 cc28 hx hZ24 hown24 (W 69 rfl) Via.refl eq26 fa27 fa29 (Or.inr ⟨(W 70 rfl), rfl, hnm⟩) (W 58 rfl) (ty := (.object "com/example/ontology_over_tables/ontologyovertables/mapping/SqlIdentifier")) (by decide) rfl rfl (q 8 rfl)
  have K30 := Keep.of_wr W30
  have N30 := Fr.snoc X30 N26 go
  have D31 := CHr.wr W30 (Safe.exa (hZ24).alike fa29 (by decide) (by decide)) C24.1
  have C32 := C24.trans D31
  have KK2 := KK1.trans K30 (allS (Or.inl (lM 0 rfl)) all0)
  have Zs2 := Nat.le_trans Zs1 K30.1
  have cc33 : oQ X30 S0' 16 #[sR o, sR x] [] := st30
  have cE := cc33
  rw [hS0'] at cE
  obtain ⟨fs, hr_, hrun, hended, hE⟩ := X30.leaveW hS24 (by rw [e30]; exact (Nat.le_trans hk24 K30.1)) (v := none) (fun _ => rfl)
  have CE := C32.trans (CHv.at X30 hZ24 hEL C32.1)
  refine ⟨_, _, cE.trans (X30.returnOut hx Bd.returns (q 9 rfl) hr_), hrun, hended, _, _, rfl, ?_, ?_, hE.1, hE.2.1, hE.2.2.1, hE.2.2.2.mono (by first | decide | omega) (by first | decide | omega)⟩
  · show Q_own_coi Z o x h0 n0 _ T30.heap _
    rw [e30]
    exact ⟨rfl, N30, KK2, (Fld.same W30 fa27)⟩
  · rw [hh]
    show CHr Z EL s.vm h0 T30.vm T30.heap
    rw [e30]
    exact CE
def Q_own_txi (Z : State) (o x : Addr) (h0 : Heap) (n0 : Nat) (v : Option Value) (h : Heap) (L : List Loc) : Prop := v = none ∧ Fr n0 L ∧ Keep h0 h [o] ∧ zF18 Z h o (.ref x)
set_option maxRecDepth 65536 in
set_option maxHeartbeats 40000000 in
theorem own_txi (l : Launch) (Z : State) (a0 : Array Value) (hw : ∀ d ∈ tables_1, d.before a0 Z = true) (o x : Addr) (h0 : Heap) (n0 : Nat) (Z0 : n0 ≤ h0.size) (E : Exa Z h0 o "com/example/ontology_over_tables/ontologyovertables/mapping/TriplesMap$TermMap$Text") (F1 : zF18 Z h0 o .null) (go : n0 ≤ o) :
    MetFree l yM11 (head1 [Jvm.Cond.code yM11 prog_21_method_1_code 2 none] rM7) (fun a_ U_ => a_ = #[(.ref o), (.ref x)] ∧ Z.Warmed39 U_.vm ∧ U_.heap = h0 ∧ CHv Z EL U_.vm h0) (fun _ _ _ _ _ => True) (fun _ U_ o_ V_ => ∃ v_ L_, o_ = .returned v_ ∧ Q_own_txi Z o x h0 n0 v_ V_.heap L_ ∧ CHr Z EL U_.vm U_.heap V_.vm V_.heap ∧ ReturnedEndW U_ o_ V_ L_ rM7.cells rM7.slots) := by
  refine MetFree.of_bodySF (plainFor_of_name own_pn6) hisR ?_
  intro p e s m args below meth c s₁ Bd hml0 hP hK
  obtain ⟨rfl, hZ, hh, hCH⟩ := hP
  have hx := Bd.exec
  have hby := Bd.bytes
  have dB := @own_d c _ hby
  have hml : c.maxLocals = 2 := hml0
  have hown : s.vm.findClass "com/example/ontology_over_tables/ontologyovertables/mapping/TriplesMap$TermMap$Text" = some m.cls := findClass_of_methodNamed Bd.named
  have hnm := (name_of_methodNamed Bd.named Bd.method).1
  have X0 : Stand p l e rM7 (s.setVm s.vm) m #[(.ref o), (.ref x)] below meth c s₁ [] 0 0 := Stand.of_body Bd
  have e0 : s₁.heap = h0 := by rw [← hh, Bd.state]; rfl
  have N0 := Fr.nil n0
  have KK0 := Keep.refl h0 [o]
  have C0 := CHr.refl hCH
  have hS0 : s.Since s.vm 0 := (State.WarmedH.refl s).since 0
  have hk0 : 0 ≤ h0.size := Nat.zero_le _
  have hEL : EW Z a0 EL := own_EW hw
  have cc0 : Steps p.tables e below (s₁.setTop (entryFrame m #[(.ref o), (.ref x)] 2)) (s₁.setTop (mkF m 0 #[sR o, sR x] [])) := XT.entry rfl
  obtain ⟨S0', hS0'⟩ : ∃ S, S = (s₁.setTop (entryFrame m #[(.ref o), (.ref x)] 2)) := ⟨_, rfl⟩
  rw [← hS0'] at cc0
  have W := @own_w Z a0 hw
  have q := @dX _ _ c D_11 @dB
  have cc21 : oQ X0 S0' 1 #[sR o, sR x] [.ref o] := Steps.trans cc0 (by
    refine XS.aloadN X0.here hx rfl (q 0 rfl) rfl rfl ?_
    exact Steps.refl _)
  obtain ⟨_, T22, L22, X22, ⟨rfl, Nq22, eq22⟩, st22⟩ := oCN (y := yM0) X0 cc21 hx hZ hown hml (q 1 rfl) e0 o rfl (W 77 rfl) (W 48 rfl) (W 51 rfl) (by decide) [] [] (lenOf own_pd4 rfl) (bO (own_rec l Z a0 hw o h0 n0 Z0 ) hZ (W 51 rfl) (W 50 rfl))
  have N22 := Fr.app N0 Nq22
  have cc23 : oQ X22 S0' 5 #[sR o, sR x] [.ref x] := Steps.trans st22 (by
    refine XS.aloadN X22.here hx rfl (q 2 rfl) rfl rfl ?_
    exact Steps.refl _)
  obtain ⟨m1, T24, h24, k24, X24, e24, E24, hS24, hk24, hZ24, hown24, CH24, -, st24⟩ := ldcOH X22 hx hZ hown (W 78 rfl) (fun a ha => hw a ((by decide +kernel : ∀ a ∈ Bundle.stringAtoms, a ∈ tables_1) a ha)) eq22 hS0 hk0 hEL C0.1 (g := (mkF m 5 #[sR o, sR x] [.ref x])) rfl (q 3 rfl) (n := 16) (by decide) (by decide) (by decide) (by decide)
  have K24 := (Keep.refl h0 ([] : List Addr)).ext E24
  have C24 := C0.trans CH24
  have KK1 := KK0.trans K24 all0
  have Zs1 := Nat.le_trans Z0 K24.1
  have cc25 : oQ X24 S0' 7 #[sR o, sR x] [.ref m1, .ref x] := (cc23.trans (st24 _ (Steps.refl _)))
  obtain ⟨_, T26, L26, X26, ⟨rfl, Nq26, eq26⟩, st26⟩ := oCT (y := yM1) X24 cc25 hx hZ24 hown24 hml (q 4 rfl) e24 (W 79 rfl) (W 66 rfl) (W 67 rfl) (W 68 rfl) (by decide) [.ref x, .ref m1] [] (lenOf own_pd5 rfl) (bO (own_nn l Z a0 hw x m1 h24 n0 Zs1 ) hZ24 (W 68 rfl) (W 67 rfl))
  have N26 := Fr.app N22 Nq26
  have cc28 : oQ X26 S0' 13 #[sR o, sR x] [.ref x, .ref o] := Steps.trans st26 (by
    refine XT.pop X26.here hx rfl (q 5 rfl) rfl rfl ?_
    refine XS.aloadN X26.here hx rfl (q 6 rfl) rfl rfl ?_
    refine XS.aloadN X26.here hx rfl (q 7 rfl) rfl rfl ?_
    exact Steps.refl _)
  have fa27 := F1.keep K24 nin0
  have fa29 := E.keep K24
  obtain ⟨T30, h30, X30, e30, W30, st30⟩ := oPF X26 cc28 hx hZ24 hown24 (W 80 rfl) Via.refl eq26 fa27 fa29 (Or.inr ⟨(W 81 rfl), rfl, hnm⟩) (W 72 rfl) (ty := (.object "java/lang/String")) (by decide) rfl rfl (q 8 rfl)
  have K30 := Keep.of_wr W30
  have N30 := Fr.snoc X30 N26 go
  have D31 := CHr.wr W30 (Safe.exa (hZ24).alike fa29 (by decide) (by decide)) C24.1
  have C32 := C24.trans D31
  have KK2 := KK1.trans K30 (allS (Or.inl (lM 0 rfl)) all0)
  have Zs2 := Nat.le_trans Zs1 K30.1
  have cc33 : oQ X30 S0' 16 #[sR o, sR x] [] := st30
  have cE := cc33
  rw [hS0'] at cE
  obtain ⟨fs, hr_, hrun, hended, hE⟩ := X30.leaveW hS24 (by rw [e30]; exact (Nat.le_trans hk24 K30.1)) (v := none) (fun _ => rfl)
  have CE := C32.trans (CHv.at X30 hZ24 hEL C32.1)
  refine ⟨_, _, cE.trans (X30.returnOut hx Bd.returns (q 9 rfl) hr_), hrun, hended, _, _, rfl, ?_, ?_, hE.1, hE.2.1, hE.2.2.1, hE.2.2.2.mono (by first | decide | omega) (by first | decide | omega)⟩
  · show Q_own_txi Z o x h0 n0 _ T30.heap _
    rw [e30]
    exact ⟨rfl, N30, KK2, (Fld.same W30 fa27)⟩
  · rw [hh]
    show CHr Z EL s.vm h0 T30.vm T30.heap
    rw [e30]
    exact CE
def Q_own_txt (Z : State) (o x : Addr) (h0 : Heap) (n0 : Nat) (v : Option Value) (h : Heap) (L : List Loc) : Prop := v = some (.ref x) ∧ Fr n0 L ∧ h = h0
theorem own_txt (l : Launch) (Z : State) (a0 : Array Value) (hw : oH a0 Z) (o x : Addr) (h0 : Heap) (n0 : Nat) (Z0 : n0 ≤ h0.size) (F : zF18 Z h0 o (.ref x)) :
    oC l yM12 (.code yM12 prog_21_method_5_code 1 (some (.object "java/lang/String"))) rM1 #[(.ref o)] Z h0 (Q_own_txt Z o x h0 n0) := by
  refine oO (plainFor_of_name own_pn6) hisR fun p e s m below meth c s₁ S0' Bd hS hx dB hml hown hnm hZ X0 e0 => ?_
  have N0 := Fr.nil n0
  have KK0 := Keep.refl h0 ([] : List Addr)
  have cc0 : oQ X0 S0' 0 #[sR o] [] := oE hS rfl
  have W := @own_w Z a0 hw
  have q := @dX _ _ c D_12 @dB
  have cc21 : oQ X0 S0' 1 #[sR o] [.ref o] := Steps.trans cc0 (by
    refine XS.aloadN X0.here hx rfl (q 0 rfl) rfl rfl ?_
    exact Steps.refl _)
  obtain ⟨T22, X22, e22, st22⟩ := oGF X0 cc21 hx hZ hown (W 80 rfl) Via.refl e0 F (q 1 rfl)
  have cc23 : oQ X22 S0' 4 #[sR o] [.ref x] := st22
  exact oRA X22 Bd cc23 (q 2 rfl) rfl (rfl) rfl e22 ⟨rfl, N0, rfl⟩
def Q_own_aci (Z : State) (a : Addr) (h0 : Heap) (n0 : Nat) (v : Option Value) (h : Heap) (L : List Loc) : Prop := v = none ∧ Fr n0 L ∧ h = h0
theorem own_aci (l : Launch) (Z : State) (a0 : Array Value) (hw : oH a0 Z) (a : Addr) (h0 : Heap) (n0 : Nat) (Z0 : n0 ≤ h0.size)  :
    oC l yM13 (.code yM13 jdk_22_method_1_code 1 none) rM0 #[(.ref a)] Z h0 (Q_own_aci Z a h0 n0) := by
  refine oO (plainFor_of_name own_pn7) hisR fun p e s m below meth c s₁ S0' Bd hS hx dB hml hown hnm hZ X0 e0 => ?_
  have N0 := Fr.nil n0
  have KK0 := Keep.refl h0 ([] : List Addr)
  have cc0 : oQ X0 S0' 0 #[sR a] [] := oE hS rfl
  have W := @own_w Z a0 hw
  have q := @dX _ _ c D_13 @dB
  have cc21 : oQ X0 S0' 1 #[sR a] [.ref a] := Steps.trans cc0 (by
    refine XS.aloadN X0.here hx rfl (q 0 rfl) rfl rfl ?_
    exact Steps.refl _)
  obtain ⟨T22, X22, e22, st22⟩ := initO X0 hx hZ hown (W 100 rfl) (W 16 rfl) (W 17 rfl) e0 (g := (mkF m 1 #[sR a] [.ref a])) rfl (by rw [hml]; rfl) rfl (q 1 rfl) (by decide) (W := 0) (by show 2 * 0 + _ ≤ _; exact Nat.le_of_eq rfl) (by decide)
  have cc23 : oQ X22 S0' 4 #[sR a] [] := (cc21.trans (st22 _ (Steps.refl _)))
  exact oRV X22 Bd cc23 (q 2 rfl) rfl e22 ⟨rfl, N0, rfl⟩
def Q_own_abi (Z : State) (a : Addr) (h0 : Heap) (n0 : Nat) (v : Option Value) (h : Heap) (L : List Loc) : Prop := v = none ∧ Fr n0 L ∧ Keep h0 h [a] ∧ zF2 Z h a (.int (0 : Int32)) ∧ zF0 Z h a (.int (0 : Int32)) ∧ zF1 Z h a .null
theorem own_abi (l : Launch) (Z : State) (a0 : Array Value) (hw : oH a0 Z) (a : Addr) (h0 : Heap) (n0 : Nat) (Z0 : n0 ≤ h0.size) (E : zE1 Z h0 a) (F1 : zF2 Z h0 a (.int (0 : Int32))) (F2 : zF0 Z h0 a (.int (0 : Int32))) (F3 : zF1 Z h0 a .null) (ga : n0 ≤ a) :
    oC l yM14 (.code yM14 jdk_39_method_1_code 1 none) rM6 #[(.ref a)] Z h0 (Q_own_abi Z a h0 n0) := by
  refine oO (plainFor_of_name own_pn8) hisR fun p e s m below meth c s₁ S0' Bd hS hx dB hml hown hnm hZ X0 e0 => ?_
  have N0 := Fr.nil n0
  have KK0 := Keep.refl h0 [a]
  have cc0 : oQ X0 S0' 0 #[sR a] [] := oE hS rfl
  have W := @own_w Z a0 hw
  have q := @dX _ _ c D_14 @dB
  have cc21 : oQ X0 S0' 1 #[sR a] [.ref a] := Steps.trans cc0 (by
    refine XS.aloadN X0.here hx rfl (q 0 rfl) rfl rfl ?_
    exact Steps.refl _)
  obtain ⟨_, T22, L22, X22, ⟨rfl, Nq22, eq22⟩, st22⟩ := oCN (y := yM13) X0 cc21 hx hZ hown hml (q 1 rfl) e0 a rfl (W 94 rfl) (W 95 rfl) (W 99 rfl) (by decide) [] [] (lenOf own_pd4 rfl) (bO (own_aci l Z a0 hw a h0 n0 Z0 ) hZ (W 99 rfl) (W 98 rfl))
  have N22 := Fr.app N0 Nq22
  have cc23 : oQ X22 S0' 6 #[sR a] [.int 0, .ref a] := Steps.trans st22 (by
    refine XS.aloadN X22.here hx rfl (q 2 rfl) rfl rfl ?_
    refine iconstV X22.here hx rfl 0 (q 3 rfl) (by decide) ?_
    exact Steps.refl _)
  obtain ⟨T24, h24, X24, e24, W24, st24⟩ := oPF X22 cc23 hx hZ hown (W 101 rfl) Via.refl eq22 F1 E (Or.inl (W 102 rfl)) (W 83 rfl) (ty := .int) (by decide) rfl rfl (q 4 rfl)
  have K24 := Keep.of_wr W24
  have N24 := Fr.snoc X24 N22 ga
  have KK1 := KK0.trans K24 (allS (Or.inl (lM 0 rfl)) all0)
  have Zs1 := Nat.le_trans Z0 K24.1
  have cc26 : oQ X24 S0' 9 #[sR a] [] := st24
  have fa25 := F2.other W24 (Or.inr (slot_ne (Or.inl (W 137 rfl)) (Or.inl (W 102 rfl)) (by decide) (t := .int) (t' := .int) (by decide) (by decide)))
  have fa27 := F3.other W24 (Or.inr (slot_ne (Or.inl (W 105 rfl)) (Or.inl (W 102 rfl)) (by decide) (t := (.array (.object "java/lang/Object"))) (t' := .int) (by decide) (by decide)))
  exact oRV X24 Bd cc26 (q 5 rfl) rfl e24 ⟨rfl, N24, KK1, (Fld.same W24 F1), fa25, fa27⟩
def Q_own_ali (Z : State) (a dd : Addr) (h0 : Heap) (n0 : Nat) (v : Option Value) (h : Heap) (L : List Loc) : Prop := v = none ∧ Fr n0 L ∧ Keep h0 h [a] ∧ zF2 Z h a (.int (0 : Int32)) ∧ zF0 Z h a (.int (0 : Int32)) ∧ zF1 Z h a (.ref dd)
theorem own_ali (l : Launch) (Z : State) (a0 : Array Value) (hw : oH a0 Z) (a dd : Addr) (h0 : Heap) (n0 : Nat) (Z0 : n0 ≤ h0.size) (X00 : Old Z n0 h0) (E : zE1 Z h0 a) (F1 : zF2 Z h0 a (.int (0 : Int32))) (F2 : zF0 Z h0 a (.int (0 : Int32))) (F3 : zF1 Z h0 a .null) (ga : n0 ≤ a) (OD : Sta Z Z.heap "java/util/ArrayList" "DEFAULTCAPACITY_EMPTY_ELEMENTDATA" "[Ljava/lang/Object;" (.ref dd)) :
    oC l yM15 (.code yM15 jdk_38_method_2_code 1 none) rM8 #[(.ref a)] Z h0 (Q_own_ali Z a dd h0 n0) := by
  refine oO (plainFor_of_name own_pn9) hisR fun p e s m below meth c s₁ S0' Bd hS hx dB hml hown hnm hZ X0 e0 => ?_
  have N0 := Fr.nil n0
  have KK0 := Keep.refl h0 [a]
  have cc0 : oQ X0 S0' 0 #[sR a] [] := oE hS rfl
  have W := @own_w Z a0 hw
  have q := @dX _ _ c D_15 @dB
  have cc21 : oQ X0 S0' 1 #[sR a] [.ref a] := Steps.trans cc0 (by
    refine XS.aloadN X0.here hx rfl (q 0 rfl) rfl rfl ?_
    exact Steps.refl _)
  obtain ⟨_, T22, L22, X22, ⟨rfl, Nq22, Kq22, G122, G222, G322⟩, st22⟩ := oCN (y := yM14) X0 cc21 hx hZ hown hml (q 1 rfl) e0 a rfl (W 88 rfl) (W 89 rfl) (W 93 rfl) (by decide) [] [] (lenOf own_pd4 rfl) (bO (own_abi l Z a0 hw a h0 n0 Z0 E F1 F2 F3 ga) hZ (W 93 rfl) (W 92 rfl))
  have N22 := Fr.app N0 Nq22
  have KK1 := KK0.trans Kq22 (allS (Or.inl (lM 0 rfl)) all0)
  have Zs1 := Nat.le_trans Z0 Kq22.1
  have e22 : T22.heap = T22.heap := rfl
  have cc24 : oQ X22 S0' 4 #[sR a] [] := st22
  have fa23 := E.keep Kq22
  have cc26 : oQ X22 S0' 5 #[sR a] [.ref a] := Steps.trans cc24 (by
    refine XS.aloadN X22.here hx rfl (q 2 rfl) rfl rfl ?_
    exact Steps.refl _)
  have fa25 := X00.keep Kq22 (allS ga all0)
  obtain ⟨T27, X27, e27, st27⟩ := oGS X22 cc26 hx hZ hown (host := "") (Or.inl (W 103 rfl)) Via.refl e22 (OD.ext fa25.2) (q 3 rfl)
  have cc28 : oQ X27 S0' 8 #[sR a] [.ref dd, .ref a] := st27
  obtain ⟨T29, h29, X29, e29, W29, st29⟩ := oPF X27 cc28 hx hZ hown (W 104 rfl) Via.refl e27 G322 fa23 (Or.inl (W 105 rfl)) (W 83 rfl) (ty := (.array (.object "java/lang/Object"))) (by decide) rfl rfl (q 4 rfl)
  have K29 := Keep.of_wr W29
  have N29 := Fr.snoc X29 N22 ga
  have KK2 := KK1.trans K29 (allS (Or.inl (lM 0 rfl)) all0)
  have Zs2 := Nat.le_trans Zs1 K29.1
  have cc31 : oQ X29 S0' 11 #[sR a] [] := st29
  have fa30 := G122.other W29 (Or.inr (slot_ne (Or.inl (W 102 rfl)) (Or.inl (W 105 rfl)) (by decide) (t := .int) (t' := (.array (.object "java/lang/Object"))) (by decide) (by decide)))
  have fa32 := G222.other W29 (Or.inr (slot_ne (Or.inl (W 137 rfl)) (Or.inl (W 105 rfl)) (by decide) (t := .int) (t' := (.array (.object "java/lang/Object"))) (by decide) (by decide)))
  exact oRV X29 Bd cc31 (q 5 rfl) rfl e29 ⟨rfl, N29, KK2, fa30, fa32, (Fld.same W29 G322)⟩
def Q_own_max (Z : State) (a b : Int32) (h0 : Heap) (n0 : Nat) (v : Option Value) (h : Heap) (L : List Loc) : Prop := v = some (.int a) ∧ Fr n0 L ∧ h = h0
theorem own_max (l : Launch) (Z : State) (a0 : Array Value) (hw : oH a0 Z) (a b : Int32) (h0 : Heap) (n0 : Nat) (Z0 : n0 ≤ h0.size) (h1 : ¬ a < b) :
    oC l yM16 (.code yM16 jdk_29_method_65_code 2 (some .int)) rM1 #[(.int a), (.int b)] Z h0 (Q_own_max Z a b h0 n0) := by
  refine oO (by decide +kernel) hisR fun p e s m below meth c s₁ S0' Bd hS hx dB hml hown hnm hZ X0 e0 => ?_
  have N0 := Fr.nil n0
  have KK0 := Keep.refl h0 ([] : List Addr)
  have cc0 : oQ X0 S0' 0 #[sI a, sI b] [] := oE hS rfl
  have W := @own_w Z a0 hw
  have q := @dX _ _ c D_16 @dB
  have cc21 : oQ X0 S0' 10 #[sI a, sI b] [.int a] := Steps.trans cc0 (by
    refine XS.iloadN X0.here hx rfl (q 0 rfl) rfl ?_
    refine XS.iloadN X0.here hx rfl (q 1 rfl) rfl ?_
    refine XS.icmpNo X0.here hx rfl (q 2 rfl) rfl (ii_lt_f h1) ?_
    refine XS.iloadN X0.here hx rfl (q 3 rfl) rfl ?_
    refine XS.goto X0.here hx rfl (pc0 := 6) rfl (q 4 rfl) (by decide) rfl ?_
    exact Steps.refl _)
  exact oRI X0 Bd cc21 (q 5 rfl) rfl (rfl) (by simp) e0 ⟨rfl, N0, rfl⟩
def Q_own_grow1 (Z : State) (a dd : Addr) (kd : ClassId) (mc : Int32) (h0 : Heap) (n0 : Nat) (v : Option Value) (h : Heap) (L : List Loc) : Prop := ∃ (t : Addr) (kt : ClassId), v = some (.ref t) ∧ Fr n0 L ∧ Keep h0 h [a] ∧ h0.size ≤ t ∧ zF2 Z h a (.int mc) ∧ zF0 Z h a (.int (0 : Int32)) ∧ zF1 Z h a (.ref t) ∧ zE0 Z h t ∧ Ovr Z kt "java/lang/Object" ∧ Arv Z h t kt (.object "java/lang/Object") (10 : Int32) [] .null
theorem own_grow1 (l : Launch) (Z : State) (a0 : Array Value) (hw : oH a0 Z) (a dd : Addr) (kd : ClassId) (mc : Int32) (h0 : Heap) (n0 : Nat) (Z0 : n0 ≤ h0.size) (X00 : Old Z n0 h0) (E : zE1 Z h0 a) (F1 : zF2 Z h0 a (.int mc)) (F2 : zF0 Z h0 a (.int (0 : Int32))) (F3 : zF1 Z h0 a (.ref dd)) (ga : n0 ≤ a) (OD : Sta Z Z.heap "java/util/ArrayList" "DEFAULTCAPACITY_EMPTY_ELEMENTDATA" "[Ljava/lang/Object;" (.ref dd)) (Ad : Arv Z h0 dd kd (.object "java/lang/Object") (0 : Int32) [] .null) :
    oC l yM17 (.code yM17 jdk_38_method_6_code 4 (some (.array (.object "java/lang/Object")))) rM9 #[(.ref a), (.int 1)] Z h0 (Q_own_grow1 Z a dd kd mc h0 n0) := by
  refine oO (plainFor_of_name own_pn9) hisR fun p e s m below meth c s₁ S0' Bd hS hx dB hml hown hnm hZ X0 e0 => ?_
  have N0 := Fr.nil n0
  have KK0 := Keep.refl h0 [a]
  have cc0 : oQ X0 S0' 0 #[sR a, sI 1, uN, uN] [] := oE hS rfl
  have W := @own_w Z a0 hw
  have q := @dX _ _ c D_17 @dB
  have cc21 : oQ X0 S0' 1 #[sR a, sI 1, uN, uN] [.ref a] := Steps.trans cc0 (by
    refine XS.aloadN X0.here hx rfl (q 0 rfl) rfl rfl ?_
    exact Steps.refl _)
  obtain ⟨T22, X22, e22, st22⟩ := oGF X0 cc21 hx hZ hown (W 104 rfl) Via.refl e0 F3 (q 1 rfl)
  have cc23 : oQ X22 S0' 4 #[sR a, sI 1, uN, uN] [.ref dd] := st22
  obtain ⟨clu24, Aru24, -, Su24, Ngu24, -, -⟩ := id Ad
  have cl_u24 := X22.arraylength hx (by rw [e22]; exact Aru24.1) (State.isArrayOf_alike (hZ).alike Aru24.2.1) (g := (mkF m 4 #[sR a, sI 1, uN, uN] [.ref dd])) rfl rfl (q 2 rfl) _ (Steps.refl _)
  rw [len_of Su24 Ngu24] at cl_u24
  have cc25 : oQ X22 S0' 11 #[sR a, sI 1, sI (0 : Int32), uN] [.ref a] := Steps.trans (Steps.trans cc23 cl_u24) (by
    refine XS.istoreN X22.here hx rfl (q 3 rfl) rfl rfl ?_
    refine XS.iloadN X22.here hx rfl (q 4 rfl) rfl ?_
    refine XS.ifNo X22.here hx rfl (q 5 rfl) rfl (i0_gt_f (by decide)) ?_
    refine XS.aloadN X22.here hx rfl (q 6 rfl) rfl rfl ?_
    exact Steps.refl _)
  obtain ⟨T26, X26, e26, st26⟩ := oGF X22 cc25 hx hZ hown (W 104 rfl) Via.refl e22 F3 (q 7 rfl)
  have cc27 : oQ X26 S0' 14 #[sR a, sI 1, sI (0 : Int32), uN] [.ref dd] := st26
  obtain ⟨T28, X28, e28, st28⟩ := oGS X26 cc27 hx hZ hown (host := "") (Or.inl (W 103 rfl)) Via.refl e26 (OD.ext X00.2) (q 8 rfl)
  have cc29 : oQ X28 S0' 49 #[sR a, sI 1, sI (0 : Int32), uN] [.int 1, .int 10, .ref a] := Steps.trans st28 (by
    refine XT.acmpYes X28.here hx rfl (pc0 := 17) rfl (q 9 rfl) rfl rfl rfl (aa_eq_t rfl) (by decide) rfl ?_
    refine XS.aloadN X28.here hx rfl (q 10 rfl) rfl rfl ?_
    refine bipushV X28.here hx rfl 10 (q 11 rfl) (by decide) ?_
    refine XS.iloadN X28.here hx rfl (q 12 rfl) rfl ?_
    exact Steps.refl _)
  obtain ⟨_, T30, L30, X30, ⟨rfl, Nq30, eq30⟩, st30⟩ := oCT (y := yM16) X28 cc29 hx hZ hown hml (q 13 rfl) e28 (W 327 rfl) (W 328 rfl) (W 260 rfl) (W 329 rfl) (by decide) [.int 10, .int 1] [.ref a] (lenOf own_pd6 rfl) (bO (own_max l Z a0 hw 10 1 h0 n0 Z0 (by decide)) hZ (W 329 rfl) (W 260 rfl))
  have N30 := Fr.app N0 Nq30
  have cc31 : oQ X30 S0' 52 #[sR a, sI 1, sI (0 : Int32), uN] [.int 10, .ref a] := st30
  obtain ⟨T32, h32, k32, X32, e32, E32, A32, Ex32, O32, st32⟩ := newRE X30 hx hZ hown (W 330 rfl) (W 331 rfl) eq30 (g := (mkF m 52 #[sR a, sI 1, sI (0 : Int32), uN] [.int 10, .ref a])) rfl (q 14 rfl) rfl (by decide) (cap := 10) (by decide) (by decide) (Nat.le_of_ble_eq_true rfl) (Nat.le_of_ble_eq_true rfl) (ad := "[Ljava/lang/Object;") (by decide)
  obtain ⟨t, g_t⟩ : ∃ z, z = h0.size := ⟨_, rfl⟩
  rw [← g_t] at A32 Ex32 st32
  have K32 := (Keep.refl h0 ([] : List Addr)).ext E32
  have b_t : h0.size ≤ t := (Nat.le_of_eq g_t.symm)
  have gn_t := Nat.le_trans Z0 b_t
  have s0_t := Nat.le_trans KK0.1 b_t
  have ne_a_t := oN E.lt b_t
  have ne_dd_t := oN Ad.lt b_t
  have KK1 := KK0.trans K32 all0
  have Zs1 := Nat.le_trans Z0 K32.1
  have cc34 : oQ X32 S0' 56 #[sR a, sI 1, sI (0 : Int32), uN] [.ref t, .ref a, .ref t] := Steps.trans (cc31.trans (st32 _ (Steps.refl _))) (by
    refine XT.dupX1 X32.here hx rfl (q 15 rfl) rfl rfl rfl ?_
    exact Steps.refl _)
  have fa33 := F3.keep K32 nin0
  have fa35 := E.keep K32
  obtain ⟨T36, h36, X36, e36, W36, st36⟩ := oPF X32 cc34 hx hZ hown (W 104 rfl) Via.refl e32 fa33 fa35 (Or.inl (W 105 rfl)) (W 83 rfl) (ty := (.array (.object "java/lang/Object"))) (by decide) rfl rfl (q 16 rfl)
  have K36 := Keep.of_wr W36
  have N36 := Fr.snoc X36 N30 ga
  have KK2 := KK1.trans K36 (allS (Or.inl (lM 0 rfl)) all0)
  have Zs2 := Nat.le_trans Zs1 K36.1
  have cc38 : oQ X36 S0' 59 #[sR a, sI 1, sI (0 : Int32), uN] [.ref t] := st36
  have fa37 := (F1.keep K32 nin0).other W36 (Or.inr (slot_ne (Or.inl (W 102 rfl)) (Or.inl (W 105 rfl)) (by decide) (t := .int) (t' := (.array (.object "java/lang/Object"))) (by decide) (by decide)))
  have fa39 := (F2.keep K32 nin0).other W36 (Or.inr (slot_ne (Or.inl (W 137 rfl)) (Or.inl (W 105 rfl)) (by decide) (t := .int) (t' := (.array (.object "java/lang/Object"))) (by decide) (by decide)))
  have fa40 := Ex32.keep K36
  have fa41 := (Arv.new A32 (by decide)).keep K36 (ninS (Ne.symm ne_a_t) nin0)
  exact oRA X36 Bd cc38 (q 17 rfl) rfl (rfl) rfl e36 ⟨t, _, rfl, N36, KK2, s0_t, fa37, fa39, (Fld.same W36 fa33), fa40, O32, fa41⟩
def Q_own_grow0 (Z : State) (a dd : Addr) (kd : ClassId) (mc : Int32) (h0 : Heap) (n0 : Nat) (v : Option Value) (h : Heap) (L : List Loc) : Prop := ∃ (t : Addr) (kt : ClassId), v = some (.ref t) ∧ Fr n0 L ∧ Keep h0 h [a] ∧ h0.size ≤ t ∧ zF2 Z h a (.int mc) ∧ zF0 Z h a (.int (0 : Int32)) ∧ zF1 Z h a (.ref t) ∧ zE0 Z h t ∧ Ovr Z kt "java/lang/Object" ∧ Arv Z h t kt (.object "java/lang/Object") (10 : Int32) [] .null
theorem own_grow0 (l : Launch) (Z : State) (a0 : Array Value) (hw : oH a0 Z) (a dd : Addr) (kd : ClassId) (mc : Int32) (h0 : Heap) (n0 : Nat) (Z0 : n0 ≤ h0.size) (X00 : Old Z n0 h0) (E : zE1 Z h0 a) (F1 : zF2 Z h0 a (.int mc)) (F2 : zF0 Z h0 a (.int (0 : Int32))) (F3 : zF1 Z h0 a (.ref dd)) (ga : n0 ≤ a) (OD : Sta Z Z.heap "java/util/ArrayList" "DEFAULTCAPACITY_EMPTY_ELEMENTDATA" "[Ljava/lang/Object;" (.ref dd)) (Ad : Arv Z h0 dd kd (.object "java/lang/Object") (0 : Int32) [] .null) :
    oC l yM18 (.code yM18 jdk_38_method_7_code 1 (some (.array (.object "java/lang/Object")))) rM10 #[(.ref a)] Z h0 (Q_own_grow0 Z a dd kd mc h0 n0) := by
  refine oO (plainFor_of_name own_pn9) hisR fun p e s m below meth c s₁ S0' Bd hS hx dB hml hown hnm hZ X0 e0 => ?_
  have N0 := Fr.nil n0
  have KK0 := Keep.refl h0 [a]
  have cc0 : oQ X0 S0' 0 #[sR a] [] := oE hS rfl
  have W := @own_w Z a0 hw
  have q := @dX _ _ c D_18 @dB
  have cc21 : oQ X0 S0' 2 #[sR a] [.ref a, .ref a] := Steps.trans cc0 (by
    refine XS.aloadN X0.here hx rfl (q 0 rfl) rfl rfl ?_
    refine XS.aloadN X0.here hx rfl (q 1 rfl) rfl rfl ?_
    exact Steps.refl _)
  obtain ⟨T22, X22, e22, st22⟩ := oGF X0 cc21 hx hZ hown (W 136 rfl) Via.refl e0 F2 (q 2 rfl)
  have cc23 : oQ X22 S0' 7 #[sR a] [.int ((0 : Int32) + (1 : Int32)), .ref a] := Steps.trans st22 (by
    refine iconstV X22.here hx rfl 1 (q 3 rfl) (by decide) ?_
    refine XS.iadd X22.here hx rfl (q 4 rfl) rfl ?_
    exact Steps.refl _)
  have cz24 : oQ X22 S0' 7 #[sR a] [.int 1, .ref a] := cc23
  obtain ⟨_, T25, L25, X25, ⟨t, kt, rfl, Nq25, Kq25, sq25, G125, G225, G325, Et25, Ot25, At25⟩, st25⟩ := oCP (y := yM17) X22 cz24 hx hZ hown hml (q 5 rfl) e22 E (W 322 rfl) (W 323 rfl) (mvT hZ (W 325 rfl)) (W 324 rfl) (W 326 rfl) (by decide) [.int 1] [] (lenOf own_pd7 rfl) (bO (own_grow1 l Z a0 hw a dd kd mc h0 n0 Z0 X00 E F1 F2 F3 ga OD Ad) hZ (W 326 rfl) (W 84 rfl))
  have N25 := Fr.app N0 Nq25
  have KK1 := KK0.trans Kq25 (allS (Or.inl (lM 0 rfl)) all0)
  have Zs1 := Nat.le_trans Z0 Kq25.1
  have e25 : T25.heap = T25.heap := rfl
  have cc26 : oQ X25 S0' 10 #[sR a] [.ref t] := st25
  exact oRA X25 Bd cc26 (q 6 rfl) rfl (rfl) rfl e25 ⟨t, kt, rfl, N25, KK1, sq25, G125, G225, G325, Et25, Ot25, At25⟩
theorem own_tswI {p : Program} {l : Launch} {e : Env} {R : Room} {s : State} {m : MethodId} {args : Array Value} {below : List Frame} {meth : Method} {c : Code} {T : State} {locs : List Loc} {cells slots : Nat} (X : Stand p l e R s m args below meth c T locs cells slots) (hx : p.tables.exec = Jvm.exec) {pc : Nat} {loc : Array Slot} {k : Int32} {rest : List Value} {d lo hi : Int} {offs : Array Int} {len : Nat} (hd : decode c.code pc = .ok (.tableswitch d lo hi offs, len)) (hin : ¬ (k.toInt < lo ∨ k.toInt > hi)) {off : Int} (ho : offs[(k.toInt - lo).toNat]? = some off) {pc' : Nat} (hp : (pc : Int) + off = pc') (target : State) (hr : Steps p.tables e below (T.setTop (mkF m pc' loc rest)) target) : Steps p.tables e below (T.setTop (mkF m pc loc (.int k :: rest))) target := by
  refine X.tableswitchIn hx (g := mkF m pc loc (.int k :: rest)) rfl rfl hd hin ho (by show 0 ≤ (pc : Int) + off; omega) target ?_
  have e1 : ((pc : Int) + off).toNat = pc' := by omega
  show Steps p.tables e below (T.setTop (mkF m ((pc : Int) + off).toNat loc rest)) target
  rw [e1]; exact hr
theorem own_tswO {p : Program} {l : Launch} {e : Env} {R : Room} {s : State} {m : MethodId} {args : Array Value} {below : List Frame} {meth : Method} {c : Code} {T : State} {locs : List Loc} {cells slots : Nat} (X : Stand p l e R s m args below meth c T locs cells slots) (hx : p.tables.exec = Jvm.exec) {pc : Nat} {loc : Array Slot} {k : Int32} {rest : List Value} {d lo hi : Int} {offs : Array Int} {len : Nat} (hd : decode c.code pc = .ok (.tableswitch d lo hi offs, len)) (hout : k.toInt < lo ∨ k.toInt > hi) {pc' : Nat} (hp : (pc : Int) + d = pc') (target : State) (hr : Steps p.tables e below (T.setTop (mkF m pc' loc rest)) target) : Steps p.tables e below (T.setTop (mkF m pc loc (.int k :: rest))) target := by
  refine X.tableswitchOut hx (g := mkF m pc loc (.int k :: rest)) rfl rfl hd hout (by show 0 ≤ (pc : Int) + d; omega) target ?_
  have e1 : ((pc : Int) + d).toNat = pc' := by omega
  show Steps p.tables e below (T.setTop (mkF m ((pc : Int) + d).toNat loc rest)) target
  rw [e1]; exact hr
/-- m is the Class object of the class C -/
def own_Mir (Z : State) (C : String) (m : Addr) : Prop := ∃ (c : ClassId) (k : Class), Z.vm.findClass C = some c ∧ Z.vm.classes[c]? = some k ∧ k.mirror = some m
theorem own_mir {Z s : State} {args : Array Value} {C : String} {m : Addr} (hZ : Z.Warmed39 s.vm) (M : own_Mir Z C m) : (Term.mirror C).eval args s none [] s = some (.ref m) := by
  obtain ⟨c, k, f1, f2, f3⟩ := M
  obtain ⟨k', q, ek⟩ := hZ.alike.2.2 _ _ f2
  have f1' : s.vm.findClass C = some c := by rw [hZ.alike.findClass]; exact f1
  have f3' : k'.mirror = some m := by rw [ek]; exact f3
  simp [Term.eval, f1', q, f3']
theorem own_gcls {p : Program} {l : Launch} {e : Env} {R : Room} {s : State} {m : MethodId} {args : Array Value} {below : List Frame} {meth : Method} {c : Code} {T : State} {locs : List Loc} {cells slots : Nat} {Z : State} {h : Heap} {a : Addr} (X : Stand p l e R s m args below meth c T locs cells slots) (hx : p.tables.exec = Jvm.exec) (hZ : Z.Warmed39 s.vm) {a0 : Array Value} {own C : String} {index : Nat} (hown : s.vm.findClass own = some m.cls)
    (w1 : (Jvm.Cond.methodLink own index ⟨"java/lang/Object", "getClass", "()Ljava/lang/Class;"⟩).before a0 Z = true) (w2 : (Jvm.Cond.sameMethod "java/lang/Object" "java/lang/Object" "getClass" "()Ljava/lang/Class;").before a0 Z = true) (w4 : (Jvm.Cond.selects C ⟨"java/lang/Object", "getClass", "()Ljava/lang/Class;"⟩ ⟨"java/lang/Object", "getClass", "()Ljava/lang/Class;"⟩).before a0 Z = true)
    (w5 : (Jvm.Cond.instanceMethod ⟨"java/lang/Object", "getClass", "()Ljava/lang/Class;"⟩).before a0 Z = true) (w6 : (Jvm.Cond.native ⟨"java/lang/Object", "getClass", "()Ljava/lang/Class;"⟩).before a0 Z = true) (eT : T.heap = h) (E : Exa Z h a C) {mr : Addr} (M : own_Mir Z C mr)
    {g : JFrame} (hg : g.method = m) (hsize : g.locals.size = c.maxLocals) {rest : List Value} (hs : g.stack = .ref a :: rest) (hd : decode c.code g.pc = .ok (.invokevirtual index, 3)) (hf : 1 ≤ R.frames) (hl : 2 * g.monitorRoom + (rest.map fun v => v.category).sum + 14 ≤ R.locals) :
    ∃ T', Stand p l e R s m args below meth c T' locs cells slots ∧ T'.heap = h ∧ ∀ target, Steps p.tables e below (T'.setTop { g with pc := g.pc + 3, stack := .ref mr :: rest }) target → Steps p.tables e below (T.setTop g) target := by
  obtain ⟨cell, k, e1, e2, e3, e4, -⟩ := E
  obtain ⟨vm', X', st⟩ := X.getClass hx hown (mvT hZ w1) (mvT hZ w2) (mvT hZ w6) (mvT hZ w5) (mvT hZ w4) (by rw [eT]; exact e1) (fun q h => by rw [h] at e4; cases e4) (by rw [hZ.alike.findClass]; exact e2) (own_mir hZ M) hg hsize hs hd hf hl
  exact ⟨_, X', eT, st⟩
theorem own_nsroot {Z : State} {a0 : Array Value} {O K : String} {n : Nat} (w : (Jvm.Cond.noSuperclass O).before a0 Z = true) (wk : (Jvm.Cond.instantiable K n).before a0 Z = true) (hn : O ≠ K) : NS Z O K := by
  obtain ⟨c, k, h1, h2, h3, -, -⟩ := Cond.noSuperclass_spec w
  obtain ⟨t, kt, g1, -⟩ := Cond.instantiable_spec wk
  have ne := ids_ne h1 g1 hn
  refine ⟨c, t, h1, g1, fun fuel => ?_⟩
  cases fuel with
  | zero => rfl
  | succ f => simp [Vm.isSubclassAux, ne, h2, h3]
theorem own_nsno {Z : State} {a0 : Array Value} {C S K : String} {n : Nat} (w : (Jvm.Cond.superclass C S).before a0 Z = true) (wk : (Jvm.Cond.instantiable K n).before a0 Z = true) (q : NS Z C K) (hn : C ≠ K) : ∃ c t, Z.vm.findClass C = some c ∧ Z.vm.findClass K = some t ∧ Z.vm.assignable c t = false := by
  obtain ⟨c, t, h0, g0, n3⟩ := q
  obtain ⟨p, k, kp, h1, h2, h3, h4, h5, -, h7⟩ := Cond.superclass_spec h0 w
  obtain ⟨t', kt, g1, g2, g3, g4, -, -⟩ := Cond.instantiable_spec wk
  cases g0.symm.trans g1
  have g7 : kt.isInterface = false := by cases hq : kt.isInterface <;> simp_all
  have ne := ids_ne h0 g0 hn
  refine ⟨c, t, h0, g0, ?_⟩
  show Z.vm.assignableAux (255 + 1) c t = false
  simp [Vm.assignableAux, ne, h2, g2, h5, g3, g7, Vm.isSubclass, n3]
theorem own_no12 {Z : State} {a0 : Array Value} (hw : ∀ d ∈ tables_1, d.before a0 Z = true) : ∃ c t, Z.vm.findClass "java/util/ArrayList" = some c ∧ Z.vm.findClass "java/util/ImmutableCollections$List12" = some t ∧ Z.vm.assignable c t = false := own_nsno (own_w hw 122 rfl) (own_w hw 462 rfl) (NS.step (own_w hw 122 rfl) (NS.step (own_w hw 123 rfl) (NS.step (own_w hw 124 rfl) (own_nsroot (own_w hw 125 rfl) (own_w hw 462 rfl) (by decide)) (by decide)) (by decide)) (by decide)) (by decide)
theorem own_noN {Z : State} {a0 : Array Value} (hw : ∀ d ∈ tables_1, d.before a0 Z = true) : ∃ c t, Z.vm.findClass "java/util/ArrayList" = some c ∧ Z.vm.findClass "java/util/ImmutableCollections$ListN" = some t ∧ Z.vm.assignable c t = false := own_nsno (own_w hw 122 rfl) (own_w hw 363 rfl) (NS.step (own_w hw 122 rfl) (NS.step (own_w hw 123 rfl) (NS.step (own_w hw 124 rfl) (own_nsroot (own_w hw 125 rfl) (own_w hw 363 rfl) (by decide)) (by decide)) (by decide)) (by decide)) (by decide)
theorem own_notx {Z : State} {a0 : Array Value} (hw : ∀ d ∈ tables_1, d.before a0 Z = true) : ∃ c t, Z.vm.findClass "com/example/ontology_over_tables/ontologyovertables/mapping/TriplesMap$TermMap$Column" = some c ∧ Z.vm.findClass "com/example/ontology_over_tables/ontologyovertables/mapping/TriplesMap$TermMap$Text" = some t ∧ Z.vm.assignable c t = false := own_nsno (own_w hw 455 rfl) (own_w hw 72 rfl) (NS.step (own_w hw 455 rfl) (NS.step (own_w hw 456 rfl) (own_nsroot (own_w hw 125 rfl) (own_w hw 72 rfl) (by decide)) (by decide)) (by decide)) (by decide)
/-- a Latin-1 String whose cells stand below m -/
def own_LM (Z : State) (h : Heap) (m : Nat) (x : Addr) (cs : List Int32) : Prop := own_Lat Z h x cs ∧ x < m ∧ ∀ t, zF13 Z h x (.ref t) → t < m
theorem own_fld_same {Z : State} {h : Heap} {a : Addr} {C n d : String} {v w : Value} (F : Fld Z h a C n d v) (G : Fld Z h a C n d w) : v = w := by
  obtain ⟨c1, _, _, _, _, h1, h2, -, -, -, -, h7⟩ := F
  obtain ⟨c2, _, _, _, _, g1, g2, -, -, -, -, g7⟩ := G
  cases h1.symm.trans g1; cases h2.symm.trans g2; exact Option.some.inj (h7.symm.trans g7)
theorem own_LM.of {Z : State} {h : Heap} {x : Addr} {cs : List Int32} (H : own_Lat Z h x cs) {m : Nat} (hm : h.size ≤ m) : own_LM Z h m x cs := by
  refine ⟨H, ?_, ?_⟩
  · exact Nat.lt_of_lt_of_le H.1.lt hm
  · intro t F
    obtain ⟨E, C, p, l, t', kb, V, A⟩ := H
    cases own_fld_same F V
    exact Nat.lt_of_lt_of_le A.lt hm
theorem own_nin {m x : Nat} {ws : List Addr} (hx : x < m) (q : ∀ w ∈ ws, m ≤ w) : x ∉ ws := fun h => absurd (q x h) (Nat.not_le.mpr hx)
theorem own_LM.up {Z : State} {h h' : Heap} {m : Nat} {x : Addr} {cs : List Int32} {ws : List Addr} (H : own_LM Z h m x cs) (K : Keep h h' ws) (q : ∀ w ∈ ws, m ≤ w) : own_LM Z h' m x cs := by
  obtain ⟨⟨E, C, p, l, t, kb, V, A⟩, h1, h2⟩ := H
  have h3 := h2 t V
  have V' := V.keep K (own_nin h1 q)
  refine ⟨⟨E.keep K, C.keep K (own_nin h1 q), p, l, t, kb, V', A.keep K (own_nin h3 q)⟩, h1, fun t' F => ?_⟩
  cases own_fld_same F V'
  exact h3
theorem own_LM.mono {Z : State} {h : Heap} {m m' : Nat} {x : Addr} {cs : List Int32} (H : own_LM Z h m x cs) (q : m ≤ m') : own_LM Z h m' x cs := ⟨H.1, Nat.lt_of_lt_of_le H.2.1 q, fun t F => Nat.lt_of_lt_of_le (H.2.2 t F) q⟩
/-- u is a part: a Column, or a Text of the chars o tells; it stands below m -/
def own_P (Z : State) (h : Heap) (m : Nat) (u : Addr) (o : Option (List Int32)) : Prop := u < m ∧ ((o = none ∧ Exa Z h u "com/example/ontology_over_tables/ontologyovertables/mapping/TriplesMap$TermMap$Column") ∨ ∃ (cs : List Int32) (x : Addr), o = some cs ∧ cs.length ≤ 2 ∧ Exa Z h u "com/example/ontology_over_tables/ontologyovertables/mapping/TriplesMap$TermMap$Text" ∧ zF18 Z h u (.ref x) ∧ own_LM Z h m x cs)
theorem own_P.up {Z : State} {h h' : Heap} {m : Nat} {u : Addr} {o : Option (List Int32)} {ws : List Addr} (H : own_P Z h m u o) (K : Keep h h' ws) (q : ∀ w ∈ ws, m ≤ w) : own_P Z h' m u o := by
  obtain ⟨h1, ⟨h2, E⟩ | ⟨cs, x, h2, h3, E, F, L⟩⟩ := H
  · exact ⟨h1, Or.inl ⟨h2, E.keep K⟩⟩
  · exact ⟨h1, Or.inr ⟨cs, x, h2, h3, E.keep K, F.keep K (own_nin h1 q), L.up K q⟩⟩
theorem own_P.ins {Z : State} {a0 : Array Value} (hw : ∀ d ∈ tables_1, d.before a0 Z = true) {h : Heap} {m : Nat} {u : Addr} {o : Option (List Int32)} (H : own_P Z h m u o) : Ins Z h u "java/lang/Object" true := by
  obtain ⟨h1, ⟨h2, E⟩ | ⟨cs, x, h2, h3, E, -, -⟩⟩ := H
  · exact Ins.of_exa E (own_w hw 453 rfl)
  · exact Ins.of_exa E (own_w hw 332 rfl)
def Q_own_add31 (Z : State) (a : Addr) (dd : Addr) (kd : ClassId) (mc : Int32) (mm : Nat) (u0 : Addr) (o0 : Option (List Int32)) (h0 : Heap) (n0 : Nat) (v : Option Value) (h : Heap) (L : List Loc) : Prop := ∃ (t : Addr) (kt : ClassId), v = none ∧ Fr n0 L ∧ Keep h0 h [a] ∧ h0.size ≤ t ∧ zF2 Z h a (.int mc) ∧ zF0 Z h a (.int (1 : Int32)) ∧ zF1 Z h a (.ref t) ∧ Ovr Z kt "java/lang/Object" ∧ zE0 Z h t ∧ Arv Z h t kt (.object "java/lang/Object") (10 : Int32) [(.ref u0)] .null
theorem own_add31 (l : Launch) (Z : State) (a0 : Array Value) (hw : oH a0 Z) (a : Addr) (dd : Addr) (kd : ClassId) (mc : Int32) (mm : Nat) (u0 : Addr) (o0 : Option (List Int32)) (h0 : Heap) (n0 : Nat) (Z0 : n0 ≤ h0.size) (X00 : Old Z n0 h0) (E : zE1 Z h0 a) (F1 : zF2 Z h0 a (.int mc)) (F2 : zF0 Z h0 a (.int (0 : Int32))) (F3 : zF1 Z h0 a (.ref dd)) (ga : n0 ≤ a) (OD : Sta Z Z.heap "java/util/ArrayList" "DEFAULTCAPACITY_EMPTY_ELEMENTDATA" "[Ljava/lang/Object;" (.ref dd)) (Ad : Arv Z h0 dd kd (.object "java/lang/Object") (0 : Int32) [] .null) (P0 : own_P Z h0 mm u0 o0) (hm : mm ≤ h0.size) (hma : mm ≤ a) :
    oC l yM19 (.code yM19 jdk_38_method_24_code 4 none) rM11 #[(.ref a), (.ref u0), (.ref dd), (.int 0)] Z h0 (Q_own_add31 Z a dd kd mc mm u0 o0 h0 n0) := by
  refine oO (plainFor_of_name own_pn9) hisR fun p e s m below meth c s₁ S0' Bd hS hx dB hml hown hnm hZ X0 e0 => ?_
  have N0 := Fr.nil n0
  have KK0 := Keep.refl h0 [a]
  have cc0 : oQ X0 S0' 0 #[sR a, sR u0, sR dd, sI 0] [] := oE hS rfl
  have W := @own_w Z a0 hw
  have q := @dX _ _ c D_19 @dB
  have cc21 : oQ X0 S0' 2 #[sR a, sR u0, sR dd, sI 0] [.ref dd, .int 0] := Steps.trans cc0 (by
    refine XS.iloadN X0.here hx rfl (q 0 rfl) rfl ?_
    refine XS.aloadN X0.here hx rfl (q 1 rfl) rfl rfl ?_
    exact Steps.refl _)
  obtain ⟨clu22, Aru22, -, Su22, Ngu22, -, -⟩ := id Ad
  have cl_u22 := X0.arraylength hx (by rw [e0]; exact Aru22.1) (State.isArrayOf_alike (hZ).alike Aru22.2.1) (g := (mkF m 2 #[sR a, sR u0, sR dd, sI 0] [.ref dd, .int 0])) rfl rfl (q 2 rfl) _ (Steps.refl _)
  rw [len_of Su22 Ngu22] at cl_u22
  have cc23 : oQ X0 S0' 7 #[sR a, sR u0, sR dd, sI 0] [.ref a] := Steps.trans (Steps.trans cc21 cl_u22) (by
    refine XS.icmpNo X0.here hx rfl (q 3 rfl) rfl (ii_ne_f (by decide)) ?_
    refine XS.aloadN X0.here hx rfl (q 4 rfl) rfl rfl ?_
    exact Steps.refl _)
  obtain ⟨_, T24, L24, X24, ⟨t, kt, rfl, Nq24, Kq24, sq24, G124, G224, G324, Et24, Ot24, At24⟩, st24⟩ := oCP (y := yM18) X0 cc23 hx hZ hown hml (q 5 rfl) e0 E (W 317 rfl) (W 318 rfl) (mvT hZ (W 320 rfl)) (W 319 rfl) (W 321 rfl) (by decide) [] [] (lenOf own_pd8 rfl) (bO (own_grow0 l Z a0 hw a dd kd mc h0 n0 Z0 X00 E F1 F2 F3 ga OD Ad) hZ (W 321 rfl) (W 84 rfl))
  have N24 := Fr.app N0 Nq24
  have b_t : h0.size ≤ t := sq24
  have gn_t := Nat.le_trans Z0 b_t
  have s0_t := Nat.le_trans KK0.1 b_t
  have ml_t := Nat.le_trans hm b_t
  have ne_a_t := oN E.lt b_t
  have ne_dd_t := oN Ad.lt b_t
  have KK1 := KK0.trans Kq24 (allS (Or.inl (lM 0 rfl)) all0)
  have Zs1 := Nat.le_trans Z0 Kq24.1
  have Ms1 := Nat.le_trans hm Kq24.1
  have e24 : T24.heap = T24.heap := rfl
  have cc26 : oQ X24 S0' 10 #[sR a, sR u0, sR dd, sI 0] [.ref t] := st24
  have fa25 := E.keep Kq24
  have At' : Arv Z T24.heap t kt (.object "java/lang/Object") (10 : Int32) [.null] .null := At24.pad (pad_rep [] .null 1)
  have cc28 : oQ X24 S0' 14 #[sR a, sR u0, sR t, sI 0] [.ref u0, .int 0, .ref t] := Steps.trans cc26 (by
    refine XS.astoreN X24.here hx rfl (q 6 rfl) rfl rfl rfl ?_
    refine XS.aloadN X24.here hx rfl (q 7 rfl) rfl rfl ?_
    refine XS.iloadN X24.here hx rfl (q 8 rfl) rfl ?_
    refine XS.aloadN X24.here hx rfl (q 9 rfl) rfl rfl ?_
    exact Steps.refl _)
  have fa27 := P0.up Kq24 (allS hma all0)
  obtain ⟨clu29, Aru29, qu29, Su29, Ngu29, Hsu29, Gsu29⟩ := id At'
  have inu29 : ¬ ((0 : Int32) < 0 ∨ clu29.slots.size ≤ (0 : Int32).toNatClampNeg) := inb_of Su29 ⟨by decide, by decide⟩
  obtain ⟨T30, h30, X30, e30, W30, st30⟩ := stR X24 hx hZ e24 Aru29 (j := (0 : Int32)) (v := (.ref u0)) inu29 rfl (Sto.ofV Aru29 qu29 Ot24 (own_P.ins hw fa27)) (g := (mkF m 14 #[sR a, sR u0, sR t, sI 0] [.ref u0, .int 0, .ref t])) rfl rfl (q 10 rfl)
  have K30 := Keep.of_wr W30
  have N30 := Fr.snoc X30 N24 gn_t
  have KK2 := KK1.trans K30 (allS (Or.inr s0_t) all0)
  have Zs2 := Nat.le_trans Zs1 K30.1
  have Ms2 := Nat.le_trans Ms1 K30.1
  have V30 : Arv Z h30 t kt (.object "java/lang/Object") (10 : Int32) ([(.ref u0)]) .null := Arv.set Aru29 qu29 Su29 Ngu29 Hsu29 Gsu29 rfl W30 0 rfl (Nat.le_of_ble_eq_true rfl)
  have cc31 : oQ X30 S0' 19 #[sR a, sR u0, sR t, sI 0] [.int ((0 : Int32) + (1 : Int32)), .ref a] := Steps.trans (cc28.trans (st30 _ (Steps.refl _))) (by
    refine XS.aloadN X30.here hx rfl (q 11 rfl) rfl rfl ?_
    refine XS.iloadN X30.here hx rfl (q 12 rfl) rfl ?_
    refine iconstV X30.here hx rfl 1 (q 13 rfl) (by decide) ?_
    refine XS.iadd X30.here hx rfl (q 14 rfl) rfl ?_
    exact Steps.refl _)
  have cz32 : oQ X30 S0' 19 #[sR a, sR u0, sR t, sI 0] [.int 1, .ref a] := cc31
  have fa33 := G224.keep K30 (ninS ne_a_t nin0)
  have fa34 := fa25.keep K30
  obtain ⟨T35, h35, X35, e35, W35, st35⟩ := oPF X30 cz32 hx hZ hown (W 136 rfl) Via.refl e30 fa33 fa34 (Or.inl (W 137 rfl)) (W 83 rfl) (ty := .int) (by decide) rfl rfl (q 15 rfl)
  have K35 := Keep.of_wr W35
  have N35 := Fr.snoc X35 N30 ga
  have KK3 := KK2.trans K35 (allS (Or.inl (lM 0 rfl)) all0)
  have Zs3 := Nat.le_trans Zs2 K35.1
  have Ms3 := Nat.le_trans Ms2 K35.1
  have cc37 : oQ X35 S0' 22 #[sR a, sR u0, sR t, sI 0] [] := st35
  have fa36 := (G124.keep K30 (ninS ne_a_t nin0)).other W35 (Or.inr (slot_ne (Or.inl (W 102 rfl)) (Or.inl (W 137 rfl)) (by decide) (t := .int) (t' := .int) (by decide) (by decide)))
  have fa38 := (G324.keep K30 (ninS ne_a_t nin0)).other W35 (Or.inr (slot_ne (Or.inl (W 105 rfl)) (Or.inl (W 137 rfl)) (by decide) (t := (.array (.object "java/lang/Object"))) (t' := .int) (by decide) (by decide)))
  have fa39 := (Et24.keep K30).keep K35
  have fa40 := V30.keep K35 (ninS (Ne.symm ne_a_t) nin0)
  exact oRV X35 Bd cc37 (q 16 rfl) rfl e35 ⟨t, kt, rfl, N35, KK3, s0_t, fa36, (Fld.same W35 fa33), fa38, Ot24, fa39, fa40⟩
def Q_own_add1 (Z : State) (a : Addr) (dd : Addr) (kd : ClassId) (mc : Int32) (mm : Nat) (u0 : Addr) (o0 : Option (List Int32)) (h0 : Heap) (n0 : Nat) (v : Option Value) (h : Heap) (L : List Loc) : Prop := ∃ (t : Addr) (kt : ClassId), v = some (.int 1) ∧ Fr n0 L ∧ Keep h0 h [a] ∧ h0.size ≤ t ∧ zF2 Z h a (.int (mc + 1)) ∧ zF0 Z h a (.int (1 : Int32)) ∧ zF1 Z h a (.ref t) ∧ Ovr Z kt "java/lang/Object" ∧ zE0 Z h t ∧ Arv Z h t kt (.object "java/lang/Object") (10 : Int32) [(.ref u0)] .null
theorem own_add1 (l : Launch) (Z : State) (a0 : Array Value) (hw : oH a0 Z) (a : Addr) (dd : Addr) (kd : ClassId) (mc : Int32) (mm : Nat) (u0 : Addr) (o0 : Option (List Int32)) (h0 : Heap) (n0 : Nat) (Z0 : n0 ≤ h0.size) (X00 : Old Z n0 h0) (E : zE1 Z h0 a) (F1 : zF2 Z h0 a (.int mc)) (F2 : zF0 Z h0 a (.int (0 : Int32))) (F3 : zF1 Z h0 a (.ref dd)) (ga : n0 ≤ a) (OD : Sta Z Z.heap "java/util/ArrayList" "DEFAULTCAPACITY_EMPTY_ELEMENTDATA" "[Ljava/lang/Object;" (.ref dd)) (Ad : Arv Z h0 dd kd (.object "java/lang/Object") (0 : Int32) [] .null) (P0 : own_P Z h0 mm u0 o0) (hm : mm ≤ h0.size) (hma : mm ≤ a) (ne_a_dd : a ≠ dd) :
    oC l yM20 (.code yM20 jdk_38_method_25_code 2 (some .boolean)) rM12 #[(.ref a), (.ref u0)] Z h0 (Q_own_add1 Z a dd kd mc mm u0 o0 h0 n0) := by
  refine oO (plainFor_of_name own_pn9) hisR fun p e s m below meth c s₁ S0' Bd hS hx dB hml hown hnm hZ X0 e0 => ?_
  have N0 := Fr.nil n0
  have KK0 := Keep.refl h0 [a]
  have cc0 : oQ X0 S0' 0 #[sR a, sR u0] [] := oE hS rfl
  have W := @own_w Z a0 hw
  have q := @dX _ _ c D_20 @dB
  have cc21 : oQ X0 S0' 2 #[sR a, sR u0] [.ref a, .ref a] := Steps.trans cc0 (by
    refine XS.aloadN X0.here hx rfl (q 0 rfl) rfl rfl ?_
    refine XS.dup X0.here hx rfl (q 1 rfl) rfl rfl ?_
    exact Steps.refl _)
  obtain ⟨T22, X22, e22, st22⟩ := oGF X0 cc21 hx hZ hown (W 310 rfl) (Via.of (W 311 rfl)) e0 F1 (q 2 rfl)
  have cc23 : oQ X22 S0' 7 #[sR a, sR u0] [.int (mc + (1 : Int32)), .ref a] := Steps.trans st22 (by
    refine iconstV X22.here hx rfl 1 (q 3 rfl) (by decide) ?_
    refine XS.iadd X22.here hx rfl (q 4 rfl) rfl ?_
    exact Steps.refl _)
  obtain ⟨T24, h24, X24, e24, W24, st24⟩ := oPF X22 cc23 hx hZ hown (W 310 rfl) (Via.of (W 311 rfl)) e22 F1 E (Or.inl (W 102 rfl)) (W 83 rfl) (ty := .int) (by decide) rfl rfl (q 5 rfl)
  have K24 := Keep.of_wr W24
  have N24 := Fr.snoc X24 N0 ga
  have KK1 := KK0.trans K24 (allS (Or.inl (lM 0 rfl)) all0)
  have Zs1 := Nat.le_trans Z0 K24.1
  have Ms1 := Nat.le_trans hm K24.1
  have cc26 : oQ X24 S0' 13 #[sR a, sR u0] [.ref a, .ref u0, .ref a] := Steps.trans st24 (by
    refine XS.aloadN X24.here hx rfl (q 6 rfl) rfl rfl ?_
    refine XS.aloadN X24.here hx rfl (q 7 rfl) rfl rfl ?_
    refine XS.aloadN X24.here hx rfl (q 8 rfl) rfl rfl ?_
    exact Steps.refl _)
  have fa25 := F3.other W24 (Or.inr (slot_ne (Or.inl (W 105 rfl)) (Or.inl (W 102 rfl)) (by decide) (t := (.array (.object "java/lang/Object"))) (t' := .int) (by decide) (by decide)))
  obtain ⟨T27, X27, e27, st27⟩ := oGF X24 cc26 hx hZ hown (W 104 rfl) Via.refl e24 fa25 (q 9 rfl)
  have cc29 : oQ X27 S0' 17 #[sR a, sR u0] [.ref a, .ref dd, .ref u0, .ref a] := Steps.trans st27 (by
    refine XS.aloadN X27.here hx rfl (q 10 rfl) rfl rfl ?_
    exact Steps.refl _)
  have fa28 := F2.other W24 (Or.inr (slot_ne (Or.inl (W 137 rfl)) (Or.inl (W 102 rfl)) (by decide) (t := .int) (t' := .int) (by decide) (by decide)))
  obtain ⟨T30, X30, e30, st30⟩ := oGF X27 cc29 hx hZ hown (W 136 rfl) Via.refl e27 fa28 (q 11 rfl)
  have cc32 : oQ X30 S0' 20 #[sR a, sR u0] [.int (0 : Int32), .ref dd, .ref u0, .ref a] := st30
  have fa31 := X00.keep K24 (allS ga all0)
  have fa33 := E.keep K24
  have fa34 := Ad.keep K24 (ninS (Ne.symm ne_a_dd) nin0)
  have fa35 := P0.up K24 (allS hma all0)
  obtain ⟨_, T36, L36, X36, ⟨t, kt, rfl, Nq36, Kq36, sq36, G136, G236, G336, Ot36, Et36, At36⟩, st36⟩ := oCP (y := yM19) X30 cc32 hx hZ hown hml (q 12 rfl) e30 fa33 (W 312 rfl) (W 313 rfl) (mvT hZ (W 315 rfl)) (W 314 rfl) (W 316 rfl) (by decide) [.ref u0, .ref dd, .int (0 : Int32)] [] (lenOf own_pd9 rfl) (bO (own_add31 l Z a0 hw a dd kd (mc + 1) mm u0 o0 h24 n0 Zs1 fa31 fa33 (Fld.same W24 F1) fa28 fa25 ga OD fa34 fa35 Ms1 hma) hZ (W 316 rfl) (W 84 rfl))
  have N36 := Fr.app N24 Nq36
  have b_t : h24.size ≤ t := sq36
  have gn_t := Nat.le_trans Zs1 b_t
  have s0_t := Nat.le_trans KK1.1 b_t
  have ml_t := Nat.le_trans Ms1 b_t
  have ne_a_t := oN fa33.lt b_t
  have ne_dd_t := oN fa34.lt b_t
  have KK2 := KK1.trans Kq36 (allS (Or.inl (lM 0 rfl)) all0)
  have Zs2 := Nat.le_trans Zs1 Kq36.1
  have Ms2 := Nat.le_trans Ms1 Kq36.1
  have e36 : T36.heap = T36.heap := rfl
  have cc37 : oQ X36 S0' 24 #[sR a, sR u0] [.int 1] := Steps.trans st36 (by
    refine iconstV X36.here hx rfl 1 (q 13 rfl) (by decide) ?_
    exact Steps.refl _)
  exact oRI X36 Bd cc37 (q 14 rfl) rfl (rfl) (by simp) e36 ⟨t, kt, rfl, N36, KK2, s0_t, G136, G236, G336, Ot36, Et36, At36⟩
def Q_own_add32 (Z : State) (a t : Addr) (kt : ClassId) (mc : Int32) (mm : Nat) (u0 : Addr) (o0 : Option (List Int32)) (u1 : Addr) (o1 : Option (List Int32)) (h0 : Heap) (n0 : Nat) (v : Option Value) (h : Heap) (L : List Loc) : Prop := v = none ∧ Fr n0 L ∧ Keep h0 h [a, t] ∧ zF2 Z h a (.int mc) ∧ zF0 Z h a (.int (2 : Int32)) ∧ zF1 Z h a (.ref t) ∧ zE0 Z h t ∧ Arv Z h t kt (.object "java/lang/Object") (10 : Int32) [(.ref u0), (.ref u1)] .null
theorem own_add32 (l : Launch) (Z : State) (a0 : Array Value) (hw : oH a0 Z) (a t : Addr) (kt : ClassId) (mc : Int32) (mm : Nat) (u0 : Addr) (o0 : Option (List Int32)) (u1 : Addr) (o1 : Option (List Int32)) (h0 : Heap) (n0 : Nat) (Z0 : n0 ≤ h0.size) (E : zE1 Z h0 a) (F1 : zF2 Z h0 a (.int mc)) (F2 : zF0 Z h0 a (.int (1 : Int32))) (F3 : zF1 Z h0 a (.ref t)) (ga : n0 ≤ a) (Et : zE0 Z h0 t) (At : Arv Z h0 t kt (.object "java/lang/Object") (10 : Int32) [(.ref u0)] .null) (Ot : Ovr Z kt "java/lang/Object") (gt : n0 ≤ t) (ne_a_t : a ≠ t) (P1 : own_P Z h0 mm u1 o1) (hm : mm ≤ h0.size) (hma : mm ≤ a) (hmt : mm ≤ t) :
    oC l yM19 (.code yM19 jdk_38_method_24_code 4 none) rM1 #[(.ref a), (.ref u1), (.ref t), (.int 1)] Z h0 (Q_own_add32 Z a t kt mc mm u0 o0 u1 o1 h0 n0) := by
  refine oO (plainFor_of_name own_pn9) hisR fun p e s m below meth c s₁ S0' Bd hS hx dB hml hown hnm hZ X0 e0 => ?_
  have N0 := Fr.nil n0
  have KK0 := Keep.refl h0 [a, t]
  have cc0 : oQ X0 S0' 0 #[sR a, sR u1, sR t, sI 1] [] := oE hS rfl
  have W := @own_w Z a0 hw
  have q := @dX _ _ c D_19 @dB
  have At' : Arv Z h0 t kt (.object "java/lang/Object") (10 : Int32) [(.ref u0), .null] .null := At.pad (pad_rep [(.ref u0)] .null 1)
  have cc21 : oQ X0 S0' 2 #[sR a, sR u1, sR t, sI 1] [.ref t, .int 1] := Steps.trans cc0 (by
    refine XS.iloadN X0.here hx rfl (q 0 rfl) rfl ?_
    refine XS.aloadN X0.here hx rfl (q 1 rfl) rfl rfl ?_
    exact Steps.refl _)
  obtain ⟨clu22, Aru22, -, Su22, Ngu22, -, -⟩ := id At'
  have cl_u22 := X0.arraylength hx (by rw [e0]; exact Aru22.1) (State.isArrayOf_alike (hZ).alike Aru22.2.1) (g := (mkF m 2 #[sR a, sR u1, sR t, sI 1] [.ref t, .int 1])) rfl rfl (q 2 rfl) _ (Steps.refl _)
  rw [len_of Su22 Ngu22] at cl_u22
  have cc23 : oQ X0 S0' 14 #[sR a, sR u1, sR t, sI 1] [.ref u1, .int 1, .ref t] := Steps.trans (Steps.trans cc21 cl_u22) (by
    refine XS.icmpYes X0.here hx rfl (pc0 := 3) rfl (q 3 rfl) rfl (ii_ne_t (by decide)) (by decide) rfl ?_
    refine XS.aloadN X0.here hx rfl (q 7 rfl) rfl rfl ?_
    refine XS.iloadN X0.here hx rfl (q 8 rfl) rfl ?_
    refine XS.aloadN X0.here hx rfl (q 9 rfl) rfl rfl ?_
    exact Steps.refl _)
  obtain ⟨clu24, Aru24, qu24, Su24, Ngu24, Hsu24, Gsu24⟩ := id At'
  have inu24 : ¬ ((1 : Int32) < 0 ∨ clu24.slots.size ≤ (1 : Int32).toNatClampNeg) := inb_of Su24 ⟨by decide, by decide⟩
  obtain ⟨T25, h25, X25, e25, W25, st25⟩ := stR X0 hx hZ e0 Aru24 (j := (1 : Int32)) (v := (.ref u1)) inu24 rfl (Sto.ofV Aru24 qu24 Ot (own_P.ins hw P1)) (g := (mkF m 14 #[sR a, sR u1, sR t, sI 1] [.ref u1, .int 1, .ref t])) rfl rfl (q 10 rfl)
  have K25 := Keep.of_wr W25
  have N25 := Fr.snoc X25 N0 gt
  have KK1 := KK0.trans K25 (allS (Or.inl (lM 1 rfl)) all0)
  have Zs1 := Nat.le_trans Z0 K25.1
  have Ms1 := Nat.le_trans hm K25.1
  have V25 : Arv Z h25 t kt (.object "java/lang/Object") (10 : Int32) ([(.ref u0), (.ref u1)]) .null := Arv.set Aru24 qu24 Su24 Ngu24 Hsu24 Gsu24 rfl W25 1 rfl (Nat.le_of_ble_eq_true rfl)
  have cc26 : oQ X25 S0' 19 #[sR a, sR u1, sR t, sI 1] [.int ((1 : Int32) + (1 : Int32)), .ref a] := Steps.trans (cc23.trans (st25 _ (Steps.refl _))) (by
    refine XS.aloadN X25.here hx rfl (q 11 rfl) rfl rfl ?_
    refine XS.iloadN X25.here hx rfl (q 12 rfl) rfl ?_
    refine iconstV X25.here hx rfl 1 (q 13 rfl) (by decide) ?_
    refine XS.iadd X25.here hx rfl (q 14 rfl) rfl ?_
    exact Steps.refl _)
  have cz27 : oQ X25 S0' 19 #[sR a, sR u1, sR t, sI 1] [.int 2, .ref a] := cc26
  have fa28 := F2.keep K25 (ninS ne_a_t nin0)
  have fa29 := E.keep K25
  obtain ⟨T30, h30, X30, e30, W30, st30⟩ := oPF X25 cz27 hx hZ hown (W 136 rfl) Via.refl e25 fa28 fa29 (Or.inl (W 137 rfl)) (W 83 rfl) (ty := .int) (by decide) rfl rfl (q 15 rfl)
  have K30 := Keep.of_wr W30
  have N30 := Fr.snoc X30 N25 ga
  have KK2 := KK1.trans K30 (allS (Or.inl (lM 0 rfl)) all0)
  have Zs2 := Nat.le_trans Zs1 K30.1
  have Ms2 := Nat.le_trans Ms1 K30.1
  have cc32 : oQ X30 S0' 22 #[sR a, sR u1, sR t, sI 1] [] := st30
  have fa31 := (F1.keep K25 (ninS ne_a_t nin0)).other W30 (Or.inr (slot_ne (Or.inl (W 102 rfl)) (Or.inl (W 137 rfl)) (by decide) (t := .int) (t' := .int) (by decide) (by decide)))
  have fa33 := (F3.keep K25 (ninS ne_a_t nin0)).other W30 (Or.inr (slot_ne (Or.inl (W 105 rfl)) (Or.inl (W 137 rfl)) (by decide) (t := (.array (.object "java/lang/Object"))) (t' := .int) (by decide) (by decide)))
  have fa34 := (Et.keep K25).keep K30
  have fa35 := V25.keep K30 (ninS (Ne.symm ne_a_t) nin0)
  exact oRV X30 Bd cc32 (q 16 rfl) rfl e30 ⟨rfl, N30, KK2, fa31, (Fld.same W30 fa28), fa33, fa34, fa35⟩
def Q_own_add2 (Z : State) (a t : Addr) (kt : ClassId) (mc : Int32) (mm : Nat) (u0 : Addr) (o0 : Option (List Int32)) (u1 : Addr) (o1 : Option (List Int32)) (h0 : Heap) (n0 : Nat) (v : Option Value) (h : Heap) (L : List Loc) : Prop := v = some (.int 1) ∧ Fr n0 L ∧ Keep h0 h [a, t] ∧ zF2 Z h a (.int (mc + 1)) ∧ zF0 Z h a (.int (2 : Int32)) ∧ zF1 Z h a (.ref t) ∧ zE0 Z h t ∧ Arv Z h t kt (.object "java/lang/Object") (10 : Int32) [(.ref u0), (.ref u1)] .null
theorem own_add2 (l : Launch) (Z : State) (a0 : Array Value) (hw : oH a0 Z) (a t : Addr) (kt : ClassId) (mc : Int32) (mm : Nat) (u0 : Addr) (o0 : Option (List Int32)) (u1 : Addr) (o1 : Option (List Int32)) (h0 : Heap) (n0 : Nat) (Z0 : n0 ≤ h0.size) (E : zE1 Z h0 a) (F1 : zF2 Z h0 a (.int mc)) (F2 : zF0 Z h0 a (.int (1 : Int32))) (F3 : zF1 Z h0 a (.ref t)) (ga : n0 ≤ a) (Et : zE0 Z h0 t) (At : Arv Z h0 t kt (.object "java/lang/Object") (10 : Int32) [(.ref u0)] .null) (Ot : Ovr Z kt "java/lang/Object") (gt : n0 ≤ t) (ne_a_t : a ≠ t) (P1 : own_P Z h0 mm u1 o1) (hm : mm ≤ h0.size) (hma : mm ≤ a) (hmt : mm ≤ t) :
    oC l yM20 (.code yM20 jdk_38_method_25_code 2 (some .boolean)) rM13 #[(.ref a), (.ref u1)] Z h0 (Q_own_add2 Z a t kt mc mm u0 o0 u1 o1 h0 n0) := by
  refine oO (plainFor_of_name own_pn9) hisR fun p e s m below meth c s₁ S0' Bd hS hx dB hml hown hnm hZ X0 e0 => ?_
  have N0 := Fr.nil n0
  have KK0 := Keep.refl h0 [a, t]
  have cc0 : oQ X0 S0' 0 #[sR a, sR u1] [] := oE hS rfl
  have W := @own_w Z a0 hw
  have q := @dX _ _ c D_20 @dB
  have cc21 : oQ X0 S0' 2 #[sR a, sR u1] [.ref a, .ref a] := Steps.trans cc0 (by
    refine XS.aloadN X0.here hx rfl (q 0 rfl) rfl rfl ?_
    refine XS.dup X0.here hx rfl (q 1 rfl) rfl rfl ?_
    exact Steps.refl _)
  obtain ⟨T22, X22, e22, st22⟩ := oGF X0 cc21 hx hZ hown (W 310 rfl) (Via.of (W 311 rfl)) e0 F1 (q 2 rfl)
  have cc23 : oQ X22 S0' 7 #[sR a, sR u1] [.int (mc + (1 : Int32)), .ref a] := Steps.trans st22 (by
    refine iconstV X22.here hx rfl 1 (q 3 rfl) (by decide) ?_
    refine XS.iadd X22.here hx rfl (q 4 rfl) rfl ?_
    exact Steps.refl _)
  obtain ⟨T24, h24, X24, e24, W24, st24⟩ := oPF X22 cc23 hx hZ hown (W 310 rfl) (Via.of (W 311 rfl)) e22 F1 E (Or.inl (W 102 rfl)) (W 83 rfl) (ty := .int) (by decide) rfl rfl (q 5 rfl)
  have K24 := Keep.of_wr W24
  have N24 := Fr.snoc X24 N0 ga
  have KK1 := KK0.trans K24 (allS (Or.inl (lM 0 rfl)) all0)
  have Zs1 := Nat.le_trans Z0 K24.1
  have Ms1 := Nat.le_trans hm K24.1
  have cc26 : oQ X24 S0' 13 #[sR a, sR u1] [.ref a, .ref u1, .ref a] := Steps.trans st24 (by
    refine XS.aloadN X24.here hx rfl (q 6 rfl) rfl rfl ?_
    refine XS.aloadN X24.here hx rfl (q 7 rfl) rfl rfl ?_
    refine XS.aloadN X24.here hx rfl (q 8 rfl) rfl rfl ?_
    exact Steps.refl _)
  have fa25 := F3.other W24 (Or.inr (slot_ne (Or.inl (W 105 rfl)) (Or.inl (W 102 rfl)) (by decide) (t := (.array (.object "java/lang/Object"))) (t' := .int) (by decide) (by decide)))
  obtain ⟨T27, X27, e27, st27⟩ := oGF X24 cc26 hx hZ hown (W 104 rfl) Via.refl e24 fa25 (q 9 rfl)
  have cc29 : oQ X27 S0' 17 #[sR a, sR u1] [.ref a, .ref t, .ref u1, .ref a] := Steps.trans st27 (by
    refine XS.aloadN X27.here hx rfl (q 10 rfl) rfl rfl ?_
    exact Steps.refl _)
  have fa28 := F2.other W24 (Or.inr (slot_ne (Or.inl (W 137 rfl)) (Or.inl (W 102 rfl)) (by decide) (t := .int) (t' := .int) (by decide) (by decide)))
  obtain ⟨T30, X30, e30, st30⟩ := oGF X27 cc29 hx hZ hown (W 136 rfl) Via.refl e27 fa28 (q 11 rfl)
  have cc32 : oQ X30 S0' 20 #[sR a, sR u1] [.int (1 : Int32), .ref t, .ref u1, .ref a] := st30
  have fa31 := E.keep K24
  have fa33 := Et.keep K24
  have fa34 := At.keep K24 (ninS (Ne.symm ne_a_t) nin0)
  have fa35 := P1.up K24 (allS hma all0)
  obtain ⟨_, T36, L36, X36, ⟨rfl, Nq36, Kq36, G136, G236, G336, Et36, At36⟩, st36⟩ := oCP (y := yM19) X30 cc32 hx hZ hown hml (q 12 rfl) e30 fa31 (W 312 rfl) (W 313 rfl) (mvT hZ (W 315 rfl)) (W 314 rfl) (W 316 rfl) (by decide) [.ref u1, .ref t, .int (1 : Int32)] [] (lenOf own_pd9 rfl) (bO (own_add32 l Z a0 hw a t kt (mc + 1) mm u0 o0 u1 o1 h24 n0 Zs1 fa31 (Fld.same W24 F1) fa28 fa25 ga fa33 fa34 Ot gt ne_a_t fa35 Ms1 hma hmt) hZ (W 316 rfl) (W 84 rfl))
  have N36 := Fr.app N24 Nq36
  have KK2 := KK1.trans Kq36 (allS (Or.inl (lM 0 rfl)) (allS (Or.inl (lM 1 rfl)) all0))
  have Zs2 := Nat.le_trans Zs1 Kq36.1
  have Ms2 := Nat.le_trans Ms1 Kq36.1
  have e36 : T36.heap = T36.heap := rfl
  have cc37 : oQ X36 S0' 24 #[sR a, sR u1] [.int 1] := Steps.trans st36 (by
    refine iconstV X36.here hx rfl 1 (q 13 rfl) (by decide) ?_
    exact Steps.refl _)
  exact oRI X36 Bd cc37 (q 14 rfl) rfl (rfl) (by simp) e36 ⟨rfl, N36, KK2, G136, G236, G336, Et36, At36⟩
def Q_own_add33 (Z : State) (a t : Addr) (kt : ClassId) (mc : Int32) (mm : Nat) (u0 : Addr) (o0 : Option (List Int32)) (u1 : Addr) (o1 : Option (List Int32)) (u2 : Addr) (o2 : Option (List Int32)) (h0 : Heap) (n0 : Nat) (v : Option Value) (h : Heap) (L : List Loc) : Prop := v = none ∧ Fr n0 L ∧ Keep h0 h [a, t] ∧ zF2 Z h a (.int mc) ∧ zF0 Z h a (.int (3 : Int32)) ∧ zF1 Z h a (.ref t) ∧ zE0 Z h t ∧ Arv Z h t kt (.object "java/lang/Object") (10 : Int32) [(.ref u0), (.ref u1), (.ref u2)] .null
theorem own_add33 (l : Launch) (Z : State) (a0 : Array Value) (hw : oH a0 Z) (a t : Addr) (kt : ClassId) (mc : Int32) (mm : Nat) (u0 : Addr) (o0 : Option (List Int32)) (u1 : Addr) (o1 : Option (List Int32)) (u2 : Addr) (o2 : Option (List Int32)) (h0 : Heap) (n0 : Nat) (Z0 : n0 ≤ h0.size) (E : zE1 Z h0 a) (F1 : zF2 Z h0 a (.int mc)) (F2 : zF0 Z h0 a (.int (2 : Int32))) (F3 : zF1 Z h0 a (.ref t)) (ga : n0 ≤ a) (Et : zE0 Z h0 t) (At : Arv Z h0 t kt (.object "java/lang/Object") (10 : Int32) [(.ref u0), (.ref u1)] .null) (Ot : Ovr Z kt "java/lang/Object") (gt : n0 ≤ t) (ne_a_t : a ≠ t) (P2 : own_P Z h0 mm u2 o2) (hm : mm ≤ h0.size) (hma : mm ≤ a) (hmt : mm ≤ t) :
    oC l yM19 (.code yM19 jdk_38_method_24_code 4 none) rM1 #[(.ref a), (.ref u2), (.ref t), (.int 2)] Z h0 (Q_own_add33 Z a t kt mc mm u0 o0 u1 o1 u2 o2 h0 n0) := by
  refine oO (plainFor_of_name own_pn9) hisR fun p e s m below meth c s₁ S0' Bd hS hx dB hml hown hnm hZ X0 e0 => ?_
  have N0 := Fr.nil n0
  have KK0 := Keep.refl h0 [a, t]
  have cc0 : oQ X0 S0' 0 #[sR a, sR u2, sR t, sI 2] [] := oE hS rfl
  have W := @own_w Z a0 hw
  have q := @dX _ _ c D_19 @dB
  have At' : Arv Z h0 t kt (.object "java/lang/Object") (10 : Int32) [(.ref u0), (.ref u1), .null] .null := At.pad (pad_rep [(.ref u0), (.ref u1)] .null 1)
  have cc21 : oQ X0 S0' 2 #[sR a, sR u2, sR t, sI 2] [.ref t, .int 2] := Steps.trans cc0 (by
    refine XS.iloadN X0.here hx rfl (q 0 rfl) rfl ?_
    refine XS.aloadN X0.here hx rfl (q 1 rfl) rfl rfl ?_
    exact Steps.refl _)
  obtain ⟨clu22, Aru22, -, Su22, Ngu22, -, -⟩ := id At'
  have cl_u22 := X0.arraylength hx (by rw [e0]; exact Aru22.1) (State.isArrayOf_alike (hZ).alike Aru22.2.1) (g := (mkF m 2 #[sR a, sR u2, sR t, sI 2] [.ref t, .int 2])) rfl rfl (q 2 rfl) _ (Steps.refl _)
  rw [len_of Su22 Ngu22] at cl_u22
  have cc23 : oQ X0 S0' 14 #[sR a, sR u2, sR t, sI 2] [.ref u2, .int 2, .ref t] := Steps.trans (Steps.trans cc21 cl_u22) (by
    refine XS.icmpYes X0.here hx rfl (pc0 := 3) rfl (q 3 rfl) rfl (ii_ne_t (by decide)) (by decide) rfl ?_
    refine XS.aloadN X0.here hx rfl (q 7 rfl) rfl rfl ?_
    refine XS.iloadN X0.here hx rfl (q 8 rfl) rfl ?_
    refine XS.aloadN X0.here hx rfl (q 9 rfl) rfl rfl ?_
    exact Steps.refl _)
  obtain ⟨clu24, Aru24, qu24, Su24, Ngu24, Hsu24, Gsu24⟩ := id At'
  have inu24 : ¬ ((2 : Int32) < 0 ∨ clu24.slots.size ≤ (2 : Int32).toNatClampNeg) := inb_of Su24 ⟨by decide, by decide⟩
  obtain ⟨T25, h25, X25, e25, W25, st25⟩ := stR X0 hx hZ e0 Aru24 (j := (2 : Int32)) (v := (.ref u2)) inu24 rfl (Sto.ofV Aru24 qu24 Ot (own_P.ins hw P2)) (g := (mkF m 14 #[sR a, sR u2, sR t, sI 2] [.ref u2, .int 2, .ref t])) rfl rfl (q 10 rfl)
  have K25 := Keep.of_wr W25
  have N25 := Fr.snoc X25 N0 gt
  have KK1 := KK0.trans K25 (allS (Or.inl (lM 1 rfl)) all0)
  have Zs1 := Nat.le_trans Z0 K25.1
  have Ms1 := Nat.le_trans hm K25.1
  have V25 : Arv Z h25 t kt (.object "java/lang/Object") (10 : Int32) ([(.ref u0), (.ref u1), (.ref u2)]) .null := Arv.set Aru24 qu24 Su24 Ngu24 Hsu24 Gsu24 rfl W25 2 rfl (Nat.le_of_ble_eq_true rfl)
  have cc26 : oQ X25 S0' 19 #[sR a, sR u2, sR t, sI 2] [.int ((2 : Int32) + (1 : Int32)), .ref a] := Steps.trans (cc23.trans (st25 _ (Steps.refl _))) (by
    refine XS.aloadN X25.here hx rfl (q 11 rfl) rfl rfl ?_
    refine XS.iloadN X25.here hx rfl (q 12 rfl) rfl ?_
    refine iconstV X25.here hx rfl 1 (q 13 rfl) (by decide) ?_
    refine XS.iadd X25.here hx rfl (q 14 rfl) rfl ?_
    exact Steps.refl _)
  have cz27 : oQ X25 S0' 19 #[sR a, sR u2, sR t, sI 2] [.int 3, .ref a] := cc26
  have fa28 := F2.keep K25 (ninS ne_a_t nin0)
  have fa29 := E.keep K25
  obtain ⟨T30, h30, X30, e30, W30, st30⟩ := oPF X25 cz27 hx hZ hown (W 136 rfl) Via.refl e25 fa28 fa29 (Or.inl (W 137 rfl)) (W 83 rfl) (ty := .int) (by decide) rfl rfl (q 15 rfl)
  have K30 := Keep.of_wr W30
  have N30 := Fr.snoc X30 N25 ga
  have KK2 := KK1.trans K30 (allS (Or.inl (lM 0 rfl)) all0)
  have Zs2 := Nat.le_trans Zs1 K30.1
  have Ms2 := Nat.le_trans Ms1 K30.1
  have cc32 : oQ X30 S0' 22 #[sR a, sR u2, sR t, sI 2] [] := st30
  have fa31 := (F1.keep K25 (ninS ne_a_t nin0)).other W30 (Or.inr (slot_ne (Or.inl (W 102 rfl)) (Or.inl (W 137 rfl)) (by decide) (t := .int) (t' := .int) (by decide) (by decide)))
  have fa33 := (F3.keep K25 (ninS ne_a_t nin0)).other W30 (Or.inr (slot_ne (Or.inl (W 105 rfl)) (Or.inl (W 137 rfl)) (by decide) (t := (.array (.object "java/lang/Object"))) (t' := .int) (by decide) (by decide)))
  have fa34 := (Et.keep K25).keep K30
  have fa35 := V25.keep K30 (ninS (Ne.symm ne_a_t) nin0)
  exact oRV X30 Bd cc32 (q 16 rfl) rfl e30 ⟨rfl, N30, KK2, fa31, (Fld.same W30 fa28), fa33, fa34, fa35⟩
def Q_own_add3 (Z : State) (a t : Addr) (kt : ClassId) (mc : Int32) (mm : Nat) (u0 : Addr) (o0 : Option (List Int32)) (u1 : Addr) (o1 : Option (List Int32)) (u2 : Addr) (o2 : Option (List Int32)) (h0 : Heap) (n0 : Nat) (v : Option Value) (h : Heap) (L : List Loc) : Prop := v = some (.int 1) ∧ Fr n0 L ∧ Keep h0 h [a, t] ∧ zF2 Z h a (.int (mc + 1)) ∧ zF0 Z h a (.int (3 : Int32)) ∧ zF1 Z h a (.ref t) ∧ zE0 Z h t ∧ Arv Z h t kt (.object "java/lang/Object") (10 : Int32) [(.ref u0), (.ref u1), (.ref u2)] .null
theorem own_add3 (l : Launch) (Z : State) (a0 : Array Value) (hw : oH a0 Z) (a t : Addr) (kt : ClassId) (mc : Int32) (mm : Nat) (u0 : Addr) (o0 : Option (List Int32)) (u1 : Addr) (o1 : Option (List Int32)) (u2 : Addr) (o2 : Option (List Int32)) (h0 : Heap) (n0 : Nat) (Z0 : n0 ≤ h0.size) (E : zE1 Z h0 a) (F1 : zF2 Z h0 a (.int mc)) (F2 : zF0 Z h0 a (.int (2 : Int32))) (F3 : zF1 Z h0 a (.ref t)) (ga : n0 ≤ a) (Et : zE0 Z h0 t) (At : Arv Z h0 t kt (.object "java/lang/Object") (10 : Int32) [(.ref u0), (.ref u1)] .null) (Ot : Ovr Z kt "java/lang/Object") (gt : n0 ≤ t) (ne_a_t : a ≠ t) (P2 : own_P Z h0 mm u2 o2) (hm : mm ≤ h0.size) (hma : mm ≤ a) (hmt : mm ≤ t) :
    oC l yM20 (.code yM20 jdk_38_method_25_code 2 (some .boolean)) rM13 #[(.ref a), (.ref u2)] Z h0 (Q_own_add3 Z a t kt mc mm u0 o0 u1 o1 u2 o2 h0 n0) := by
  refine oO (plainFor_of_name own_pn9) hisR fun p e s m below meth c s₁ S0' Bd hS hx dB hml hown hnm hZ X0 e0 => ?_
  have N0 := Fr.nil n0
  have KK0 := Keep.refl h0 [a, t]
  have cc0 : oQ X0 S0' 0 #[sR a, sR u2] [] := oE hS rfl
  have W := @own_w Z a0 hw
  have q := @dX _ _ c D_20 @dB
  have cc21 : oQ X0 S0' 2 #[sR a, sR u2] [.ref a, .ref a] := Steps.trans cc0 (by
    refine XS.aloadN X0.here hx rfl (q 0 rfl) rfl rfl ?_
    refine XS.dup X0.here hx rfl (q 1 rfl) rfl rfl ?_
    exact Steps.refl _)
  obtain ⟨T22, X22, e22, st22⟩ := oGF X0 cc21 hx hZ hown (W 310 rfl) (Via.of (W 311 rfl)) e0 F1 (q 2 rfl)
  have cc23 : oQ X22 S0' 7 #[sR a, sR u2] [.int (mc + (1 : Int32)), .ref a] := Steps.trans st22 (by
    refine iconstV X22.here hx rfl 1 (q 3 rfl) (by decide) ?_
    refine XS.iadd X22.here hx rfl (q 4 rfl) rfl ?_
    exact Steps.refl _)
  obtain ⟨T24, h24, X24, e24, W24, st24⟩ := oPF X22 cc23 hx hZ hown (W 310 rfl) (Via.of (W 311 rfl)) e22 F1 E (Or.inl (W 102 rfl)) (W 83 rfl) (ty := .int) (by decide) rfl rfl (q 5 rfl)
  have K24 := Keep.of_wr W24
  have N24 := Fr.snoc X24 N0 ga
  have KK1 := KK0.trans K24 (allS (Or.inl (lM 0 rfl)) all0)
  have Zs1 := Nat.le_trans Z0 K24.1
  have Ms1 := Nat.le_trans hm K24.1
  have cc26 : oQ X24 S0' 13 #[sR a, sR u2] [.ref a, .ref u2, .ref a] := Steps.trans st24 (by
    refine XS.aloadN X24.here hx rfl (q 6 rfl) rfl rfl ?_
    refine XS.aloadN X24.here hx rfl (q 7 rfl) rfl rfl ?_
    refine XS.aloadN X24.here hx rfl (q 8 rfl) rfl rfl ?_
    exact Steps.refl _)
  have fa25 := F3.other W24 (Or.inr (slot_ne (Or.inl (W 105 rfl)) (Or.inl (W 102 rfl)) (by decide) (t := (.array (.object "java/lang/Object"))) (t' := .int) (by decide) (by decide)))
  obtain ⟨T27, X27, e27, st27⟩ := oGF X24 cc26 hx hZ hown (W 104 rfl) Via.refl e24 fa25 (q 9 rfl)
  have cc29 : oQ X27 S0' 17 #[sR a, sR u2] [.ref a, .ref t, .ref u2, .ref a] := Steps.trans st27 (by
    refine XS.aloadN X27.here hx rfl (q 10 rfl) rfl rfl ?_
    exact Steps.refl _)
  have fa28 := F2.other W24 (Or.inr (slot_ne (Or.inl (W 137 rfl)) (Or.inl (W 102 rfl)) (by decide) (t := .int) (t' := .int) (by decide) (by decide)))
  obtain ⟨T30, X30, e30, st30⟩ := oGF X27 cc29 hx hZ hown (W 136 rfl) Via.refl e27 fa28 (q 11 rfl)
  have cc32 : oQ X30 S0' 20 #[sR a, sR u2] [.int (2 : Int32), .ref t, .ref u2, .ref a] := st30
  have fa31 := E.keep K24
  have fa33 := Et.keep K24
  have fa34 := At.keep K24 (ninS (Ne.symm ne_a_t) nin0)
  have fa35 := P2.up K24 (allS hma all0)
  obtain ⟨_, T36, L36, X36, ⟨rfl, Nq36, Kq36, G136, G236, G336, Et36, At36⟩, st36⟩ := oCP (y := yM19) X30 cc32 hx hZ hown hml (q 12 rfl) e30 fa31 (W 312 rfl) (W 313 rfl) (mvT hZ (W 315 rfl)) (W 314 rfl) (W 316 rfl) (by decide) [.ref u2, .ref t, .int (2 : Int32)] [] (lenOf own_pd9 rfl) (bO (own_add33 l Z a0 hw a t kt (mc + 1) mm u0 o0 u1 o1 u2 o2 h24 n0 Zs1 fa31 (Fld.same W24 F1) fa28 fa25 ga fa33 fa34 Ot gt ne_a_t fa35 Ms1 hma hmt) hZ (W 316 rfl) (W 84 rfl))
  have N36 := Fr.app N24 Nq36
  have KK2 := KK1.trans Kq36 (allS (Or.inl (lM 0 rfl)) (allS (Or.inl (lM 1 rfl)) all0))
  have Zs2 := Nat.le_trans Zs1 Kq36.1
  have Ms2 := Nat.le_trans Ms1 Kq36.1
  have e36 : T36.heap = T36.heap := rfl
  have cc37 : oQ X36 S0' 24 #[sR a, sR u2] [.int 1] := Steps.trans st36 (by
    refine iconstV X36.here hx rfl 1 (q 13 rfl) (by decide) ?_
    exact Steps.refl _)
  exact oRI X36 Bd cc37 (q 14 rfl) rfl (rfl) (by simp) e36 ⟨rfl, N36, KK2, G136, G236, G336, Et36, At36⟩
def Q_own_minb (Z : State) (a b : Int32) (h0 : Heap) (n0 : Nat) (v : Option Value) (h : Heap) (L : List Loc) : Prop := v = some (.int b) ∧ Fr n0 L ∧ h = h0
theorem own_minb (l : Launch) (Z : State) (a0 : Array Value) (hw : oH a0 Z) (a b : Int32) (h0 : Heap) (n0 : Nat) (Z0 : n0 ≤ h0.size) (h1 : b < a) :
    oC l yM21 (.code yM21 jdk_29_method_69_code 2 (some .int)) rM1 #[(.int a), (.int b)] Z h0 (Q_own_minb Z a b h0 n0) := by
  refine oO (by decide +kernel) hisR fun p e s m below meth c s₁ S0' Bd hS hx dB hml hown hnm hZ X0 e0 => ?_
  have N0 := Fr.nil n0
  have KK0 := Keep.refl h0 ([] : List Addr)
  have cc0 : oQ X0 S0' 0 #[sI a, sI b] [] := oE hS rfl
  have W := @own_w Z a0 hw
  have q := @dX _ _ c D_21 @dB
  have cc21 : oQ X0 S0' 10 #[sI a, sI b] [.int b] := Steps.trans cc0 (by
    refine XS.iloadN X0.here hx rfl (q 0 rfl) rfl ?_
    refine XS.iloadN X0.here hx rfl (q 1 rfl) rfl ?_
    refine XS.icmpYes X0.here hx rfl (pc0 := 2) rfl (q 2 rfl) rfl (ii_gt_t h1) (by decide) rfl ?_
    refine XS.iloadN X0.here hx rfl (q 3 rfl) rfl ?_
    exact Steps.refl _)
  exact oRI X0 Bd cc21 (q 4 rfl) rfl (rfl) (by simp) e0 ⟨rfl, N0, rfl⟩
def Q_own_cp3_1 (Z : State) (t mr : Addr) (kt : ClassId) (mm : Nat) (u0 : Addr) (o0 : Option (List Int32)) (h0 : Heap) (n0 : Nat) (v : Option Value) (h : Heap) (L : List Loc) : Prop := ∃ (w : Addr) (kw : ClassId), v = some (.ref w) ∧ Fr n0 L ∧ Keep h0 h [] ∧ h0.size ≤ w ∧ Arv Z h w kw (.object "java/lang/Object") (1 : Int32) [(.ref u0)] .null
theorem own_cp3_1 (l : Launch) (Z : State) (a0 : Array Value) (hw : oH a0 Z) (t mr : Addr) (kt : ClassId) (mm : Nat) (u0 : Addr) (o0 : Option (List Int32)) (h0 : Heap) (n0 : Nat) (Z0 : n0 ≤ h0.size) (MM : own_Mir Z "[Ljava/lang/Object;" mr) (At : Arv Z h0 t kt (.object "java/lang/Object") (10 : Int32) [(.ref u0)] .null) (P0 : own_P Z h0 mm u0 o0) (hm : mm ≤ h0.size) :
    oC l yM22 (.code yM22 jdk_65_method_120_code 4 (some (.array (.object "java/lang/Object")))) rM14 #[(.ref t), (.int 1), (.ref mr)] Z h0 (Q_own_cp3_1 Z t mr kt mm u0 o0 h0 n0) := by
  refine oO (plainFor_of_name own_pn10) hisR fun p e s m below meth c s₁ S0' Bd hS hx dB hml hown hnm hZ X0 e0 => ?_
  have N0 := Fr.nil n0
  have KK0 := Keep.refl h0 ([] : List Addr)
  have cc0 : oQ X0 S0' 0 #[sR t, sI 1, sR mr, uN] [] := oE hS rfl
  have W := @own_w Z a0 hw
  have q := @dX _ _ c D_22 @dB
  have cc21 : oQ X0 S0' 1 #[sR t, sI 1, sR mr, uN] [.ref mr] := Steps.trans cc0 (by
    refine XS.aloadN X0.here hx rfl (q 0 rfl) rfl rfl ?_
    exact Steps.refl _)
  obtain ⟨vm22, X22, st22⟩ := X0.ldcMirror hx hown (mv hZ (W 353 rfl)) (own_mir hZ MM) (g := (mkF m 1 #[sR t, sI 1, sR mr, uN] [.ref mr])) rfl (q 1 rfl)
  have e22 : (s₁.setVm vm22).heap = h0 := e0
  have cc23 : oQ X22 S0' 7 #[sR t, sI 1, sR mr, uN] [.int 1] := Steps.trans (cc21.trans (st22 _ (Steps.refl _))) (by
    refine XT.acmpNo X22.here hx rfl (q 2 rfl) rfl rfl rfl (aa_ne_f rfl) ?_
    refine XS.iloadN X22.here hx rfl (q 3 rfl) rfl ?_
    exact Steps.refl _)
  obtain ⟨T24, h24, k24, X24, e24, E24, A24, Ex24, O24, st24⟩ := newRE X22 hx hZ hown (W 354 rfl) (W 331 rfl) e22 (g := (mkF m 7 #[sR t, sI 1, sR mr, uN] [.int 1])) rfl (q 4 rfl) rfl (by decide) (cap := 1) (by decide) (by decide) (Nat.le_of_ble_eq_true rfl) (Nat.le_of_ble_eq_true rfl) (ad := "[Ljava/lang/Object;") (by decide)
  obtain ⟨w, g_w⟩ : ∃ z, z = h0.size := ⟨_, rfl⟩
  rw [← g_w] at A24 Ex24 st24
  have K24 := (Keep.refl h0 ([] : List Addr)).ext E24
  have b_w : h0.size ≤ w := (Nat.le_of_eq g_w.symm)
  have gn_w := Nat.le_trans Z0 b_w
  have s0_w := Nat.le_trans KK0.1 b_w
  have ml_w := Nat.le_trans hm b_w
  have ne_t_w := oN At.lt b_w
  have KK1 := KK0.trans K24 all0
  have Zs1 := Nat.le_trans Z0 K24.1
  have Ms1 := Nat.le_trans hm K24.1
  have V_w : Arv Z h24 w k24 (.object "java/lang/Object") (1 : Int32) [.null] .null := (Arv.new A24 (by decide)).pad (pad_rep [] .null 1)
  have cc26 : oQ X24 S0' 30 #[sR t, sI 1, sR mr, sR w] [.ref t, .int 0, .ref w, .int 0, .ref t] := Steps.trans (cc23.trans (st24 _ (Steps.refl _))) (by
    refine XS.goto X24.here hx rfl (pc0 := 10) rfl (q 5 rfl) (by decide) rfl ?_
    refine XS.astoreN X24.here hx rfl (q 6 rfl) rfl rfl rfl ?_
    refine XS.aloadN X24.here hx rfl (q 7 rfl) rfl rfl ?_
    refine iconstV X24.here hx rfl 0 (q 8 rfl) (by decide) ?_
    refine XS.aloadN X24.here hx rfl (q 9 rfl) rfl rfl ?_
    refine iconstV X24.here hx rfl 0 (q 10 rfl) (by decide) ?_
    refine XS.aloadN X24.here hx rfl (q 11 rfl) rfl rfl ?_
    exact Steps.refl _)
  have fa25 := At.keep K24 nin0
  obtain ⟨clu27, Aru27, -, Su27, Ngu27, -, -⟩ := id fa25
  have cl_u27 := X24.arraylength hx (by rw [e24]; exact Aru27.1) (State.isArrayOf_alike (hZ).alike Aru27.2.1) (g := (mkF m 30 #[sR t, sI 1, sR mr, sR w] [.ref t, .int 0, .ref w, .int 0, .ref t])) rfl rfl (q 12 rfl) _ (Steps.refl _)
  rw [len_of Su27 Ngu27] at cl_u27
  have cc28 : oQ X24 S0' 32 #[sR t, sI 1, sR mr, sR w] [.int 1, .int (10 : Int32), .int 0, .ref w, .int 0, .ref t] := Steps.trans (Steps.trans cc26 cl_u27) (by
    refine XS.iloadN X24.here hx rfl (q 13 rfl) rfl ?_
    exact Steps.refl _)
  obtain ⟨_, T29, L29, X29, ⟨rfl, Nq29, eq29⟩, st29⟩ := oCT (y := yM21) X24 cc28 hx hZ hown hml (q 14 rfl) e24 (W 258 rfl) (W 259 rfl) (W 260 rfl) (W 261 rfl) (by decide) [.int (10 : Int32), .int 1] [.int 0, .ref w, .int 0, .ref t] (lenOf own_pd6 rfl) (bO (own_minb l Z a0 hw 10 1 h24 n0 Zs1 (by decide)) hZ (W 261 rfl) (W 260 rfl))
  have N29 := Fr.app N0 Nq29
  obtain ⟨clw, Arw, qw, -, -, -, -⟩ := id V_w
  have cc31 : oQ X29 S0' 35 #[sR t, sI 1, sR mr, sR w] [.int 1, .int 0, .ref w, .int 0, .ref t] := st29
  have fa30 := P0.up K24 all0
  obtain ⟨T32, h32, L32, X32, e32, N32, K32, V32, st32⟩ := cpA X29 hx hZ hown (W 262 rfl) (W 265 rfl) (W 263 rfl) (W 264 rfl) eq29 fa25 V_w (Or.inr ⟨rfl, rfl, ⟨Sto.ofV Arw qw O24 (own_P.ins hw fa30), trivial⟩⟩) (by decide) (by decide) (by decide) (us := ([(.ref u0)])) (by decide) (by decide) rfl (by decide) N29 gn_w (g := (mkF m 35 #[sR t, sI 1, sR mr, sR w] [.int 1, .int 0, .ref w, .int 0, .ref t])) rfl (by rw [hml]; rfl) rfl (q 15 rfl) (by decide) (W := 0) (by show 2 * 0 + _ ≤ _; exact Nat.le_of_eq rfl) (by decide)
  have KK2 := KK1.trans K32 (allS (Or.inr s0_w) all0)
  have Zs2 := Nat.le_trans Zs1 K32.1
  have Ms2 := Nat.le_trans Ms1 K32.1
  have V32' : Arv Z h32 w k24 (.object "java/lang/Object") (1 : Int32) ([(.ref u0)]) .null := own_arv_eq V32 rfl
  have cc33 : oQ X32 S0' 39 #[sR t, sI 1, sR mr, sR w] [.ref w] := Steps.trans (cc31.trans (st32 _ (Steps.refl _))) (by
    refine XS.aloadN X32.here hx rfl (q 16 rfl) rfl rfl ?_
    exact Steps.refl _)
  exact oRA X32 Bd cc33 (q 17 rfl) rfl (rfl) rfl e32 ⟨w, _, rfl, N32, KK2, s0_w, V32'⟩
def Q_own_cp2_1 (Z : State) (t mr : Addr) (kt : ClassId) (mm : Nat) (u0 : Addr) (o0 : Option (List Int32)) (h0 : Heap) (n0 : Nat) (v : Option Value) (h : Heap) (L : List Loc) : Prop := ∃ (w : Addr) (kw : ClassId), v = some (.ref w) ∧ Fr n0 L ∧ Keep h0 h [] ∧ h0.size ≤ w ∧ Arv Z h w kw (.object "java/lang/Object") (1 : Int32) [(.ref u0)] .null
theorem own_cp2_1 (l : Launch) (Z : State) (a0 : Array Value) (hw : oH a0 Z) (t mr : Addr) (kt : ClassId) (mm : Nat) (u0 : Addr) (o0 : Option (List Int32)) (h0 : Heap) (n0 : Nat) (Z0 : n0 ≤ h0.size) (MM : own_Mir Z "[Ljava/lang/Object;" mr) (Et : zE0 Z h0 t) (At : Arv Z h0 t kt (.object "java/lang/Object") (10 : Int32) [(.ref u0)] .null) (P0 : own_P Z h0 mm u0 o0) (hm : mm ≤ h0.size) :
    oC l yM23 (.code yM23 jdk_65_method_119_code 2 (some (.array (.object "java/lang/Object")))) rM15 #[(.ref t), (.int 1)] Z h0 (Q_own_cp2_1 Z t mr kt mm u0 o0 h0 n0) := by
  refine oO (plainFor_of_name own_pn10) hisR fun p e s m below meth c s₁ S0' Bd hS hx dB hml hown hnm hZ X0 e0 => ?_
  have N0 := Fr.nil n0
  have KK0 := Keep.refl h0 ([] : List Addr)
  have cc0 : oQ X0 S0' 0 #[sR t, sI 1] [] := oE hS rfl
  have W := @own_w Z a0 hw
  have q := @dX _ _ c D_23 @dB
  have cc21 : oQ X0 S0' 3 #[sR t, sI 1] [.ref t, .int 1, .ref t] := Steps.trans cc0 (by
    refine XS.aloadN X0.here hx rfl (q 0 rfl) rfl rfl ?_
    refine XS.iloadN X0.here hx rfl (q 1 rfl) rfl ?_
    refine XS.aloadN X0.here hx rfl (q 2 rfl) rfl rfl ?_
    exact Steps.refl _)
  obtain ⟨T22, X22, e22, st22⟩ := own_gcls X0 hx hZ hown (W 344 rfl) (own_sameM (W 346 rfl) (W 347 rfl) rfl (by decide)) (W 347 rfl) (W 346 rfl) (W 348 rfl) e0 Et MM (g := (mkF m 3 #[sR t, sI 1] [.ref t, .int 1, .ref t])) rfl (by rw [hml]; rfl) rfl (q 3 rfl) (by decide) (Nat.le_of_ble_eq_true rfl)
  have cc23 : oQ X22 S0' 6 #[sR t, sI 1] [.ref mr, .int 1, .ref t] := (cc21.trans (st22 _ (Steps.refl _)))
  obtain ⟨_, T24, L24, X24, ⟨w, kw, rfl, Nq24, Kq24, sq24, Aq24⟩, st24⟩ := oCT (y := yM22) X22 cc23 hx hZ hown hml (q 4 rfl) e22 (W 350 rfl) (W 351 rfl) (W 250 rfl) (W 352 rfl) (by decide) [.ref t, .int 1, .ref mr] [] (lenOf own_pd10 rfl) (bO (own_cp3_1 l Z a0 hw t mr kt mm u0 o0 h0 n0 Z0 MM At P0 hm) hZ (W 352 rfl) (W 250 rfl))
  have N24 := Fr.app N0 Nq24
  have KK1 := KK0.trans Kq24 all0
  have Zs1 := Nat.le_trans Z0 Kq24.1
  have e24 : T24.heap = T24.heap := rfl
  have cc25 : oQ X24 S0' 9 #[sR t, sI 1] [.ref w] := st24
  exact oRA X24 Bd cc25 (q 5 rfl) rfl (rfl) rfl e24 ⟨w, kw, rfl, N24, KK1, sq24, Aq24⟩
def Q_own_toa1 (Z : State) (a t mr : Addr) (kt : ClassId) (mm : Nat) (u0 : Addr) (o0 : Option (List Int32)) (h0 : Heap) (n0 : Nat) (v : Option Value) (h : Heap) (L : List Loc) : Prop := ∃ (w : Addr) (kw : ClassId), v = some (.ref w) ∧ Fr n0 L ∧ Keep h0 h [] ∧ h0.size ≤ w ∧ Arv Z h w kw (.object "java/lang/Object") (1 : Int32) [(.ref u0)] .null
theorem own_toa1 (l : Launch) (Z : State) (a0 : Array Value) (hw : oH a0 Z) (a t mr : Addr) (kt : ClassId) (mm : Nat) (u0 : Addr) (o0 : Option (List Int32)) (h0 : Heap) (n0 : Nat) (Z0 : n0 ≤ h0.size) (MM : own_Mir Z "[Ljava/lang/Object;" mr) (F2 : zF0 Z h0 a (.int (1 : Int32))) (F3 : zF1 Z h0 a (.ref t)) (Et : zE0 Z h0 t) (At : Arv Z h0 t kt (.object "java/lang/Object") (10 : Int32) [(.ref u0)] .null) (P0 : own_P Z h0 mm u0 o0) (hm : mm ≤ h0.size) :
    oC l yM24 (.code yM24 jdk_38_method_16_code 1 (some (.array (.object "java/lang/Object")))) rM16 #[(.ref a)] Z h0 (Q_own_toa1 Z a t mr kt mm u0 o0 h0 n0) := by
  refine oO (plainFor_of_name own_pn9) hisR fun p e s m below meth c s₁ S0' Bd hS hx dB hml hown hnm hZ X0 e0 => ?_
  have N0 := Fr.nil n0
  have KK0 := Keep.refl h0 ([] : List Addr)
  have cc0 : oQ X0 S0' 0 #[sR a] [] := oE hS rfl
  have W := @own_w Z a0 hw
  have q := @dX _ _ c D_24 @dB
  have cc21 : oQ X0 S0' 1 #[sR a] [.ref a] := Steps.trans cc0 (by
    refine XS.aloadN X0.here hx rfl (q 0 rfl) rfl rfl ?_
    exact Steps.refl _)
  obtain ⟨T22, X22, e22, st22⟩ := oGF X0 cc21 hx hZ hown (W 104 rfl) Via.refl e0 F3 (q 1 rfl)
  have cc23 : oQ X22 S0' 5 #[sR a] [.ref a, .ref t] := Steps.trans st22 (by
    refine XS.aloadN X22.here hx rfl (q 2 rfl) rfl rfl ?_
    exact Steps.refl _)
  obtain ⟨T24, X24, e24, st24⟩ := oGF X22 cc23 hx hZ hown (W 136 rfl) Via.refl e22 F2 (q 3 rfl)
  have cc25 : oQ X24 S0' 8 #[sR a] [.int (1 : Int32), .ref t] := st24
  have cz26 : oQ X24 S0' 8 #[sR a] [.int 1, .ref t] := cc25
  obtain ⟨_, T27, L27, X27, ⟨w, kw, rfl, Nq27, Kq27, sq27, Aq27⟩, st27⟩ := oCT (y := yM23) X24 cz26 hx hZ hown hml (q 4 rfl) e24 (W 341 rfl) (W 342 rfl) (W 250 rfl) (W 343 rfl) (by decide) [.ref t, .int 1] [] (lenOf own_pd11 rfl) (bO (own_cp2_1 l Z a0 hw t mr kt mm u0 o0 h0 n0 Z0 MM Et At P0 hm) hZ (W 343 rfl) (W 250 rfl))
  have N27 := Fr.app N0 Nq27
  have KK1 := KK0.trans Kq27 all0
  have Zs1 := Nat.le_trans Z0 Kq27.1
  have e27 : T27.heap = T27.heap := rfl
  have cc28 : oQ X27 S0' 11 #[sR a] [.ref w] := st27
  exact oRA X27 Bd cc28 (q 5 rfl) rfl (rfl) rfl e27 ⟨w, kw, rfl, N27, KK1, sq27, Aq27⟩
def Q_own_cp3_2 (Z : State) (t mr : Addr) (kt : ClassId) (mm : Nat) (u0 : Addr) (o0 : Option (List Int32)) (u1 : Addr) (o1 : Option (List Int32)) (h0 : Heap) (n0 : Nat) (v : Option Value) (h : Heap) (L : List Loc) : Prop := ∃ (w : Addr) (kw : ClassId), v = some (.ref w) ∧ Fr n0 L ∧ Keep h0 h [] ∧ h0.size ≤ w ∧ Arv Z h w kw (.object "java/lang/Object") (2 : Int32) [(.ref u0), (.ref u1)] .null
theorem own_cp3_2 (l : Launch) (Z : State) (a0 : Array Value) (hw : oH a0 Z) (t mr : Addr) (kt : ClassId) (mm : Nat) (u0 : Addr) (o0 : Option (List Int32)) (u1 : Addr) (o1 : Option (List Int32)) (h0 : Heap) (n0 : Nat) (Z0 : n0 ≤ h0.size) (MM : own_Mir Z "[Ljava/lang/Object;" mr) (At : Arv Z h0 t kt (.object "java/lang/Object") (10 : Int32) [(.ref u0), (.ref u1)] .null) (P0 : own_P Z h0 mm u0 o0) (P1 : own_P Z h0 mm u1 o1) (hm : mm ≤ h0.size) :
    oC l yM22 (.code yM22 jdk_65_method_120_code 4 (some (.array (.object "java/lang/Object")))) rM17 #[(.ref t), (.int 2), (.ref mr)] Z h0 (Q_own_cp3_2 Z t mr kt mm u0 o0 u1 o1 h0 n0) := by
  refine oO (plainFor_of_name own_pn10) hisR fun p e s m below meth c s₁ S0' Bd hS hx dB hml hown hnm hZ X0 e0 => ?_
  have N0 := Fr.nil n0
  have KK0 := Keep.refl h0 ([] : List Addr)
  have cc0 : oQ X0 S0' 0 #[sR t, sI 2, sR mr, uN] [] := oE hS rfl
  have W := @own_w Z a0 hw
  have q := @dX _ _ c D_22 @dB
  have cc21 : oQ X0 S0' 1 #[sR t, sI 2, sR mr, uN] [.ref mr] := Steps.trans cc0 (by
    refine XS.aloadN X0.here hx rfl (q 0 rfl) rfl rfl ?_
    exact Steps.refl _)
  obtain ⟨vm22, X22, st22⟩ := X0.ldcMirror hx hown (mv hZ (W 353 rfl)) (own_mir hZ MM) (g := (mkF m 1 #[sR t, sI 2, sR mr, uN] [.ref mr])) rfl (q 1 rfl)
  have e22 : (s₁.setVm vm22).heap = h0 := e0
  have cc23 : oQ X22 S0' 7 #[sR t, sI 2, sR mr, uN] [.int 2] := Steps.trans (cc21.trans (st22 _ (Steps.refl _))) (by
    refine XT.acmpNo X22.here hx rfl (q 2 rfl) rfl rfl rfl (aa_ne_f rfl) ?_
    refine XS.iloadN X22.here hx rfl (q 3 rfl) rfl ?_
    exact Steps.refl _)
  obtain ⟨T24, h24, k24, X24, e24, E24, A24, Ex24, O24, st24⟩ := newRE X22 hx hZ hown (W 354 rfl) (W 331 rfl) e22 (g := (mkF m 7 #[sR t, sI 2, sR mr, uN] [.int 2])) rfl (q 4 rfl) rfl (by decide) (cap := 2) (by decide) (by decide) (Nat.le_of_ble_eq_true rfl) (Nat.le_of_ble_eq_true rfl) (ad := "[Ljava/lang/Object;") (by decide)
  obtain ⟨w, g_w⟩ : ∃ z, z = h0.size := ⟨_, rfl⟩
  rw [← g_w] at A24 Ex24 st24
  have K24 := (Keep.refl h0 ([] : List Addr)).ext E24
  have b_w : h0.size ≤ w := (Nat.le_of_eq g_w.symm)
  have gn_w := Nat.le_trans Z0 b_w
  have s0_w := Nat.le_trans KK0.1 b_w
  have ml_w := Nat.le_trans hm b_w
  have ne_t_w := oN At.lt b_w
  have KK1 := KK0.trans K24 all0
  have Zs1 := Nat.le_trans Z0 K24.1
  have Ms1 := Nat.le_trans hm K24.1
  have V_w : Arv Z h24 w k24 (.object "java/lang/Object") (2 : Int32) [.null, .null] .null := (Arv.new A24 (by decide)).pad (pad_rep [] .null 2)
  have cc26 : oQ X24 S0' 30 #[sR t, sI 2, sR mr, sR w] [.ref t, .int 0, .ref w, .int 0, .ref t] := Steps.trans (cc23.trans (st24 _ (Steps.refl _))) (by
    refine XS.goto X24.here hx rfl (pc0 := 10) rfl (q 5 rfl) (by decide) rfl ?_
    refine XS.astoreN X24.here hx rfl (q 6 rfl) rfl rfl rfl ?_
    refine XS.aloadN X24.here hx rfl (q 7 rfl) rfl rfl ?_
    refine iconstV X24.here hx rfl 0 (q 8 rfl) (by decide) ?_
    refine XS.aloadN X24.here hx rfl (q 9 rfl) rfl rfl ?_
    refine iconstV X24.here hx rfl 0 (q 10 rfl) (by decide) ?_
    refine XS.aloadN X24.here hx rfl (q 11 rfl) rfl rfl ?_
    exact Steps.refl _)
  have fa25 := At.keep K24 nin0
  obtain ⟨clu27, Aru27, -, Su27, Ngu27, -, -⟩ := id fa25
  have cl_u27 := X24.arraylength hx (by rw [e24]; exact Aru27.1) (State.isArrayOf_alike (hZ).alike Aru27.2.1) (g := (mkF m 30 #[sR t, sI 2, sR mr, sR w] [.ref t, .int 0, .ref w, .int 0, .ref t])) rfl rfl (q 12 rfl) _ (Steps.refl _)
  rw [len_of Su27 Ngu27] at cl_u27
  have cc28 : oQ X24 S0' 32 #[sR t, sI 2, sR mr, sR w] [.int 2, .int (10 : Int32), .int 0, .ref w, .int 0, .ref t] := Steps.trans (Steps.trans cc26 cl_u27) (by
    refine XS.iloadN X24.here hx rfl (q 13 rfl) rfl ?_
    exact Steps.refl _)
  obtain ⟨_, T29, L29, X29, ⟨rfl, Nq29, eq29⟩, st29⟩ := oCT (y := yM21) X24 cc28 hx hZ hown hml (q 14 rfl) e24 (W 258 rfl) (W 259 rfl) (W 260 rfl) (W 261 rfl) (by decide) [.int (10 : Int32), .int 2] [.int 0, .ref w, .int 0, .ref t] (lenOf own_pd6 rfl) (bO (own_minb l Z a0 hw 10 2 h24 n0 Zs1 (by decide)) hZ (W 261 rfl) (W 260 rfl))
  have N29 := Fr.app N0 Nq29
  obtain ⟨clw, Arw, qw, -, -, -, -⟩ := id V_w
  have cc31 : oQ X29 S0' 35 #[sR t, sI 2, sR mr, sR w] [.int 2, .int 0, .ref w, .int 0, .ref t] := st29
  have fa30 := P1.up K24 all0
  have fa32 := P0.up K24 all0
  obtain ⟨T33, h33, L33, X33, e33, N33, K33, V33, st33⟩ := cpA X29 hx hZ hown (W 262 rfl) (W 265 rfl) (W 263 rfl) (W 264 rfl) eq29 fa25 V_w (Or.inr ⟨rfl, rfl, ⟨Sto.ofV Arw qw O24 (own_P.ins hw fa32), ⟨Sto.ofV Arw qw O24 (own_P.ins hw fa30), trivial⟩⟩⟩) (by decide) (by decide) (by decide) (us := ([(.ref u0), (.ref u1)])) (by decide) (by decide) rfl (by decide) N29 gn_w (g := (mkF m 35 #[sR t, sI 2, sR mr, sR w] [.int 2, .int 0, .ref w, .int 0, .ref t])) rfl (by rw [hml]; rfl) rfl (q 15 rfl) (by decide) (W := 0) (by show 2 * 0 + _ ≤ _; exact Nat.le_of_eq rfl) (by decide)
  have KK2 := KK1.trans K33 (allS (Or.inr s0_w) all0)
  have Zs2 := Nat.le_trans Zs1 K33.1
  have Ms2 := Nat.le_trans Ms1 K33.1
  have V33' : Arv Z h33 w k24 (.object "java/lang/Object") (2 : Int32) ([(.ref u0), (.ref u1)]) .null := own_arv_eq V33 rfl
  have cc34 : oQ X33 S0' 39 #[sR t, sI 2, sR mr, sR w] [.ref w] := Steps.trans (cc31.trans (st33 _ (Steps.refl _))) (by
    refine XS.aloadN X33.here hx rfl (q 16 rfl) rfl rfl ?_
    exact Steps.refl _)
  exact oRA X33 Bd cc34 (q 17 rfl) rfl (rfl) rfl e33 ⟨w, _, rfl, N33, KK2, s0_w, V33'⟩
def Q_own_cp2_2 (Z : State) (t mr : Addr) (kt : ClassId) (mm : Nat) (u0 : Addr) (o0 : Option (List Int32)) (u1 : Addr) (o1 : Option (List Int32)) (h0 : Heap) (n0 : Nat) (v : Option Value) (h : Heap) (L : List Loc) : Prop := ∃ (w : Addr) (kw : ClassId), v = some (.ref w) ∧ Fr n0 L ∧ Keep h0 h [] ∧ h0.size ≤ w ∧ Arv Z h w kw (.object "java/lang/Object") (2 : Int32) [(.ref u0), (.ref u1)] .null
theorem own_cp2_2 (l : Launch) (Z : State) (a0 : Array Value) (hw : oH a0 Z) (t mr : Addr) (kt : ClassId) (mm : Nat) (u0 : Addr) (o0 : Option (List Int32)) (u1 : Addr) (o1 : Option (List Int32)) (h0 : Heap) (n0 : Nat) (Z0 : n0 ≤ h0.size) (MM : own_Mir Z "[Ljava/lang/Object;" mr) (Et : zE0 Z h0 t) (At : Arv Z h0 t kt (.object "java/lang/Object") (10 : Int32) [(.ref u0), (.ref u1)] .null) (P0 : own_P Z h0 mm u0 o0) (P1 : own_P Z h0 mm u1 o1) (hm : mm ≤ h0.size) :
    oC l yM23 (.code yM23 jdk_65_method_119_code 2 (some (.array (.object "java/lang/Object")))) rM18 #[(.ref t), (.int 2)] Z h0 (Q_own_cp2_2 Z t mr kt mm u0 o0 u1 o1 h0 n0) := by
  refine oO (plainFor_of_name own_pn10) hisR fun p e s m below meth c s₁ S0' Bd hS hx dB hml hown hnm hZ X0 e0 => ?_
  have N0 := Fr.nil n0
  have KK0 := Keep.refl h0 ([] : List Addr)
  have cc0 : oQ X0 S0' 0 #[sR t, sI 2] [] := oE hS rfl
  have W := @own_w Z a0 hw
  have q := @dX _ _ c D_23 @dB
  have cc21 : oQ X0 S0' 3 #[sR t, sI 2] [.ref t, .int 2, .ref t] := Steps.trans cc0 (by
    refine XS.aloadN X0.here hx rfl (q 0 rfl) rfl rfl ?_
    refine XS.iloadN X0.here hx rfl (q 1 rfl) rfl ?_
    refine XS.aloadN X0.here hx rfl (q 2 rfl) rfl rfl ?_
    exact Steps.refl _)
  obtain ⟨T22, X22, e22, st22⟩ := own_gcls X0 hx hZ hown (W 344 rfl) (own_sameM (W 346 rfl) (W 347 rfl) rfl (by decide)) (W 347 rfl) (W 346 rfl) (W 348 rfl) e0 Et MM (g := (mkF m 3 #[sR t, sI 2] [.ref t, .int 2, .ref t])) rfl (by rw [hml]; rfl) rfl (q 3 rfl) (by decide) (Nat.le_of_ble_eq_true rfl)
  have cc23 : oQ X22 S0' 6 #[sR t, sI 2] [.ref mr, .int 2, .ref t] := (cc21.trans (st22 _ (Steps.refl _)))
  obtain ⟨_, T24, L24, X24, ⟨w, kw, rfl, Nq24, Kq24, sq24, Aq24⟩, st24⟩ := oCT (y := yM22) X22 cc23 hx hZ hown hml (q 4 rfl) e22 (W 350 rfl) (W 351 rfl) (W 250 rfl) (W 352 rfl) (by decide) [.ref t, .int 2, .ref mr] [] (lenOf own_pd10 rfl) (bO (own_cp3_2 l Z a0 hw t mr kt mm u0 o0 u1 o1 h0 n0 Z0 MM At P0 P1 hm) hZ (W 352 rfl) (W 250 rfl))
  have N24 := Fr.app N0 Nq24
  have KK1 := KK0.trans Kq24 all0
  have Zs1 := Nat.le_trans Z0 Kq24.1
  have e24 : T24.heap = T24.heap := rfl
  have cc25 : oQ X24 S0' 9 #[sR t, sI 2] [.ref w] := st24
  exact oRA X24 Bd cc25 (q 5 rfl) rfl (rfl) rfl e24 ⟨w, kw, rfl, N24, KK1, sq24, Aq24⟩
def Q_own_toa2 (Z : State) (a t mr : Addr) (kt : ClassId) (mm : Nat) (u0 : Addr) (o0 : Option (List Int32)) (u1 : Addr) (o1 : Option (List Int32)) (h0 : Heap) (n0 : Nat) (v : Option Value) (h : Heap) (L : List Loc) : Prop := ∃ (w : Addr) (kw : ClassId), v = some (.ref w) ∧ Fr n0 L ∧ Keep h0 h [] ∧ h0.size ≤ w ∧ Arv Z h w kw (.object "java/lang/Object") (2 : Int32) [(.ref u0), (.ref u1)] .null
theorem own_toa2 (l : Launch) (Z : State) (a0 : Array Value) (hw : oH a0 Z) (a t mr : Addr) (kt : ClassId) (mm : Nat) (u0 : Addr) (o0 : Option (List Int32)) (u1 : Addr) (o1 : Option (List Int32)) (h0 : Heap) (n0 : Nat) (Z0 : n0 ≤ h0.size) (MM : own_Mir Z "[Ljava/lang/Object;" mr) (F2 : zF0 Z h0 a (.int (2 : Int32))) (F3 : zF1 Z h0 a (.ref t)) (Et : zE0 Z h0 t) (At : Arv Z h0 t kt (.object "java/lang/Object") (10 : Int32) [(.ref u0), (.ref u1)] .null) (P0 : own_P Z h0 mm u0 o0) (P1 : own_P Z h0 mm u1 o1) (hm : mm ≤ h0.size) :
    oC l yM24 (.code yM24 jdk_38_method_16_code 1 (some (.array (.object "java/lang/Object")))) rM19 #[(.ref a)] Z h0 (Q_own_toa2 Z a t mr kt mm u0 o0 u1 o1 h0 n0) := by
  refine oO (plainFor_of_name own_pn9) hisR fun p e s m below meth c s₁ S0' Bd hS hx dB hml hown hnm hZ X0 e0 => ?_
  have N0 := Fr.nil n0
  have KK0 := Keep.refl h0 ([] : List Addr)
  have cc0 : oQ X0 S0' 0 #[sR a] [] := oE hS rfl
  have W := @own_w Z a0 hw
  have q := @dX _ _ c D_24 @dB
  have cc21 : oQ X0 S0' 1 #[sR a] [.ref a] := Steps.trans cc0 (by
    refine XS.aloadN X0.here hx rfl (q 0 rfl) rfl rfl ?_
    exact Steps.refl _)
  obtain ⟨T22, X22, e22, st22⟩ := oGF X0 cc21 hx hZ hown (W 104 rfl) Via.refl e0 F3 (q 1 rfl)
  have cc23 : oQ X22 S0' 5 #[sR a] [.ref a, .ref t] := Steps.trans st22 (by
    refine XS.aloadN X22.here hx rfl (q 2 rfl) rfl rfl ?_
    exact Steps.refl _)
  obtain ⟨T24, X24, e24, st24⟩ := oGF X22 cc23 hx hZ hown (W 136 rfl) Via.refl e22 F2 (q 3 rfl)
  have cc25 : oQ X24 S0' 8 #[sR a] [.int (2 : Int32), .ref t] := st24
  have cz26 : oQ X24 S0' 8 #[sR a] [.int 2, .ref t] := cc25
  obtain ⟨_, T27, L27, X27, ⟨w, kw, rfl, Nq27, Kq27, sq27, Aq27⟩, st27⟩ := oCT (y := yM23) X24 cz26 hx hZ hown hml (q 4 rfl) e24 (W 341 rfl) (W 342 rfl) (W 250 rfl) (W 343 rfl) (by decide) [.ref t, .int 2] [] (lenOf own_pd11 rfl) (bO (own_cp2_2 l Z a0 hw t mr kt mm u0 o0 u1 o1 h0 n0 Z0 MM Et At P0 P1 hm) hZ (W 343 rfl) (W 250 rfl))
  have N27 := Fr.app N0 Nq27
  have KK1 := KK0.trans Kq27 all0
  have Zs1 := Nat.le_trans Z0 Kq27.1
  have e27 : T27.heap = T27.heap := rfl
  have cc28 : oQ X27 S0' 11 #[sR a] [.ref w] := st27
  exact oRA X27 Bd cc28 (q 5 rfl) rfl (rfl) rfl e27 ⟨w, kw, rfl, N27, KK1, sq27, Aq27⟩
def Q_own_cp3_3 (Z : State) (t mr : Addr) (kt : ClassId) (mm : Nat) (u0 : Addr) (o0 : Option (List Int32)) (u1 : Addr) (o1 : Option (List Int32)) (u2 : Addr) (o2 : Option (List Int32)) (h0 : Heap) (n0 : Nat) (v : Option Value) (h : Heap) (L : List Loc) : Prop := ∃ (w : Addr) (kw : ClassId), v = some (.ref w) ∧ Fr n0 L ∧ Keep h0 h [] ∧ h0.size ≤ w ∧ Arv Z h w kw (.object "java/lang/Object") (3 : Int32) [(.ref u0), (.ref u1), (.ref u2)] .null
theorem own_cp3_3 (l : Launch) (Z : State) (a0 : Array Value) (hw : oH a0 Z) (t mr : Addr) (kt : ClassId) (mm : Nat) (u0 : Addr) (o0 : Option (List Int32)) (u1 : Addr) (o1 : Option (List Int32)) (u2 : Addr) (o2 : Option (List Int32)) (h0 : Heap) (n0 : Nat) (Z0 : n0 ≤ h0.size) (MM : own_Mir Z "[Ljava/lang/Object;" mr) (At : Arv Z h0 t kt (.object "java/lang/Object") (10 : Int32) [(.ref u0), (.ref u1), (.ref u2)] .null) (P0 : own_P Z h0 mm u0 o0) (P1 : own_P Z h0 mm u1 o1) (P2 : own_P Z h0 mm u2 o2) (hm : mm ≤ h0.size) :
    oC l yM22 (.code yM22 jdk_65_method_120_code 4 (some (.array (.object "java/lang/Object")))) rM20 #[(.ref t), (.int 3), (.ref mr)] Z h0 (Q_own_cp3_3 Z t mr kt mm u0 o0 u1 o1 u2 o2 h0 n0) := by
  refine oO (plainFor_of_name own_pn10) hisR fun p e s m below meth c s₁ S0' Bd hS hx dB hml hown hnm hZ X0 e0 => ?_
  have N0 := Fr.nil n0
  have KK0 := Keep.refl h0 ([] : List Addr)
  have cc0 : oQ X0 S0' 0 #[sR t, sI 3, sR mr, uN] [] := oE hS rfl
  have W := @own_w Z a0 hw
  have q := @dX _ _ c D_22 @dB
  have cc21 : oQ X0 S0' 1 #[sR t, sI 3, sR mr, uN] [.ref mr] := Steps.trans cc0 (by
    refine XS.aloadN X0.here hx rfl (q 0 rfl) rfl rfl ?_
    exact Steps.refl _)
  obtain ⟨vm22, X22, st22⟩ := X0.ldcMirror hx hown (mv hZ (W 353 rfl)) (own_mir hZ MM) (g := (mkF m 1 #[sR t, sI 3, sR mr, uN] [.ref mr])) rfl (q 1 rfl)
  have e22 : (s₁.setVm vm22).heap = h0 := e0
  have cc23 : oQ X22 S0' 7 #[sR t, sI 3, sR mr, uN] [.int 3] := Steps.trans (cc21.trans (st22 _ (Steps.refl _))) (by
    refine XT.acmpNo X22.here hx rfl (q 2 rfl) rfl rfl rfl (aa_ne_f rfl) ?_
    refine XS.iloadN X22.here hx rfl (q 3 rfl) rfl ?_
    exact Steps.refl _)
  obtain ⟨T24, h24, k24, X24, e24, E24, A24, Ex24, O24, st24⟩ := newRE X22 hx hZ hown (W 354 rfl) (W 331 rfl) e22 (g := (mkF m 7 #[sR t, sI 3, sR mr, uN] [.int 3])) rfl (q 4 rfl) rfl (by decide) (cap := 3) (by decide) (by decide) (Nat.le_of_ble_eq_true rfl) (Nat.le_of_ble_eq_true rfl) (ad := "[Ljava/lang/Object;") (by decide)
  obtain ⟨w, g_w⟩ : ∃ z, z = h0.size := ⟨_, rfl⟩
  rw [← g_w] at A24 Ex24 st24
  have K24 := (Keep.refl h0 ([] : List Addr)).ext E24
  have b_w : h0.size ≤ w := (Nat.le_of_eq g_w.symm)
  have gn_w := Nat.le_trans Z0 b_w
  have s0_w := Nat.le_trans KK0.1 b_w
  have ml_w := Nat.le_trans hm b_w
  have ne_t_w := oN At.lt b_w
  have KK1 := KK0.trans K24 all0
  have Zs1 := Nat.le_trans Z0 K24.1
  have Ms1 := Nat.le_trans hm K24.1
  have V_w : Arv Z h24 w k24 (.object "java/lang/Object") (3 : Int32) [.null, .null, .null] .null := (Arv.new A24 (by decide)).pad (pad_rep [] .null 3)
  have cc26 : oQ X24 S0' 30 #[sR t, sI 3, sR mr, sR w] [.ref t, .int 0, .ref w, .int 0, .ref t] := Steps.trans (cc23.trans (st24 _ (Steps.refl _))) (by
    refine XS.goto X24.here hx rfl (pc0 := 10) rfl (q 5 rfl) (by decide) rfl ?_
    refine XS.astoreN X24.here hx rfl (q 6 rfl) rfl rfl rfl ?_
    refine XS.aloadN X24.here hx rfl (q 7 rfl) rfl rfl ?_
    refine iconstV X24.here hx rfl 0 (q 8 rfl) (by decide) ?_
    refine XS.aloadN X24.here hx rfl (q 9 rfl) rfl rfl ?_
    refine iconstV X24.here hx rfl 0 (q 10 rfl) (by decide) ?_
    refine XS.aloadN X24.here hx rfl (q 11 rfl) rfl rfl ?_
    exact Steps.refl _)
  have fa25 := At.keep K24 nin0
  obtain ⟨clu27, Aru27, -, Su27, Ngu27, -, -⟩ := id fa25
  have cl_u27 := X24.arraylength hx (by rw [e24]; exact Aru27.1) (State.isArrayOf_alike (hZ).alike Aru27.2.1) (g := (mkF m 30 #[sR t, sI 3, sR mr, sR w] [.ref t, .int 0, .ref w, .int 0, .ref t])) rfl rfl (q 12 rfl) _ (Steps.refl _)
  rw [len_of Su27 Ngu27] at cl_u27
  have cc28 : oQ X24 S0' 32 #[sR t, sI 3, sR mr, sR w] [.int 3, .int (10 : Int32), .int 0, .ref w, .int 0, .ref t] := Steps.trans (Steps.trans cc26 cl_u27) (by
    refine XS.iloadN X24.here hx rfl (q 13 rfl) rfl ?_
    exact Steps.refl _)
  obtain ⟨_, T29, L29, X29, ⟨rfl, Nq29, eq29⟩, st29⟩ := oCT (y := yM21) X24 cc28 hx hZ hown hml (q 14 rfl) e24 (W 258 rfl) (W 259 rfl) (W 260 rfl) (W 261 rfl) (by decide) [.int (10 : Int32), .int 3] [.int 0, .ref w, .int 0, .ref t] (lenOf own_pd6 rfl) (bO (own_minb l Z a0 hw 10 3 h24 n0 Zs1 (by decide)) hZ (W 261 rfl) (W 260 rfl))
  have N29 := Fr.app N0 Nq29
  obtain ⟨clw, Arw, qw, -, -, -, -⟩ := id V_w
  have cc31 : oQ X29 S0' 35 #[sR t, sI 3, sR mr, sR w] [.int 3, .int 0, .ref w, .int 0, .ref t] := st29
  have fa30 := P2.up K24 all0
  have fa32 := P1.up K24 all0
  have fa33 := P0.up K24 all0
  obtain ⟨T34, h34, L34, X34, e34, N34, K34, V34, st34⟩ := cpA X29 hx hZ hown (W 262 rfl) (W 265 rfl) (W 263 rfl) (W 264 rfl) eq29 fa25 V_w (Or.inr ⟨rfl, rfl, ⟨Sto.ofV Arw qw O24 (own_P.ins hw fa33), ⟨Sto.ofV Arw qw O24 (own_P.ins hw fa32), ⟨Sto.ofV Arw qw O24 (own_P.ins hw fa30), trivial⟩⟩⟩⟩) (by decide) (by decide) (by decide) (us := ([(.ref u0), (.ref u1), (.ref u2)])) (by decide) (by decide) rfl (by decide) N29 gn_w (g := (mkF m 35 #[sR t, sI 3, sR mr, sR w] [.int 3, .int 0, .ref w, .int 0, .ref t])) rfl (by rw [hml]; rfl) rfl (q 15 rfl) (by decide) (W := 0) (by show 2 * 0 + _ ≤ _; exact Nat.le_of_eq rfl) (by decide)
  have KK2 := KK1.trans K34 (allS (Or.inr s0_w) all0)
  have Zs2 := Nat.le_trans Zs1 K34.1
  have Ms2 := Nat.le_trans Ms1 K34.1
  have V34' : Arv Z h34 w k24 (.object "java/lang/Object") (3 : Int32) ([(.ref u0), (.ref u1), (.ref u2)]) .null := own_arv_eq V34 rfl
  have cc35 : oQ X34 S0' 39 #[sR t, sI 3, sR mr, sR w] [.ref w] := Steps.trans (cc31.trans (st34 _ (Steps.refl _))) (by
    refine XS.aloadN X34.here hx rfl (q 16 rfl) rfl rfl ?_
    exact Steps.refl _)
  exact oRA X34 Bd cc35 (q 17 rfl) rfl (rfl) rfl e34 ⟨w, _, rfl, N34, KK2, s0_w, V34'⟩
def Q_own_cp2_3 (Z : State) (t mr : Addr) (kt : ClassId) (mm : Nat) (u0 : Addr) (o0 : Option (List Int32)) (u1 : Addr) (o1 : Option (List Int32)) (u2 : Addr) (o2 : Option (List Int32)) (h0 : Heap) (n0 : Nat) (v : Option Value) (h : Heap) (L : List Loc) : Prop := ∃ (w : Addr) (kw : ClassId), v = some (.ref w) ∧ Fr n0 L ∧ Keep h0 h [] ∧ h0.size ≤ w ∧ Arv Z h w kw (.object "java/lang/Object") (3 : Int32) [(.ref u0), (.ref u1), (.ref u2)] .null
theorem own_cp2_3 (l : Launch) (Z : State) (a0 : Array Value) (hw : oH a0 Z) (t mr : Addr) (kt : ClassId) (mm : Nat) (u0 : Addr) (o0 : Option (List Int32)) (u1 : Addr) (o1 : Option (List Int32)) (u2 : Addr) (o2 : Option (List Int32)) (h0 : Heap) (n0 : Nat) (Z0 : n0 ≤ h0.size) (MM : own_Mir Z "[Ljava/lang/Object;" mr) (Et : zE0 Z h0 t) (At : Arv Z h0 t kt (.object "java/lang/Object") (10 : Int32) [(.ref u0), (.ref u1), (.ref u2)] .null) (P0 : own_P Z h0 mm u0 o0) (P1 : own_P Z h0 mm u1 o1) (P2 : own_P Z h0 mm u2 o2) (hm : mm ≤ h0.size) :
    oC l yM23 (.code yM23 jdk_65_method_119_code 2 (some (.array (.object "java/lang/Object")))) rM21 #[(.ref t), (.int 3)] Z h0 (Q_own_cp2_3 Z t mr kt mm u0 o0 u1 o1 u2 o2 h0 n0) := by
  refine oO (plainFor_of_name own_pn10) hisR fun p e s m below meth c s₁ S0' Bd hS hx dB hml hown hnm hZ X0 e0 => ?_
  have N0 := Fr.nil n0
  have KK0 := Keep.refl h0 ([] : List Addr)
  have cc0 : oQ X0 S0' 0 #[sR t, sI 3] [] := oE hS rfl
  have W := @own_w Z a0 hw
  have q := @dX _ _ c D_23 @dB
  have cc21 : oQ X0 S0' 3 #[sR t, sI 3] [.ref t, .int 3, .ref t] := Steps.trans cc0 (by
    refine XS.aloadN X0.here hx rfl (q 0 rfl) rfl rfl ?_
    refine XS.iloadN X0.here hx rfl (q 1 rfl) rfl ?_
    refine XS.aloadN X0.here hx rfl (q 2 rfl) rfl rfl ?_
    exact Steps.refl _)
  obtain ⟨T22, X22, e22, st22⟩ := own_gcls X0 hx hZ hown (W 344 rfl) (own_sameM (W 346 rfl) (W 347 rfl) rfl (by decide)) (W 347 rfl) (W 346 rfl) (W 348 rfl) e0 Et MM (g := (mkF m 3 #[sR t, sI 3] [.ref t, .int 3, .ref t])) rfl (by rw [hml]; rfl) rfl (q 3 rfl) (by decide) (Nat.le_of_ble_eq_true rfl)
  have cc23 : oQ X22 S0' 6 #[sR t, sI 3] [.ref mr, .int 3, .ref t] := (cc21.trans (st22 _ (Steps.refl _)))
  obtain ⟨_, T24, L24, X24, ⟨w, kw, rfl, Nq24, Kq24, sq24, Aq24⟩, st24⟩ := oCT (y := yM22) X22 cc23 hx hZ hown hml (q 4 rfl) e22 (W 350 rfl) (W 351 rfl) (W 250 rfl) (W 352 rfl) (by decide) [.ref t, .int 3, .ref mr] [] (lenOf own_pd10 rfl) (bO (own_cp3_3 l Z a0 hw t mr kt mm u0 o0 u1 o1 u2 o2 h0 n0 Z0 MM At P0 P1 P2 hm) hZ (W 352 rfl) (W 250 rfl))
  have N24 := Fr.app N0 Nq24
  have KK1 := KK0.trans Kq24 all0
  have Zs1 := Nat.le_trans Z0 Kq24.1
  have e24 : T24.heap = T24.heap := rfl
  have cc25 : oQ X24 S0' 9 #[sR t, sI 3] [.ref w] := st24
  exact oRA X24 Bd cc25 (q 5 rfl) rfl (rfl) rfl e24 ⟨w, kw, rfl, N24, KK1, sq24, Aq24⟩
def Q_own_toa3 (Z : State) (a t mr : Addr) (kt : ClassId) (mm : Nat) (u0 : Addr) (o0 : Option (List Int32)) (u1 : Addr) (o1 : Option (List Int32)) (u2 : Addr) (o2 : Option (List Int32)) (h0 : Heap) (n0 : Nat) (v : Option Value) (h : Heap) (L : List Loc) : Prop := ∃ (w : Addr) (kw : ClassId), v = some (.ref w) ∧ Fr n0 L ∧ Keep h0 h [] ∧ h0.size ≤ w ∧ Arv Z h w kw (.object "java/lang/Object") (3 : Int32) [(.ref u0), (.ref u1), (.ref u2)] .null
theorem own_toa3 (l : Launch) (Z : State) (a0 : Array Value) (hw : oH a0 Z) (a t mr : Addr) (kt : ClassId) (mm : Nat) (u0 : Addr) (o0 : Option (List Int32)) (u1 : Addr) (o1 : Option (List Int32)) (u2 : Addr) (o2 : Option (List Int32)) (h0 : Heap) (n0 : Nat) (Z0 : n0 ≤ h0.size) (MM : own_Mir Z "[Ljava/lang/Object;" mr) (F2 : zF0 Z h0 a (.int (3 : Int32))) (F3 : zF1 Z h0 a (.ref t)) (Et : zE0 Z h0 t) (At : Arv Z h0 t kt (.object "java/lang/Object") (10 : Int32) [(.ref u0), (.ref u1), (.ref u2)] .null) (P0 : own_P Z h0 mm u0 o0) (P1 : own_P Z h0 mm u1 o1) (P2 : own_P Z h0 mm u2 o2) (hm : mm ≤ h0.size) :
    oC l yM24 (.code yM24 jdk_38_method_16_code 1 (some (.array (.object "java/lang/Object")))) rM22 #[(.ref a)] Z h0 (Q_own_toa3 Z a t mr kt mm u0 o0 u1 o1 u2 o2 h0 n0) := by
  refine oO (plainFor_of_name own_pn9) hisR fun p e s m below meth c s₁ S0' Bd hS hx dB hml hown hnm hZ X0 e0 => ?_
  have N0 := Fr.nil n0
  have KK0 := Keep.refl h0 ([] : List Addr)
  have cc0 : oQ X0 S0' 0 #[sR a] [] := oE hS rfl
  have W := @own_w Z a0 hw
  have q := @dX _ _ c D_24 @dB
  have cc21 : oQ X0 S0' 1 #[sR a] [.ref a] := Steps.trans cc0 (by
    refine XS.aloadN X0.here hx rfl (q 0 rfl) rfl rfl ?_
    exact Steps.refl _)
  obtain ⟨T22, X22, e22, st22⟩ := oGF X0 cc21 hx hZ hown (W 104 rfl) Via.refl e0 F3 (q 1 rfl)
  have cc23 : oQ X22 S0' 5 #[sR a] [.ref a, .ref t] := Steps.trans st22 (by
    refine XS.aloadN X22.here hx rfl (q 2 rfl) rfl rfl ?_
    exact Steps.refl _)
  obtain ⟨T24, X24, e24, st24⟩ := oGF X22 cc23 hx hZ hown (W 136 rfl) Via.refl e22 F2 (q 3 rfl)
  have cc25 : oQ X24 S0' 8 #[sR a] [.int (3 : Int32), .ref t] := st24
  have cz26 : oQ X24 S0' 8 #[sR a] [.int 3, .ref t] := cc25
  obtain ⟨_, T27, L27, X27, ⟨w, kw, rfl, Nq27, Kq27, sq27, Aq27⟩, st27⟩ := oCT (y := yM23) X24 cz26 hx hZ hown hml (q 4 rfl) e24 (W 341 rfl) (W 342 rfl) (W 250 rfl) (W 343 rfl) (by decide) [.ref t, .int 3] [] (lenOf own_pd11 rfl) (bO (own_cp2_3 l Z a0 hw t mr kt mm u0 o0 u1 o1 u2 o2 h0 n0 Z0 MM Et At P0 P1 P2 hm) hZ (W 343 rfl) (W 250 rfl))
  have N27 := Fr.app N0 Nq27
  have KK1 := KK0.trans Kq27 all0
  have Zs1 := Nat.le_trans Z0 Kq27.1
  have e27 : T27.heap = T27.heap := rfl
  have cc28 : oQ X27 S0' 11 #[sR a] [.ref w] := st27
  exact oRA X27 Bd cc28 (q 5 rfl) rfl (rfl) rfl e27 ⟨w, kw, rfl, N27, KK1, sq27, Aq27⟩
def Q_own_ale (Z : State) (a : Addr) (n : Int32) (h0 : Heap) (n0 : Nat) (v : Option Value) (h : Heap) (L : List Loc) : Prop := v = some (.int 0) ∧ Fr n0 L ∧ h = h0
theorem own_ale (l : Launch) (Z : State) (a0 : Array Value) (hw : oH a0 Z) (a : Addr) (n : Int32) (h0 : Heap) (n0 : Nat) (Z0 : n0 ≤ h0.size) (F2 : zF0 Z h0 a (.int n)) (hn : ¬ n = 0) :
    oC l yM25 (.code yM25 jdk_38_method_9_code 1 (some .boolean)) rM1 #[(.ref a)] Z h0 (Q_own_ale Z a n h0 n0) := by
  refine oO (plainFor_of_name own_pn9) hisR fun p e s m below meth c s₁ S0' Bd hS hx dB hml hown hnm hZ X0 e0 => ?_
  have N0 := Fr.nil n0
  have KK0 := Keep.refl h0 ([] : List Addr)
  have cc0 : oQ X0 S0' 0 #[sR a] [] := oE hS rfl
  have W := @own_w Z a0 hw
  have q := @dX _ _ c D_25 @dB
  have cc21 : oQ X0 S0' 1 #[sR a] [.ref a] := Steps.trans cc0 (by
    refine XS.aloadN X0.here hx rfl (q 0 rfl) rfl rfl ?_
    exact Steps.refl _)
  obtain ⟨T22, X22, e22, st22⟩ := oGF X0 cc21 hx hZ hown (W 136 rfl) Via.refl e0 F2 (q 1 rfl)
  have cc23 : oQ X22 S0' 12 #[sR a] [.int 0] := Steps.trans st22 (by
    refine XS.ifYes X22.here hx rfl (pc0 := 4) rfl (q 2 rfl) rfl (i0_ne_t hn) (by decide) rfl ?_
    refine iconstV X22.here hx rfl 0 (q 3 rfl) (by decide) ?_
    exact Steps.refl _)
  exact oRI X22 Bd cc23 (q 4 rfl) rfl (rfl) (by simp) e22 ⟨rfl, N0, rfl⟩
def Q_own_ale0 (Z : State) (a : Addr) (h0 : Heap) (n0 : Nat) (v : Option Value) (h : Heap) (L : List Loc) : Prop := v = some (.int 1) ∧ Fr n0 L ∧ h = h0
theorem own_ale0 (l : Launch) (Z : State) (a0 : Array Value) (hw : oH a0 Z) (a : Addr) (h0 : Heap) (n0 : Nat) (Z0 : n0 ≤ h0.size) (F2 : zF0 Z h0 a (.int (0 : Int32))) :
    oC l yM25 (.code yM25 jdk_38_method_9_code 1 (some .boolean)) rM1 #[(.ref a)] Z h0 (Q_own_ale0 Z a h0 n0) := by
  refine oO (plainFor_of_name own_pn9) hisR fun p e s m below meth c s₁ S0' Bd hS hx dB hml hown hnm hZ X0 e0 => ?_
  have N0 := Fr.nil n0
  have KK0 := Keep.refl h0 ([] : List Addr)
  have cc0 : oQ X0 S0' 0 #[sR a] [] := oE hS rfl
  have W := @own_w Z a0 hw
  have q := @dX _ _ c D_25 @dB
  have cc21 : oQ X0 S0' 1 #[sR a] [.ref a] := Steps.trans cc0 (by
    refine XS.aloadN X0.here hx rfl (q 0 rfl) rfl rfl ?_
    exact Steps.refl _)
  obtain ⟨T22, X22, e22, st22⟩ := oGF X0 cc21 hx hZ hown (W 136 rfl) Via.refl e0 F2 (q 1 rfl)
  have cc23 : oQ X22 S0' 12 #[sR a] [.int 1] := Steps.trans st22 (by
    refine XS.ifNo X22.here hx rfl (q 2 rfl) rfl (i0_ne_f rfl) ?_
    refine iconstV X22.here hx rfl 1 (q 5 rfl) (by decide) ?_
    refine XS.goto X22.here hx rfl (pc0 := 8) rfl (q 6 rfl) (by decide) rfl ?_
    exact Steps.refl _)
  exact oRI X22 Bd cc23 (q 4 rfl) rfl (rfl) (by simp) e22 ⟨rfl, N0, rfl⟩
def Q_own_aici (Z : State) (a : Addr) (h0 : Heap) (n0 : Nat) (v : Option Value) (h : Heap) (L : List Loc) : Prop := v = none ∧ Fr n0 L ∧ h = h0
theorem own_aici (l : Launch) (Z : State) (a0 : Array Value) (hw : oH a0 Z) (a : Addr) (h0 : Heap) (n0 : Nat) (Z0 : n0 ≤ h0.size)  :
    oC l yM26 (.code yM26 jdk_47_method_1_code 1 none) rM6 #[(.ref a)] Z h0 (Q_own_aici Z a h0 n0) := by
  refine oO (plainFor_of_name own_pn11) hisR fun p e s m below meth c s₁ S0' Bd hS hx dB hml hown hnm hZ X0 e0 => ?_
  have N0 := Fr.nil n0
  have KK0 := Keep.refl h0 ([] : List Addr)
  have cc0 : oQ X0 S0' 0 #[sR a] [] := oE hS rfl
  have W := @own_w Z a0 hw
  have q := @dX _ _ c D_26 @dB
  have cc21 : oQ X0 S0' 1 #[sR a] [.ref a] := Steps.trans cc0 (by
    refine XS.aloadN X0.here hx rfl (q 0 rfl) rfl rfl ?_
    exact Steps.refl _)
  obtain ⟨_, T22, L22, X22, ⟨rfl, Nq22, eq22⟩, st22⟩ := oCN (y := yM13) X0 cc21 hx hZ hown hml (q 1 rfl) e0 a rfl (W 379 rfl) (W 95 rfl) (W 99 rfl) (by decide) [] [] (lenOf own_pd4 rfl) (bO (own_aci l Z a0 hw a h0 n0 Z0 ) hZ (W 99 rfl) (W 98 rfl))
  have N22 := Fr.app N0 Nq22
  have cc23 : oQ X22 S0' 4 #[sR a] [] := st22
  exact oRV X22 Bd cc23 (q 2 rfl) rfl eq22 ⟨rfl, N22, rfl⟩
def Q_own_aili (Z : State) (a : Addr) (h0 : Heap) (n0 : Nat) (v : Option Value) (h : Heap) (L : List Loc) : Prop := v = none ∧ Fr n0 L ∧ h = h0
theorem own_aili (l : Launch) (Z : State) (a0 : Array Value) (hw : oH a0 Z) (a : Addr) (h0 : Heap) (n0 : Nat) (Z0 : n0 ≤ h0.size)  :
    oC l yM27 (.code yM27 jdk_46_method_1_code 1 none) rM8 #[(.ref a)] Z h0 (Q_own_aili Z a h0 n0) := by
  refine oO (plainFor_of_name own_pn12) hisR fun p e s m below meth c s₁ S0' Bd hS hx dB hml hown hnm hZ X0 e0 => ?_
  have N0 := Fr.nil n0
  have KK0 := Keep.refl h0 ([] : List Addr)
  have cc0 : oQ X0 S0' 0 #[sR a] [] := oE hS rfl
  have W := @own_w Z a0 hw
  have q := @dX _ _ c D_27 @dB
  have cc21 : oQ X0 S0' 1 #[sR a] [.ref a] := Steps.trans cc0 (by
    refine XS.aloadN X0.here hx rfl (q 0 rfl) rfl rfl ?_
    exact Steps.refl _)
  obtain ⟨_, T22, L22, X22, ⟨rfl, Nq22, eq22⟩, st22⟩ := oCN (y := yM26) X0 cc21 hx hZ hown hml (q 1 rfl) e0 a rfl (W 373 rfl) (W 374 rfl) (W 378 rfl) (by decide) [] [] (lenOf own_pd4 rfl) (bO (own_aici l Z a0 hw a h0 n0 Z0 ) hZ (W 378 rfl) (W 377 rfl))
  have N22 := Fr.app N0 Nq22
  have cc23 : oQ X22 S0' 4 #[sR a] [] := st22
  exact oRV X22 Bd cc23 (q 2 rfl) rfl eq22 ⟨rfl, N22, rfl⟩
def Q_own_lni (Z : State) (a w : Addr) (h0 : Heap) (n0 : Nat) (v : Option Value) (h : Heap) (L : List Loc) : Prop := v = none ∧ Fr n0 L ∧ Keep h0 h [a] ∧ zF8 Z h a (.ref w)
theorem own_lni (l : Launch) (Z : State) (a0 : Array Value) (hw : oH a0 Z) (a w : Addr) (h0 : Heap) (n0 : Nat) (Z0 : n0 ≤ h0.size) (E : zE3 Z h0 a) (F1 : zF8 Z h0 a .null) (F2 : Fld Z h0 a "java/util/ImmutableCollections$ListN" "allowNulls" "Z" (.int (0 : Int32))) (ga : n0 ≤ a) :
    oC l yM28 (.code yM28 jdk_45_method_1_code 3 none) rM23 #[(.ref a), (.ref w), (.int 0)] Z h0 (Q_own_lni Z a w h0 n0) := by
  refine oO (plainFor_of_name own_pn13) hisR fun p e s m below meth c s₁ S0' Bd hS hx dB hml hown hnm hZ X0 e0 => ?_
  have N0 := Fr.nil n0
  have KK0 := Keep.refl h0 [a]
  have cc0 : oQ X0 S0' 0 #[sR a, sR w, sI 0] [] := oE hS rfl
  have W := @own_w Z a0 hw
  have q := @dX _ _ c D_28 @dB
  have cc21 : oQ X0 S0' 1 #[sR a, sR w, sI 0] [.ref a] := Steps.trans cc0 (by
    refine XS.aloadN X0.here hx rfl (q 0 rfl) rfl rfl ?_
    exact Steps.refl _)
  obtain ⟨_, T22, L22, X22, ⟨rfl, Nq22, eq22⟩, st22⟩ := oCN (y := yM27) X0 cc21 hx hZ hown hml (q 1 rfl) e0 a rfl (W 368 rfl) (W 369 rfl) (W 372 rfl) (by decide) [] [] (lenOf own_pd4 rfl) (bO (own_aili l Z a0 hw a h0 n0 Z0 ) hZ (W 372 rfl) (W 179 rfl))
  have N22 := Fr.app N0 Nq22
  have cc23 : oQ X22 S0' 6 #[sR a, sR w, sI 0] [.ref w, .ref a] := Steps.trans st22 (by
    refine XS.aloadN X22.here hx rfl (q 2 rfl) rfl rfl ?_
    refine XS.aloadN X22.here hx rfl (q 3 rfl) rfl rfl ?_
    exact Steps.refl _)
  obtain ⟨T24, h24, X24, e24, W24, st24⟩ := oPF X22 cc23 hx hZ hown (W 191 rfl) Via.refl eq22 F1 E (Or.inr ⟨(W 192 rfl), rfl, hnm⟩) (W 363 rfl) (ty := (.array (.object "java/lang/Object"))) (by decide) rfl rfl (q 4 rfl)
  have K24 := Keep.of_wr W24
  have N24 := Fr.snoc X24 N22 ga
  have KK1 := KK0.trans K24 (allS (Or.inl (lM 0 rfl)) all0)
  have Zs1 := Nat.le_trans Z0 K24.1
  have cc26 : oQ X24 S0' 11 #[sR a, sR w, sI 0] [.int 0, .ref a] := Steps.trans st24 (by
    refine XS.aloadN X24.here hx rfl (q 5 rfl) rfl rfl ?_
    refine XS.iloadN X24.here hx rfl (q 6 rfl) rfl ?_
    exact Steps.refl _)
  have fa25 := F2.other W24 (Or.inr (slot_ne (Or.inr (W 382 rfl)) (Or.inr (W 192 rfl)) (by decide) (t := .boolean) (t' := (.array (.object "java/lang/Object"))) (by decide) (by decide)))
  have fa27 := E.keep K24
  obtain ⟨T28, h28, X28, e28, W28, st28⟩ := oPF X24 cc26 hx hZ hown (W 381 rfl) Via.refl e24 fa25 fa27 (Or.inr ⟨(W 382 rfl), rfl, hnm⟩) (W 363 rfl) (ty := .boolean) (v := (.int 0)) (v' := (.int (0 : Int32))) (by decide) rfl rfl (q 7 rfl)
  have K28 := Keep.of_wr W28
  have N28 := Fr.snoc X28 N24 ga
  have KK2 := KK1.trans K28 (allS (Or.inl (lM 0 rfl)) all0)
  have Zs2 := Nat.le_trans Zs1 K28.1
  have cc30 : oQ X28 S0' 14 #[sR a, sR w, sI 0] [] := st28
  have fa29 := (Fld.same W24 F1).other W28 (Or.inr (slot_ne (Or.inr (W 192 rfl)) (Or.inr (W 382 rfl)) (by decide) (t := (.array (.object "java/lang/Object"))) (t' := .boolean) (by decide) (by decide)))
  exact oRV X28 Bd cc30 (q 8 rfl) rfl e28 ⟨rfl, N28, KK2, fa29⟩
def Q_own_12i1 (Z : State) (a u0 em : Addr) (h0 : Heap) (n0 : Nat) (v : Option Value) (h : Heap) (L : List Loc) : Prop := v = none ∧ Fr n0 L ∧ Keep h0 h [a] ∧ zF3 Z h a (.ref u0) ∧ zF4 Z h a (.ref em)
theorem own_12i1 (l : Launch) (Z : State) (a0 : Array Value) (hw : oH a0 Z) (a u0 em : Addr) (h0 : Heap) (n0 : Nat) (Z0 : n0 ≤ h0.size) (X00 : Old Z n0 h0) (E : zE2 Z h0 a) (F1 : zF3 Z h0 a .null) (F2 : zF4 Z h0 a .null) (ga : n0 ≤ a) (OE : Sta Z Z.heap "java/util/ImmutableCollections" "EMPTY" "Ljava/lang/Object;" (.ref em)) :
    oC l yM29 (.code yM29 jdk_44_method_1_code 2 none) rM23 #[(.ref a), (.ref u0)] Z h0 (Q_own_12i1 Z a u0 em h0 n0) := by
  refine oO (plainFor_of_name own_pn14) hisR fun p e s m below meth c s₁ S0' Bd hS hx dB hml hown hnm hZ X0 e0 => ?_
  have N0 := Fr.nil n0
  have KK0 := Keep.refl h0 [a]
  have cc0 : oQ X0 S0' 0 #[sR a, sR u0] [] := oE hS rfl
  have W := @own_w Z a0 hw
  have q := @dX _ _ c D_29 @dB
  have cc21 : oQ X0 S0' 1 #[sR a, sR u0] [.ref a] := Steps.trans cc0 (by
    refine XS.aloadN X0.here hx rfl (q 0 rfl) rfl rfl ?_
    exact Steps.refl _)
  obtain ⟨_, T22, L22, X22, ⟨rfl, Nq22, eq22⟩, st22⟩ := oCN (y := yM27) X0 cc21 hx hZ hown hml (q 1 rfl) e0 a rfl (W 468 rfl) (W 369 rfl) (W 372 rfl) (by decide) [] [] (lenOf own_pd4 rfl) (bO (own_aili l Z a0 hw a h0 n0 Z0 ) hZ (W 372 rfl) (W 179 rfl))
  have N22 := Fr.app N0 Nq22
  have cc23 : oQ X22 S0' 6 #[sR a, sR u0] [.ref u0, .ref a] := Steps.trans st22 (by
    refine XS.aloadN X22.here hx rfl (q 2 rfl) rfl rfl ?_
    refine XS.aloadN X22.here hx rfl (q 3 rfl) rfl rfl ?_
    exact Steps.refl _)
  obtain ⟨_, T24, L24, X24, ⟨rfl, Nq24, eq24⟩, st24⟩ := oCT (y := yM2) X22 cc23 hx hZ hown hml (q 4 rfl) eq22 (W 472 rfl) (W 273 rfl) (W 67 rfl) (W 274 rfl) (by decide) [.ref u0] [.ref a] (lenOf own_pd12 rfl) (bO (own_nn1 l Z a0 hw u0 h0 n0 Z0 ) hZ (W 274 rfl) (W 67 rfl))
  have N24 := Fr.app N22 Nq24
  have cc25 : oQ X24 S0' 9 #[sR a, sR u0] [.ref u0, .ref a] := st24
  obtain ⟨T26, h26, X26, e26, W26, st26⟩ := oPF X24 cc25 hx hZ hown (W 473 rfl) Via.refl eq24 F1 E (Or.inr ⟨(W 474 rfl), rfl, hnm⟩) (W 462 rfl) (ty := (.object "java/lang/Object")) (by decide) rfl rfl (q 5 rfl)
  have K26 := Keep.of_wr W26
  have N26 := Fr.snoc X26 N24 ga
  have KK1 := KK0.trans K26 (allS (Or.inl (lM 0 rfl)) all0)
  have Zs1 := Nat.le_trans Z0 K26.1
  have cc28 : oQ X26 S0' 13 #[sR a, sR u0] [.ref a] := Steps.trans st26 (by
    refine XS.aloadN X26.here hx rfl (q 6 rfl) rfl rfl ?_
    exact Steps.refl _)
  have fa27 := X00.keep K26 (allS ga all0)
  obtain ⟨T29, X29, e29, st29⟩ := oGS X26 cc28 hx hZ hown (host := "java/util/ImmutableCollections") (Or.inr (W 483 rfl)) Via.refl e26 (OE.ext fa27.2) (q 7 rfl)
  have cc31 : oQ X29 S0' 16 #[sR a, sR u0] [.ref em, .ref a] := st29
  have fa30 := F2.other W26 (Or.inr (slot_ne (Or.inr (W 476 rfl)) (Or.inr (W 474 rfl)) (by decide) (t := (.object "java/lang/Object")) (t' := (.object "java/lang/Object")) (by decide) (by decide)))
  have fa32 := E.keep K26
  obtain ⟨T33, h33, X33, e33, W33, st33⟩ := oPF X29 cc31 hx hZ hown (W 475 rfl) Via.refl e29 fa30 fa32 (Or.inr ⟨(W 476 rfl), rfl, hnm⟩) (W 462 rfl) (ty := (.object "java/lang/Object")) (by decide) rfl rfl (q 8 rfl)
  have K33 := Keep.of_wr W33
  have N33 := Fr.snoc X33 N26 ga
  have KK2 := KK1.trans K33 (allS (Or.inl (lM 0 rfl)) all0)
  have Zs2 := Nat.le_trans Zs1 K33.1
  have cc35 : oQ X33 S0' 19 #[sR a, sR u0] [] := st33
  have fa34 := (Fld.same W26 F1).other W33 (Or.inr (slot_ne (Or.inr (W 474 rfl)) (Or.inr (W 476 rfl)) (by decide) (t := (.object "java/lang/Object")) (t' := (.object "java/lang/Object")) (by decide) (by decide)))
  exact oRV X33 Bd cc35 (q 9 rfl) rfl e33 ⟨rfl, N33, KK2, fa34, (Fld.same W33 fa30)⟩
def Q_own_12i2 (Z : State) (a u0 u1 : Addr) (h0 : Heap) (n0 : Nat) (v : Option Value) (h : Heap) (L : List Loc) : Prop := v = none ∧ Fr n0 L ∧ Keep h0 h [a] ∧ zF3 Z h a (.ref u0) ∧ zF4 Z h a (.ref u1)
theorem own_12i2 (l : Launch) (Z : State) (a0 : Array Value) (hw : oH a0 Z) (a u0 u1 : Addr) (h0 : Heap) (n0 : Nat) (Z0 : n0 ≤ h0.size) (E : zE2 Z h0 a) (F1 : zF3 Z h0 a .null) (F2 : zF4 Z h0 a .null) (ga : n0 ≤ a) :
    oC l yM30 (.code yM30 jdk_44_method_2_code 3 none) rM23 #[(.ref a), (.ref u0), (.ref u1)] Z h0 (Q_own_12i2 Z a u0 u1 h0 n0) := by
  refine oO (plainFor_of_name own_pn14) hisR fun p e s m below meth c s₁ S0' Bd hS hx dB hml hown hnm hZ X0 e0 => ?_
  have N0 := Fr.nil n0
  have KK0 := Keep.refl h0 [a]
  have cc0 : oQ X0 S0' 0 #[sR a, sR u0, sR u1] [] := oE hS rfl
  have W := @own_w Z a0 hw
  have q := @dX _ _ c D_30 @dB
  have w_67 := W 67 rfl
  have w_274 := W 274 rfl
  have cc21 : oQ X0 S0' 1 #[sR a, sR u0, sR u1] [.ref a] := Steps.trans cc0 (by
    refine XS.aloadN X0.here hx rfl (q 0 rfl) rfl rfl ?_
    exact Steps.refl _)
  obtain ⟨_, T22, L22, X22, ⟨rfl, Nq22, eq22⟩, st22⟩ := oCN (y := yM27) X0 cc21 hx hZ hown hml (q 1 rfl) e0 a rfl (W 468 rfl) (W 369 rfl) (W 372 rfl) (by decide) [] [] (lenOf own_pd4 rfl) (bO (own_aili l Z a0 hw a h0 n0 Z0 ) hZ (W 372 rfl) (W 179 rfl))
  have N22 := Fr.app N0 Nq22
  have cc23 : oQ X22 S0' 6 #[sR a, sR u0, sR u1] [.ref u0, .ref a] := Steps.trans st22 (by
    refine XS.aloadN X22.here hx rfl (q 2 rfl) rfl rfl ?_
    refine XS.aloadN X22.here hx rfl (q 3 rfl) rfl rfl ?_
    exact Steps.refl _)
  obtain ⟨_, T24, L24, X24, ⟨rfl, Nq24, eq24⟩, st24⟩ := oCT (y := yM2) X22 cc23 hx hZ hown hml (q 4 rfl) eq22 (W 472 rfl) (W 273 rfl) w_67 w_274 (by decide) [.ref u0] [.ref a] (lenOf own_pd12 rfl) (bO (own_nn1 l Z a0 hw u0 h0 n0 Z0 ) hZ w_274 w_67)
  have N24 := Fr.app N22 Nq24
  have cc25 : oQ X24 S0' 9 #[sR a, sR u0, sR u1] [.ref u0, .ref a] := st24
  obtain ⟨T26, h26, X26, e26, W26, st26⟩ := oPF X24 cc25 hx hZ hown (W 473 rfl) Via.refl eq24 F1 E (Or.inr ⟨(W 474 rfl), rfl, hnm⟩) (W 462 rfl) (ty := (.object "java/lang/Object")) (by decide) rfl rfl (q 5 rfl)
  have K26 := Keep.of_wr W26
  have N26 := Fr.snoc X26 N24 ga
  have KK1 := KK0.trans K26 (allS (Or.inl (lM 0 rfl)) all0)
  have Zs1 := Nat.le_trans Z0 K26.1
  have cc27 : oQ X26 S0' 14 #[sR a, sR u0, sR u1] [.ref u1, .ref a] := Steps.trans st26 (by
    refine XS.aloadN X26.here hx rfl (q 6 rfl) rfl rfl ?_
    refine XS.aloadN X26.here hx rfl (q 7 rfl) rfl rfl ?_
    exact Steps.refl _)
  obtain ⟨_, T28, L28, X28, ⟨rfl, Nq28, eq28⟩, st28⟩ := oCT (y := yM2) X26 cc27 hx hZ hown hml (q 8 rfl) e26 (W 472 rfl) (W 273 rfl) w_67 w_274 (by decide) [.ref u1] [.ref a] (lenOf own_pd12 rfl) (bO (own_nn1 l Z a0 hw u1 h26 n0 Zs1 ) hZ w_274 w_67)
  have N28 := Fr.app N26 Nq28
  have cc30 : oQ X28 S0' 17 #[sR a, sR u0, sR u1] [.ref u1, .ref a] := st28
  have fa29 := F2.other W26 (Or.inr (slot_ne (Or.inr (W 476 rfl)) (Or.inr (W 474 rfl)) (by decide) (t := (.object "java/lang/Object")) (t' := (.object "java/lang/Object")) (by decide) (by decide)))
  have fa31 := E.keep K26
  obtain ⟨T32, h32, X32, e32, W32, st32⟩ := oPF X28 cc30 hx hZ hown (W 475 rfl) Via.refl eq28 fa29 fa31 (Or.inr ⟨(W 476 rfl), rfl, hnm⟩) (W 462 rfl) (ty := (.object "java/lang/Object")) (by decide) rfl rfl (q 9 rfl)
  have K32 := Keep.of_wr W32
  have N32 := Fr.snoc X32 N28 ga
  have KK2 := KK1.trans K32 (allS (Or.inl (lM 0 rfl)) all0)
  have Zs2 := Nat.le_trans Zs1 K32.1
  have cc34 : oQ X32 S0' 20 #[sR a, sR u0, sR u1] [] := st32
  have fa33 := (Fld.same W26 F1).other W32 (Or.inr (slot_ne (Or.inr (W 474 rfl)) (Or.inr (W 476 rfl)) (by decide) (t := (.object "java/lang/Object")) (t' := (.object "java/lang/Object")) (by decide) (by decide)))
  exact oRV X32 Bd cc34 (q 10 rfl) rfl e32 ⟨rfl, N32, KK2, fa33, (Fld.same W32 fa29)⟩
def Q_own_lfa (Z : State) (w : Addr) (kw : ClassId) (mm : Nat) (u0 : Addr) (o0 : Option (List Int32)) (u1 : Addr) (o1 : Option (List Int32)) (u2 : Addr) (o2 : Option (List Int32)) (h0 : Heap) (n0 : Nat) (v : Option Value) (h : Heap) (L : List Loc) : Prop := ∃ (a : Addr) (g : Addr) (kg : ClassId), v = some (.ref a) ∧ Fr n0 L ∧ Keep h0 h [] ∧ h0.size ≤ a ∧ h0.size ≤ g ∧ zE3 Z h a ∧ zF8 Z h a (.ref g) ∧ Arv Z h g kg (.object "java/lang/Object") (3 : Int32) [(.ref u0), (.ref u1), (.ref u2)] .null
theorem own_lfa (l : Launch) (Z : State) (a0 : Array Value) (hw : oH a0 Z) (w : Addr) (kw : ClassId) (mm : Nat) (u0 : Addr) (o0 : Option (List Int32)) (u1 : Addr) (o1 : Option (List Int32)) (u2 : Addr) (o2 : Option (List Int32)) (h0 : Heap) (n0 : Nat) (Z0 : n0 ≤ h0.size) (Aw : Arv Z h0 w kw (.object "java/lang/Object") (3 : Int32) [(.ref u0), (.ref u1), (.ref u2)] .null) (P0 : own_P Z h0 mm u0 o0) (P1 : own_P Z h0 mm u1 o1) (P2 : own_P Z h0 mm u2 o2) (hm : mm ≤ h0.size) :
    oC l yM31 (.code yM31 jdk_56_method_4_code 3 (some (.object "java/util/List"))) rM24 #[(.ref w)] Z h0 (Q_own_lfa Z w kw mm u0 o0 u1 o1 u2 o2 h0 n0) := by
  refine oO (plainFor_of_name own_pn15) hisR fun p e s m below meth c s₁ S0' Bd hS hx dB hml hown hnm hZ X0 e0 => ?_
  have N0 := Fr.nil n0
  have KK0 := Keep.refl h0 ([] : List Addr)
  have cc0 : oQ X0 S0' 0 #[sR w, uN, uN] [] := oE hS rfl
  have W := @own_w Z a0 hw
  have q := @dX _ _ c D_31 @dB
  have w_67 := W 67 rfl
  have w_274 := W 274 rfl
  have cc21 : oQ X0 S0' 1 #[sR w, uN, uN] [.ref w] := Steps.trans cc0 (by
    refine XS.aloadN X0.here hx rfl (q 0 rfl) rfl rfl ?_
    exact Steps.refl _)
  obtain ⟨clu22, Aru22, -, Su22, Ngu22, -, -⟩ := id Aw
  have cl_u22 := X0.arraylength hx (by rw [e0]; exact Aru22.1) (State.isArrayOf_alike (hZ).alike Aru22.2.1) (g := (mkF m 1 #[sR w, uN, uN] [.ref w])) rfl rfl (q 1 rfl) _ (Steps.refl _)
  rw [len_of Su22 Ngu22] at cl_u22
  have cc23 : oQ X0 S0' 2 #[sR w, uN, uN] [.int (3 : Int32)] := (Steps.trans cc21 cl_u22)
  obtain ⟨T24, h24, k24, X24, e24, E24, A24, Ex24, O24, st24⟩ := newRE X0 hx hZ hown (W 361 rfl) (W 331 rfl) e0 (g := (mkF m 2 #[sR w, uN, uN] [.int (3 : Int32)])) rfl (q 2 rfl) rfl (by decide) (cap := 3) (by decide) (by decide) (Nat.le_of_ble_eq_true rfl) (Nat.le_of_ble_eq_true rfl) (ad := "[Ljava/lang/Object;") (by decide)
  obtain ⟨g, g_g⟩ : ∃ z, z = h0.size := ⟨_, rfl⟩
  rw [← g_g] at A24 Ex24 st24
  have K24 := (Keep.refl h0 ([] : List Addr)).ext E24
  have b_g : h0.size ≤ g := (Nat.le_of_eq g_g.symm)
  have gn_g := Nat.le_trans Z0 b_g
  have s0_g := Nat.le_trans KK0.1 b_g
  have ml_g := Nat.le_trans hm b_g
  have ne_w_g := oN Aw.lt b_g
  have KK1 := KK0.trans K24 all0
  have Zs1 := Nat.le_trans Z0 K24.1
  have Ms1 := Nat.le_trans hm K24.1
  have V_g : Arv Z h24 g k24 (.object "java/lang/Object") (3 : Int32) [.null, .null, .null] .null := (Arv.new A24 (by decide)).pad (pad_rep [] .null 3)
  have cc26 : oQ X24 S0' 10 #[sR w, sR g, sI 0] [.ref w, .int 0] := Steps.trans (cc23.trans (st24 _ (Steps.refl _))) (by
    refine XS.astoreN X24.here hx rfl (q 3 rfl) rfl rfl rfl ?_
    refine iconstV X24.here hx rfl 0 (q 4 rfl) (by decide) ?_
    refine XS.istoreN X24.here hx rfl (q 5 rfl) rfl rfl ?_
    refine XS.iloadN X24.here hx rfl (q 6 rfl) rfl ?_
    refine XS.aloadN X24.here hx rfl (q 7 rfl) rfl rfl ?_
    exact Steps.refl _)
  have fa25 := Aw.keep K24 nin0
  obtain ⟨clu27, Aru27, -, Su27, Ngu27, -, -⟩ := id fa25
  have cl_u27 := X24.arraylength hx (by rw [e24]; exact Aru27.1) (State.isArrayOf_alike (hZ).alike Aru27.2.1) (g := (mkF m 10 #[sR w, sR g, sI 0] [.ref w, .int 0])) rfl rfl (q 8 rfl) _ (Steps.refl _)
  rw [len_of Su27 Ngu27] at cl_u27
  have cc28 : oQ X24 S0' 18 #[sR w, sR g, sI 0] [.int 0, .ref w, .int 0, .ref g] := Steps.trans (Steps.trans cc26 cl_u27) (by
    refine XS.icmpNo X24.here hx rfl (q 9 rfl) rfl (ii_ge_f (by decide)) ?_
    refine XS.aloadN X24.here hx rfl (q 10 rfl) rfl rfl ?_
    refine XS.iloadN X24.here hx rfl (q 11 rfl) rfl ?_
    refine XS.aloadN X24.here hx rfl (q 12 rfl) rfl rfl ?_
    refine XS.iloadN X24.here hx rfl (q 13 rfl) rfl ?_
    exact Steps.refl _)
  obtain ⟨clu29, Aru29, qu29, Su29, Ngu29, Hsu29, Gsu29⟩ := id fa25
  have inu29 : ¬ ((0 : Int32) < 0 ∨ clu29.slots.size ≤ ((0 : Int32)).toNatClampNeg) := inb_of Su29 ⟨by decide, by decide⟩
  have atu29 : clu29.slots[((0 : Int32)).toNatClampNeg]? = some (.ref u0) := Hsu29.at inu29 rfl
  have cc30 : oQ X24 S0' 19 #[sR w, sR g, sI 0] [.ref u0, .int 0, .ref g] := Steps.trans cc28 (by
    refine X24.aaload hx (j := (0 : Int32)) (v := (.ref u0)) (by rw [e24]; exact Aru29.1) (State.isArrayOf_alike (hZ).alike Aru29.2.1) rfl Aru29.2.2 inu29 atu29 (g := (mkF m 18 #[sR w, sR g, sI 0] [.int 0, .ref w, .int 0, .ref g])) rfl rfl (q 14 rfl) _ ?_
    exact Steps.refl _)
  obtain ⟨_, T31, L31, X31, ⟨rfl, Nq31, eq31⟩, st31⟩ := oCT (y := yM2) X24 cc30 hx hZ hown hml (q 15 rfl) e24 (W 362 rfl) (W 273 rfl) w_67 w_274 (by decide) [.ref u0] [.int 0, .ref g] (lenOf own_pd12 rfl) (bO (own_nn1 l Z a0 hw u0 h24 n0 Zs1 ) hZ w_274 w_67)
  have N31 := Fr.app N0 Nq31
  have cc33 : oQ X31 S0' 22 #[sR w, sR g, sI 0] [.ref u0, .int 0, .ref g] := st31
  have fa32 := P0.up K24 all0
  obtain ⟨clu34, Aru34, qu34, Su34, Ngu34, Hsu34, Gsu34⟩ := id V_g
  have inu34 : ¬ ((0 : Int32) < 0 ∨ clu34.slots.size ≤ (0 : Int32).toNatClampNeg) := inb_of Su34 ⟨by decide, by decide⟩
  obtain ⟨T35, h35, X35, e35, W35, st35⟩ := stR X31 hx hZ eq31 Aru34 (j := (0 : Int32)) (v := (.ref u0)) inu34 rfl (Sto.ofV Aru34 qu34 O24 (own_P.ins hw fa32)) (g := (mkF m 22 #[sR w, sR g, sI 0] [.ref u0, .int 0, .ref g])) rfl rfl (q 16 rfl)
  have K35 := Keep.of_wr W35
  have N35 := Fr.snoc X35 N31 gn_g
  have KK2 := KK1.trans K35 (allS (Or.inr s0_g) all0)
  have Zs2 := Nat.le_trans Zs1 K35.1
  have Ms2 := Nat.le_trans Ms1 K35.1
  have V35 : Arv Z h35 g k24 (.object "java/lang/Object") (3 : Int32) ([(.ref u0), .null, .null]) .null := Arv.set Aru34 qu34 Su34 Ngu34 Hsu34 Gsu34 rfl W35 0 rfl (Nat.le_of_ble_eq_true rfl)
  have cc36 : oQ X35 S0' 8 #[sR w, sR g, sI (0 + 1)] [] := Steps.trans (cc33.trans (st35 _ (Steps.refl _))) (by
    refine iincV X35.here hx rfl 1 (q 17 rfl) (by decide) rfl rfl ?_
    refine XS.goto X35.here hx rfl (pc0 := 26) rfl (q 18 rfl) (by decide) rfl ?_
    exact Steps.refl _)
  have cz37 : oQ X35 S0' 8 #[sR w, sR g, sI 1] [] := cc36
  have cc39 : oQ X35 S0' 10 #[sR w, sR g, sI 1] [.ref w, .int 1] := Steps.trans cz37 (by
    refine XS.iloadN X35.here hx rfl (q 6 rfl) rfl ?_
    refine XS.aloadN X35.here hx rfl (q 7 rfl) rfl rfl ?_
    exact Steps.refl _)
  have fa38 := fa25.keep K35 (ninS ne_w_g nin0)
  obtain ⟨clu40, Aru40, -, Su40, Ngu40, -, -⟩ := id fa38
  have cl_u40 := X35.arraylength hx (by rw [e35]; exact Aru40.1) (State.isArrayOf_alike (hZ).alike Aru40.2.1) (g := (mkF m 10 #[sR w, sR g, sI 1] [.ref w, .int 1])) rfl rfl (q 8 rfl) _ (Steps.refl _)
  rw [len_of Su40 Ngu40] at cl_u40
  have cc41 : oQ X35 S0' 18 #[sR w, sR g, sI 1] [.int 1, .ref w, .int 1, .ref g] := Steps.trans (Steps.trans cc39 cl_u40) (by
    refine XS.icmpNo X35.here hx rfl (q 9 rfl) rfl (ii_ge_f (by decide)) ?_
    refine XS.aloadN X35.here hx rfl (q 10 rfl) rfl rfl ?_
    refine XS.iloadN X35.here hx rfl (q 11 rfl) rfl ?_
    refine XS.aloadN X35.here hx rfl (q 12 rfl) rfl rfl ?_
    refine XS.iloadN X35.here hx rfl (q 13 rfl) rfl ?_
    exact Steps.refl _)
  obtain ⟨clu42, Aru42, qu42, Su42, Ngu42, Hsu42, Gsu42⟩ := id fa38
  have inu42 : ¬ ((1 : Int32) < 0 ∨ clu42.slots.size ≤ ((1 : Int32)).toNatClampNeg) := inb_of Su42 ⟨by decide, by decide⟩
  have atu42 : clu42.slots[((1 : Int32)).toNatClampNeg]? = some (.ref u1) := Hsu42.at inu42 rfl
  have cc43 : oQ X35 S0' 19 #[sR w, sR g, sI 1] [.ref u1, .int 1, .ref g] := Steps.trans cc41 (by
    refine X35.aaload hx (j := (1 : Int32)) (v := (.ref u1)) (by rw [e35]; exact Aru42.1) (State.isArrayOf_alike (hZ).alike Aru42.2.1) rfl Aru42.2.2 inu42 atu42 (g := (mkF m 18 #[sR w, sR g, sI 1] [.int 1, .ref w, .int 1, .ref g])) rfl rfl (q 14 rfl) _ ?_
    exact Steps.refl _)
  obtain ⟨_, T44, L44, X44, ⟨rfl, Nq44, eq44⟩, st44⟩ := oCT (y := yM2) X35 cc43 hx hZ hown hml (q 15 rfl) e35 (W 362 rfl) (W 273 rfl) w_67 w_274 (by decide) [.ref u1] [.int 1, .ref g] (lenOf own_pd12 rfl) (bO (own_nn1 l Z a0 hw u1 h35 n0 Zs2 ) hZ w_274 w_67)
  have N44 := Fr.app N35 Nq44
  have cc46 : oQ X44 S0' 22 #[sR w, sR g, sI 1] [.ref u1, .int 1, .ref g] := st44
  have fa45 := (P1.up K24 all0).up K35 (allS ml_g all0)
  obtain ⟨clu47, Aru47, qu47, Su47, Ngu47, Hsu47, Gsu47⟩ := id V35
  have inu47 : ¬ ((1 : Int32) < 0 ∨ clu47.slots.size ≤ (1 : Int32).toNatClampNeg) := inb_of Su47 ⟨by decide, by decide⟩
  obtain ⟨T48, h48, X48, e48, W48, st48⟩ := stR X44 hx hZ eq44 Aru47 (j := (1 : Int32)) (v := (.ref u1)) inu47 rfl (Sto.ofV Aru47 qu47 O24 (own_P.ins hw fa45)) (g := (mkF m 22 #[sR w, sR g, sI 1] [.ref u1, .int 1, .ref g])) rfl rfl (q 16 rfl)
  have K48 := Keep.of_wr W48
  have N48 := Fr.snoc X48 N44 gn_g
  have KK3 := KK2.trans K48 (allS (Or.inr s0_g) all0)
  have Zs3 := Nat.le_trans Zs2 K48.1
  have Ms3 := Nat.le_trans Ms2 K48.1
  have V48 : Arv Z h48 g k24 (.object "java/lang/Object") (3 : Int32) ([(.ref u0), (.ref u1), .null]) .null := Arv.set Aru47 qu47 Su47 Ngu47 Hsu47 Gsu47 rfl W48 1 rfl (Nat.le_of_ble_eq_true rfl)
  have cc49 : oQ X48 S0' 8 #[sR w, sR g, sI (1 + 1)] [] := Steps.trans (cc46.trans (st48 _ (Steps.refl _))) (by
    refine iincV X48.here hx rfl 1 (q 17 rfl) (by decide) rfl rfl ?_
    refine XS.goto X48.here hx rfl (pc0 := 26) rfl (q 18 rfl) (by decide) rfl ?_
    exact Steps.refl _)
  have cz50 : oQ X48 S0' 8 #[sR w, sR g, sI 2] [] := cc49
  have cc52 : oQ X48 S0' 10 #[sR w, sR g, sI 2] [.ref w, .int 2] := Steps.trans cz50 (by
    refine XS.iloadN X48.here hx rfl (q 6 rfl) rfl ?_
    refine XS.aloadN X48.here hx rfl (q 7 rfl) rfl rfl ?_
    exact Steps.refl _)
  have fa51 := fa38.keep K48 (ninS ne_w_g nin0)
  obtain ⟨clu53, Aru53, -, Su53, Ngu53, -, -⟩ := id fa51
  have cl_u53 := X48.arraylength hx (by rw [e48]; exact Aru53.1) (State.isArrayOf_alike (hZ).alike Aru53.2.1) (g := (mkF m 10 #[sR w, sR g, sI 2] [.ref w, .int 2])) rfl rfl (q 8 rfl) _ (Steps.refl _)
  rw [len_of Su53 Ngu53] at cl_u53
  have cc54 : oQ X48 S0' 18 #[sR w, sR g, sI 2] [.int 2, .ref w, .int 2, .ref g] := Steps.trans (Steps.trans cc52 cl_u53) (by
    refine XS.icmpNo X48.here hx rfl (q 9 rfl) rfl (ii_ge_f (by decide)) ?_
    refine XS.aloadN X48.here hx rfl (q 10 rfl) rfl rfl ?_
    refine XS.iloadN X48.here hx rfl (q 11 rfl) rfl ?_
    refine XS.aloadN X48.here hx rfl (q 12 rfl) rfl rfl ?_
    refine XS.iloadN X48.here hx rfl (q 13 rfl) rfl ?_
    exact Steps.refl _)
  obtain ⟨clu55, Aru55, qu55, Su55, Ngu55, Hsu55, Gsu55⟩ := id fa51
  have inu55 : ¬ ((2 : Int32) < 0 ∨ clu55.slots.size ≤ ((2 : Int32)).toNatClampNeg) := inb_of Su55 ⟨by decide, by decide⟩
  have atu55 : clu55.slots[((2 : Int32)).toNatClampNeg]? = some (.ref u2) := Hsu55.at inu55 rfl
  have cc56 : oQ X48 S0' 19 #[sR w, sR g, sI 2] [.ref u2, .int 2, .ref g] := Steps.trans cc54 (by
    refine X48.aaload hx (j := (2 : Int32)) (v := (.ref u2)) (by rw [e48]; exact Aru55.1) (State.isArrayOf_alike (hZ).alike Aru55.2.1) rfl Aru55.2.2 inu55 atu55 (g := (mkF m 18 #[sR w, sR g, sI 2] [.int 2, .ref w, .int 2, .ref g])) rfl rfl (q 14 rfl) _ ?_
    exact Steps.refl _)
  obtain ⟨_, T57, L57, X57, ⟨rfl, Nq57, eq57⟩, st57⟩ := oCT (y := yM2) X48 cc56 hx hZ hown hml (q 15 rfl) e48 (W 362 rfl) (W 273 rfl) w_67 w_274 (by decide) [.ref u2] [.int 2, .ref g] (lenOf own_pd12 rfl) (bO (own_nn1 l Z a0 hw u2 h48 n0 Zs3 ) hZ w_274 w_67)
  have N57 := Fr.app N48 Nq57
  have cc59 : oQ X57 S0' 22 #[sR w, sR g, sI 2] [.ref u2, .int 2, .ref g] := st57
  have fa58 := ((P2.up K24 all0).up K35 (allS ml_g all0)).up K48 (allS ml_g all0)
  obtain ⟨clu60, Aru60, qu60, Su60, Ngu60, Hsu60, Gsu60⟩ := id V48
  have inu60 : ¬ ((2 : Int32) < 0 ∨ clu60.slots.size ≤ (2 : Int32).toNatClampNeg) := inb_of Su60 ⟨by decide, by decide⟩
  obtain ⟨T61, h61, X61, e61, W61, st61⟩ := stR X57 hx hZ eq57 Aru60 (j := (2 : Int32)) (v := (.ref u2)) inu60 rfl (Sto.ofV Aru60 qu60 O24 (own_P.ins hw fa58)) (g := (mkF m 22 #[sR w, sR g, sI 2] [.ref u2, .int 2, .ref g])) rfl rfl (q 16 rfl)
  have K61 := Keep.of_wr W61
  have N61 := Fr.snoc X61 N57 gn_g
  have KK4 := KK3.trans K61 (allS (Or.inr s0_g) all0)
  have Zs4 := Nat.le_trans Zs3 K61.1
  have Ms4 := Nat.le_trans Ms3 K61.1
  have V61 : Arv Z h61 g k24 (.object "java/lang/Object") (3 : Int32) ([(.ref u0), (.ref u1), (.ref u2)]) .null := Arv.set Aru60 qu60 Su60 Ngu60 Hsu60 Gsu60 rfl W61 2 rfl (Nat.le_of_ble_eq_true rfl)
  have cc62 : oQ X61 S0' 8 #[sR w, sR g, sI (2 + 1)] [] := Steps.trans (cc59.trans (st61 _ (Steps.refl _))) (by
    refine iincV X61.here hx rfl 1 (q 17 rfl) (by decide) rfl rfl ?_
    refine XS.goto X61.here hx rfl (pc0 := 26) rfl (q 18 rfl) (by decide) rfl ?_
    exact Steps.refl _)
  have cz63 : oQ X61 S0' 8 #[sR w, sR g, sI 3] [] := cc62
  have cc65 : oQ X61 S0' 10 #[sR w, sR g, sI 3] [.ref w, .int 3] := Steps.trans cz63 (by
    refine XS.iloadN X61.here hx rfl (q 6 rfl) rfl ?_
    refine XS.aloadN X61.here hx rfl (q 7 rfl) rfl rfl ?_
    exact Steps.refl _)
  have fa64 := fa51.keep K61 (ninS ne_w_g nin0)
  obtain ⟨clu66, Aru66, -, Su66, Ngu66, -, -⟩ := id fa64
  have cl_u66 := X61.arraylength hx (by rw [e61]; exact Aru66.1) (State.isArrayOf_alike (hZ).alike Aru66.2.1) (g := (mkF m 10 #[sR w, sR g, sI 3] [.ref w, .int 3])) rfl rfl (q 8 rfl) _ (Steps.refl _)
  rw [len_of Su66 Ngu66] at cl_u66
  have cc67 : oQ X61 S0' 29 #[sR w, sR g, sI 3] [] := Steps.trans (Steps.trans cc65 cl_u66) (by
    refine XS.icmpYes X61.here hx rfl (pc0 := 11) rfl (q 9 rfl) rfl (ii_ge_t (by decide)) (by decide) rfl ?_
    exact Steps.refl _)
  obtain ⟨T68, h68, X68, e68, E68, A68, D68, -, st68⟩ := newO X61 hx hZ hown (W 126 rfl) (W 363 rfl) (W 189 rfl) e61 (g := (mkF m 29 #[sR w, sR g, sI 3] [])) rfl (q 19 rfl) (by decide) (by decide)
  obtain ⟨a, g_a⟩ : ∃ z, z = h61.size := ⟨_, rfl⟩
  rw [← g_a] at A68 D68 st68
  have K68 := (Keep.refl h61 ([] : List Addr)).ext E68
  have b_a : h61.size ≤ a := (Nat.le_of_eq g_a.symm)
  have gn_a := Nat.le_trans Zs4 b_a
  have s0_a := Nat.le_trans KK4.1 b_a
  have ml_a := Nat.le_trans Ms4 b_a
  have ne_w_a := oN fa64.lt b_a
  have fa69 := ((Ex24.keep K35).keep K48).keep K61
  have ne_g_a := oN fa69.lt b_a
  have KK5 := KK4.trans K68 all0
  have Zs5 := Nat.le_trans Zs4 K68.1
  have Ms5 := Nat.le_trans Ms4 K68.1
  have F_elements_a : zF8 Z h68 a .null := D68 (Or.inr (W 192 rfl)) (ty := (.array (.object "java/lang/Object"))) (by decide)
  have F_allowNulls_a : Fld Z h68 a "java/util/ImmutableCollections$ListN" "allowNulls" "Z" (.int (0 : Int32)) := D68 (Or.inr (W 382 rfl)) (ty := .boolean) (by decide)
  have cc70 : oQ X68 S0' 35 #[sR w, sR g, sI 3] [.int 0, .ref g, .ref a, .ref a] := Steps.trans (cc67.trans (st68 _ (Steps.refl _))) (by
    refine XS.dup X68.here hx rfl (q 20 rfl) rfl rfl ?_
    refine XS.aloadN X68.here hx rfl (q 21 rfl) rfl rfl ?_
    refine iconstV X68.here hx rfl 0 (q 22 rfl) (by decide) ?_
    exact Steps.refl _)
  obtain ⟨_, T71, L71, X71, ⟨rfl, Nq71, Kq71, Fq71⟩, st71⟩ := oCM (y := yM28) X68 cc70 hx hZ hown hml (q 23 rfl) e68 a rfl (W 364 rfl) (W 365 rfl) (W 367 rfl) (by decide) [.ref g, .int 0] [.ref a] (lenOf own_pd13 rfl) (bO (own_lni l Z a0 hw a g h68 n0 Zs5 A68 F_elements_a F_allowNulls_a gn_a) hZ (W 367 rfl) (W 189 rfl))
  have N71 := Fr.app N61 Nq71
  have KK6 := KK5.trans Kq71 (allS (Or.inr s0_a) all0)
  have Zs6 := Nat.le_trans Zs5 Kq71.1
  have Ms6 := Nat.le_trans Ms5 Kq71.1
  have e71 : T71.heap = T71.heap := rfl
  have cc73 : oQ X71 S0' 38 #[sR w, sR g, sI 3] [.ref a] := st71
  have fa72 := A68.keep Kq71
  have fa74 := (V61.keep K68 nin0).keep Kq71 (ninS ne_g_a nin0)
  exact oRA X71 Bd cc73 (q 24 rfl) rfl (rfl) rfl e71 ⟨a, g, _, rfl, N71, KK6, s0_a, s0_g, fa72, Fq71, fa74⟩
def Q_own_of1 (Z : State) (w : Addr) (kw : ClassId) (mm : Nat) (u0 : Addr) (o0 : Option (List Int32)) (em : Addr) (h0 : Heap) (n0 : Nat) (v : Option Value) (h : Heap) (L : List Loc) : Prop := ∃ (a : Addr), v = some (.ref a) ∧ Fr n0 L ∧ Keep h0 h [] ∧ h0.size ≤ a ∧ zE2 Z h a ∧ zF3 Z h a (.ref u0) ∧ zF4 Z h a (.ref em)
theorem own_of1 (l : Launch) (Z : State) (a0 : Array Value) (hw : oH a0 Z) (w : Addr) (kw : ClassId) (mm : Nat) (u0 : Addr) (o0 : Option (List Int32)) (em : Addr) (h0 : Heap) (n0 : Nat) (Z0 : n0 ≤ h0.size) (X00 : Old Z n0 h0) (OE : Sta Z Z.heap "java/util/ImmutableCollections" "EMPTY" "Ljava/lang/Object;" (.ref em)) (Aw : Arv Z h0 w kw (.object "java/lang/Object") (1 : Int32) [(.ref u0)] .null) (P0 : own_P Z h0 mm u0 o0) (hm : mm ≤ h0.size) :
    oC l yM32 (.code yM32 jdk_40_method_47_code 2 (some (.object "java/util/List"))) rM25 #[(.ref w)] Z h0 (Q_own_of1 Z w kw mm u0 o0 em h0 n0) := by
  refine oO (plainFor_of_name own_pn16) hisR fun p e s m below meth c s₁ S0' Bd hS hx dB hml hown hnm hZ X0 e0 => ?_
  have N0 := Fr.nil n0
  have KK0 := Keep.refl h0 ([] : List Addr)
  have cc0 : oQ X0 S0' 0 #[sR w, uN] [] := oE hS rfl
  have W := @own_w Z a0 hw
  have q := @dX _ _ c D_32 @dB
  have cc21 : oQ X0 S0' 1 #[sR w, uN] [.ref w] := Steps.trans cc0 (by
    refine XS.aloadN X0.here hx rfl (q 0 rfl) rfl rfl ?_
    exact Steps.refl _)
  obtain ⟨clu22, Aru22, -, Su22, Ngu22, -, -⟩ := id Aw
  have cl_u22 := X0.arraylength hx (by rw [e0]; exact Aru22.1) (State.isArrayOf_alike (hZ).alike Aru22.2.1) (g := (mkF m 1 #[sR w, uN] [.ref w])) rfl rfl (q 1 rfl) _ (Steps.refl _)
  rw [len_of Su22 Ngu22] at cl_u22
  have cc23 : oQ X0 S0' 2 #[sR w, uN] [.int (1 : Int32)] := (Steps.trans cc21 cl_u22)
  have cz24 : oQ X0 S0' 2 #[sR w, uN] [.int 1] := cc23
  have cc25 : oQ X0 S0' 34 #[sR w, uN] [] := Steps.trans cz24 (by
    refine own_tswI X0 hx (q 2 rfl) (by decide) (off := 32) rfl (pc' := 34) (by decide) _ ?_
    exact Steps.refl _)
  obtain ⟨T26, h26, X26, e26, E26, A26, D26, -, st26⟩ := newO X0 hx hZ hown (W 461 rfl) (W 462 rfl) (W 463 rfl) e0 (g := (mkF m 34 #[sR w, uN] [])) rfl (q 3 rfl) (by decide) (by decide)
  obtain ⟨a, g_a⟩ : ∃ z, z = h0.size := ⟨_, rfl⟩
  rw [← g_a] at A26 D26 st26
  have K26 := (Keep.refl h0 ([] : List Addr)).ext E26
  have b_a : h0.size ≤ a := (Nat.le_of_eq g_a.symm)
  have gn_a := Nat.le_trans Z0 b_a
  have s0_a := Nat.le_trans KK0.1 b_a
  have ml_a := Nat.le_trans hm b_a
  have ne_w_a := oN Aw.lt b_a
  have KK1 := KK0.trans K26 all0
  have Zs1 := Nat.le_trans Z0 K26.1
  have Ms1 := Nat.le_trans hm K26.1
  have F_e0_a : zF3 Z h26 a .null := D26 (Or.inr (W 474 rfl)) (ty := (.object "java/lang/Object")) (by decide)
  have F_e1_a : zF4 Z h26 a .null := D26 (Or.inr (W 476 rfl)) (ty := (.object "java/lang/Object")) (by decide)
  have cc28 : oQ X26 S0' 40 #[sR w, uN] [.int 0, .ref w, .ref a, .ref a] := Steps.trans (cc25.trans (st26 _ (Steps.refl _))) (by
    refine XS.dup X26.here hx rfl (q 4 rfl) rfl rfl ?_
    refine XS.aloadN X26.here hx rfl (q 5 rfl) rfl rfl ?_
    refine iconstV X26.here hx rfl 0 (q 6 rfl) (by decide) ?_
    exact Steps.refl _)
  have fa27 := Aw.keep K26 nin0
  obtain ⟨clu29, Aru29, qu29, Su29, Ngu29, Hsu29, Gsu29⟩ := id fa27
  have inu29 : ¬ ((0 : Int32) < 0 ∨ clu29.slots.size ≤ ((0 : Int32)).toNatClampNeg) := inb_of Su29 ⟨by decide, by decide⟩
  have atu29 : clu29.slots[((0 : Int32)).toNatClampNeg]? = some (.ref u0) := Hsu29.at inu29 rfl
  have cc31 : oQ X26 S0' 41 #[sR w, uN] [.ref u0, .ref a, .ref a] := Steps.trans cc28 (by
    refine X26.aaload hx (j := (0 : Int32)) (v := (.ref u0)) (by rw [e26]; exact Aru29.1) (State.isArrayOf_alike (hZ).alike Aru29.2.1) rfl Aru29.2.2 inu29 atu29 (g := (mkF m 40 #[sR w, uN] [.int 0, .ref w, .ref a, .ref a])) rfl rfl (q 7 rfl) _ ?_
    exact Steps.refl _)
  have fa30 := X00.keep K26 all0
  obtain ⟨_, T32, L32, X32, ⟨rfl, Nq32, Kq32, R132, R232⟩, st32⟩ := oCN (y := yM29) X26 cc31 hx hZ hown hml (q 8 rfl) e26 a rfl (W 489 rfl) (W 490 rfl) (W 491 rfl) (by decide) [.ref u0] [.ref a] (lenOf own_pd14 rfl) (bO (own_12i1 l Z a0 hw a u0 em h26 n0 Zs1 fa30 A26 F_e0_a F_e1_a gn_a OE) hZ (W 491 rfl) (W 463 rfl))
  have N32 := Fr.app N0 Nq32
  have KK2 := KK1.trans Kq32 (allS (Or.inr s0_a) all0)
  have Zs2 := Nat.le_trans Zs1 Kq32.1
  have Ms2 := Nat.le_trans Ms1 Kq32.1
  have e32 : T32.heap = T32.heap := rfl
  have cc34 : oQ X32 S0' 44 #[sR w, uN] [.ref a] := st32
  have fa33 := A26.keep Kq32
  exact oRA X32 Bd cc34 (q 9 rfl) rfl (rfl) rfl e32 ⟨a, rfl, N32, KK2, s0_a, fa33, R132, R232⟩
def Q_own_of2 (Z : State) (w : Addr) (kw : ClassId) (mm : Nat) (u0 : Addr) (o0 : Option (List Int32)) (u1 : Addr) (o1 : Option (List Int32)) (h0 : Heap) (n0 : Nat) (v : Option Value) (h : Heap) (L : List Loc) : Prop := ∃ (a : Addr), v = some (.ref a) ∧ Fr n0 L ∧ Keep h0 h [] ∧ h0.size ≤ a ∧ zE2 Z h a ∧ zF3 Z h a (.ref u0) ∧ zF4 Z h a (.ref u1)
theorem own_of2 (l : Launch) (Z : State) (a0 : Array Value) (hw : oH a0 Z) (w : Addr) (kw : ClassId) (mm : Nat) (u0 : Addr) (o0 : Option (List Int32)) (u1 : Addr) (o1 : Option (List Int32)) (h0 : Heap) (n0 : Nat) (Z0 : n0 ≤ h0.size) (Aw : Arv Z h0 w kw (.object "java/lang/Object") (2 : Int32) [(.ref u0), (.ref u1)] .null) (P0 : own_P Z h0 mm u0 o0) (P1 : own_P Z h0 mm u1 o1) (hm : mm ≤ h0.size) :
    oC l yM32 (.code yM32 jdk_40_method_47_code 2 (some (.object "java/util/List"))) rM25 #[(.ref w)] Z h0 (Q_own_of2 Z w kw mm u0 o0 u1 o1 h0 n0) := by
  refine oO (plainFor_of_name own_pn16) hisR fun p e s m below meth c s₁ S0' Bd hS hx dB hml hown hnm hZ X0 e0 => ?_
  have N0 := Fr.nil n0
  have KK0 := Keep.refl h0 ([] : List Addr)
  have cc0 : oQ X0 S0' 0 #[sR w, uN] [] := oE hS rfl
  have W := @own_w Z a0 hw
  have q := @dX _ _ c D_32 @dB
  have cc21 : oQ X0 S0' 1 #[sR w, uN] [.ref w] := Steps.trans cc0 (by
    refine XS.aloadN X0.here hx rfl (q 0 rfl) rfl rfl ?_
    exact Steps.refl _)
  obtain ⟨clu22, Aru22, -, Su22, Ngu22, -, -⟩ := id Aw
  have cl_u22 := X0.arraylength hx (by rw [e0]; exact Aru22.1) (State.isArrayOf_alike (hZ).alike Aru22.2.1) (g := (mkF m 1 #[sR w, uN] [.ref w])) rfl rfl (q 1 rfl) _ (Steps.refl _)
  rw [len_of Su22 Ngu22] at cl_u22
  have cc23 : oQ X0 S0' 2 #[sR w, uN] [.int (2 : Int32)] := (Steps.trans cc21 cl_u22)
  have cz24 : oQ X0 S0' 2 #[sR w, uN] [.int 2] := cc23
  have cc25 : oQ X0 S0' 45 #[sR w, uN] [] := Steps.trans cz24 (by
    refine own_tswI X0 hx (q 2 rfl) (by decide) (off := 43) rfl (pc' := 45) (by decide) _ ?_
    exact Steps.refl _)
  obtain ⟨T26, h26, X26, e26, E26, A26, D26, -, st26⟩ := newO X0 hx hZ hown (W 461 rfl) (W 462 rfl) (W 463 rfl) e0 (g := (mkF m 45 #[sR w, uN] [])) rfl (q 10 rfl) (by decide) (by decide)
  obtain ⟨a, g_a⟩ : ∃ z, z = h0.size := ⟨_, rfl⟩
  rw [← g_a] at A26 D26 st26
  have K26 := (Keep.refl h0 ([] : List Addr)).ext E26
  have b_a : h0.size ≤ a := (Nat.le_of_eq g_a.symm)
  have gn_a := Nat.le_trans Z0 b_a
  have s0_a := Nat.le_trans KK0.1 b_a
  have ml_a := Nat.le_trans hm b_a
  have ne_w_a := oN Aw.lt b_a
  have KK1 := KK0.trans K26 all0
  have Zs1 := Nat.le_trans Z0 K26.1
  have Ms1 := Nat.le_trans hm K26.1
  have F_e0_a : zF3 Z h26 a .null := D26 (Or.inr (W 474 rfl)) (ty := (.object "java/lang/Object")) (by decide)
  have F_e1_a : zF4 Z h26 a .null := D26 (Or.inr (W 476 rfl)) (ty := (.object "java/lang/Object")) (by decide)
  have cc28 : oQ X26 S0' 51 #[sR w, uN] [.int 0, .ref w, .ref a, .ref a] := Steps.trans (cc25.trans (st26 _ (Steps.refl _))) (by
    refine XS.dup X26.here hx rfl (q 11 rfl) rfl rfl ?_
    refine XS.aloadN X26.here hx rfl (q 12 rfl) rfl rfl ?_
    refine iconstV X26.here hx rfl 0 (q 13 rfl) (by decide) ?_
    exact Steps.refl _)
  have fa27 := Aw.keep K26 nin0
  obtain ⟨clu29, Aru29, qu29, Su29, Ngu29, Hsu29, Gsu29⟩ := id fa27
  have inu29 : ¬ ((0 : Int32) < 0 ∨ clu29.slots.size ≤ ((0 : Int32)).toNatClampNeg) := inb_of Su29 ⟨by decide, by decide⟩
  have atu29 : clu29.slots[((0 : Int32)).toNatClampNeg]? = some (.ref u0) := Hsu29.at inu29 rfl
  have cc30 : oQ X26 S0' 54 #[sR w, uN] [.int 1, .ref w, .ref u0, .ref a, .ref a] := Steps.trans cc28 (by
    refine X26.aaload hx (j := (0 : Int32)) (v := (.ref u0)) (by rw [e26]; exact Aru29.1) (State.isArrayOf_alike (hZ).alike Aru29.2.1) rfl Aru29.2.2 inu29 atu29 (g := (mkF m 51 #[sR w, uN] [.int 0, .ref w, .ref a, .ref a])) rfl rfl (q 14 rfl) _ ?_
    refine XS.aloadN X26.here hx rfl (q 15 rfl) rfl rfl ?_
    refine iconstV X26.here hx rfl 1 (q 16 rfl) (by decide) ?_
    exact Steps.refl _)
  obtain ⟨clu31, Aru31, qu31, Su31, Ngu31, Hsu31, Gsu31⟩ := id fa27
  have inu31 : ¬ ((1 : Int32) < 0 ∨ clu31.slots.size ≤ ((1 : Int32)).toNatClampNeg) := inb_of Su31 ⟨by decide, by decide⟩
  have atu31 : clu31.slots[((1 : Int32)).toNatClampNeg]? = some (.ref u1) := Hsu31.at inu31 rfl
  have cc32 : oQ X26 S0' 55 #[sR w, uN] [.ref u1, .ref u0, .ref a, .ref a] := Steps.trans cc30 (by
    refine X26.aaload hx (j := (1 : Int32)) (v := (.ref u1)) (by rw [e26]; exact Aru31.1) (State.isArrayOf_alike (hZ).alike Aru31.2.1) rfl Aru31.2.2 inu31 atu31 (g := (mkF m 54 #[sR w, uN] [.int 1, .ref w, .ref u0, .ref a, .ref a])) rfl rfl (q 17 rfl) _ ?_
    exact Steps.refl _)
  obtain ⟨_, T33, L33, X33, ⟨rfl, Nq33, Kq33, R133, R233⟩, st33⟩ := oCN (y := yM30) X26 cc32 hx hZ hown hml (q 18 rfl) e26 a rfl (W 464 rfl) (W 465 rfl) (W 467 rfl) (by decide) [.ref u0, .ref u1] [.ref a] (lenOf own_pd15 rfl) (bO (own_12i2 l Z a0 hw a u0 u1 h26 n0 Zs1 A26 F_e0_a F_e1_a gn_a) hZ (W 467 rfl) (W 463 rfl))
  have N33 := Fr.app N0 Nq33
  have KK2 := KK1.trans Kq33 (allS (Or.inr s0_a) all0)
  have Zs2 := Nat.le_trans Zs1 Kq33.1
  have Ms2 := Nat.le_trans Ms1 Kq33.1
  have e33 : T33.heap = T33.heap := rfl
  have cc35 : oQ X33 S0' 58 #[sR w, uN] [.ref a] := st33
  have fa34 := A26.keep Kq33
  exact oRA X33 Bd cc35 (q 19 rfl) rfl (rfl) rfl e33 ⟨a, rfl, N33, KK2, s0_a, fa34, R133, R233⟩
def Q_own_of3 (Z : State) (w : Addr) (kw : ClassId) (mm : Nat) (u0 : Addr) (o0 : Option (List Int32)) (u1 : Addr) (o1 : Option (List Int32)) (u2 : Addr) (o2 : Option (List Int32)) (h0 : Heap) (n0 : Nat) (v : Option Value) (h : Heap) (L : List Loc) : Prop := ∃ (a : Addr) (g : Addr) (kg : ClassId), v = some (.ref a) ∧ Fr n0 L ∧ Keep h0 h [] ∧ h0.size ≤ a ∧ h0.size ≤ g ∧ zE3 Z h a ∧ zF8 Z h a (.ref g) ∧ Arv Z h g kg (.object "java/lang/Object") (3 : Int32) [(.ref u0), (.ref u1), (.ref u2)] .null
theorem own_of3 (l : Launch) (Z : State) (a0 : Array Value) (hw : oH a0 Z) (w : Addr) (kw : ClassId) (mm : Nat) (u0 : Addr) (o0 : Option (List Int32)) (u1 : Addr) (o1 : Option (List Int32)) (u2 : Addr) (o2 : Option (List Int32)) (h0 : Heap) (n0 : Nat) (Z0 : n0 ≤ h0.size) (Aw : Arv Z h0 w kw (.object "java/lang/Object") (3 : Int32) [(.ref u0), (.ref u1), (.ref u2)] .null) (P0 : own_P Z h0 mm u0 o0) (P1 : own_P Z h0 mm u1 o1) (P2 : own_P Z h0 mm u2 o2) (hm : mm ≤ h0.size) :
    oC l yM32 (.code yM32 jdk_40_method_47_code 2 (some (.object "java/util/List"))) rM25 #[(.ref w)] Z h0 (Q_own_of3 Z w kw mm u0 o0 u1 o1 u2 o2 h0 n0) := by
  refine oO (plainFor_of_name own_pn16) hisR fun p e s m below meth c s₁ S0' Bd hS hx dB hml hown hnm hZ X0 e0 => ?_
  have N0 := Fr.nil n0
  have KK0 := Keep.refl h0 ([] : List Addr)
  have cc0 : oQ X0 S0' 0 #[sR w, uN] [] := oE hS rfl
  have W := @own_w Z a0 hw
  have q := @dX _ _ c D_32 @dB
  have cc21 : oQ X0 S0' 1 #[sR w, uN] [.ref w] := Steps.trans cc0 (by
    refine XS.aloadN X0.here hx rfl (q 0 rfl) rfl rfl ?_
    exact Steps.refl _)
  obtain ⟨clu22, Aru22, -, Su22, Ngu22, -, -⟩ := id Aw
  have cl_u22 := X0.arraylength hx (by rw [e0]; exact Aru22.1) (State.isArrayOf_alike (hZ).alike Aru22.2.1) (g := (mkF m 1 #[sR w, uN] [.ref w])) rfl rfl (q 1 rfl) _ (Steps.refl _)
  rw [len_of Su22 Ngu22] at cl_u22
  have cc23 : oQ X0 S0' 2 #[sR w, uN] [.int (3 : Int32)] := (Steps.trans cc21 cl_u22)
  have cz24 : oQ X0 S0' 2 #[sR w, uN] [.int 3] := cc23
  have cc25 : oQ X0 S0' 60 #[sR w, uN] [.ref w] := Steps.trans cz24 (by
    refine own_tswO X0 hx (q 2 rfl) (by decide) (pc' := 59) (by decide) _ ?_
    refine XS.aloadN X0.here hx rfl (q 20 rfl) rfl rfl ?_
    exact Steps.refl _)
  obtain ⟨_, T26, L26, X26, ⟨a, g, kg, rfl, Nq26, Kq26, sa26, sg26, R126, R226, R326⟩, st26⟩ := oCT (y := yM31) X0 cc25 hx hZ hown hml (q 21 rfl) e0 (W 358 rfl) (W 359 rfl) (W 119 rfl) (W 360 rfl) (by decide) [.ref w] [] (lenOf own_pd16 rfl) (bO (own_lfa l Z a0 hw w kw mm u0 o0 u1 o1 u2 o2 h0 n0 Z0 Aw P0 P1 P2 hm) hZ (W 360 rfl) (W 119 rfl))
  have N26 := Fr.app N0 Nq26
  have KK1 := KK0.trans Kq26 all0
  have Zs1 := Nat.le_trans Z0 Kq26.1
  have Ms1 := Nat.le_trans hm Kq26.1
  have e26 : T26.heap = T26.heap := rfl
  have cc27 : oQ X26 S0' 63 #[sR w, uN] [.ref a] := st26
  exact oRA X26 Bd cc27 (q 22 rfl) rfl (rfl) rfl e26 ⟨a, g, kg, rfl, N26, KK1, sa26, sg26, R126, R226, R326⟩
def Q_own_of0 (Z : State) (el : Addr) (h0 : Heap) (n0 : Nat) (v : Option Value) (h : Heap) (L : List Loc) : Prop := v = some (.ref el) ∧ Fr n0 L ∧ h = h0
theorem own_of0 (l : Launch) (Z : State) (a0 : Array Value) (hw : oH a0 Z) (el : Addr) (h0 : Heap) (n0 : Nat) (Z0 : n0 ≤ h0.size) (X00 : Old Z n0 h0) (OL : Sta Z Z.heap "java/util/ImmutableCollections" "EMPTY_LIST" "Ljava/util/ImmutableCollections$ListN;" (.ref el)) :
    oC l yM33 (.code yM33 jdk_40_method_36_code 0 (some (.object "java/util/List"))) rM1 #[] Z h0 (Q_own_of0 Z el h0 n0) := by
  refine oO (plainFor_of_name own_pn16) hisR fun p e s m below meth c s₁ S0' Bd hS hx dB hml hown hnm hZ X0 e0 => ?_
  have N0 := Fr.nil n0
  have KK0 := Keep.refl h0 ([] : List Addr)
  have cc0 : oQ X0 S0' 0 #[] [] := oE hS rfl
  have W := @own_w Z a0 hw
  have q := @dX _ _ c D_33 @dB
  obtain ⟨T21, X21, e21, st21⟩ := oGS X0 cc0 hx hZ hown (host := "") (Or.inl (W 141 rfl)) Via.refl e0 (OL.ext X00.2) (q 0 rfl)
  have cc22 : oQ X21 S0' 3 #[] [.ref el] := st21
  exact oRA X21 Bd cc22 (q 1 rfl) rfl (rfl) rfl e21 ⟨rfl, N0, rfl⟩
def Q_own_lc1 (Z : State) (a t mr : Addr) (kt : ClassId) (mm : Nat) (u0 : Addr) (o0 : Option (List Int32)) (em : Addr) (h0 : Heap) (n0 : Nat) (v : Option Value) (h : Heap) (L : List Loc) : Prop := ∃ (y : Addr), v = some (.ref y) ∧ Fr n0 L ∧ Keep h0 h [] ∧ h0.size ≤ y ∧ zE2 Z h y ∧ zF3 Z h y (.ref u0) ∧ zF4 Z h y (.ref em)
theorem own_lc1 (l : Launch) (Z : State) (a0 : Array Value) (hw : oH a0 Z) (a t mr : Addr) (kt : ClassId) (mm : Nat) (u0 : Addr) (o0 : Option (List Int32)) (em : Addr) (h0 : Heap) (n0 : Nat) (Z0 : n0 ≤ h0.size) (E : zE1 Z h0 a) (F2 : zF0 Z h0 a (.int (1 : Int32))) (F3 : zF1 Z h0 a (.ref t)) (Et : zE0 Z h0 t) (At : Arv Z h0 t kt (.object "java/lang/Object") (10 : Int32) [(.ref u0)] .null) (MM : own_Mir Z "[Ljava/lang/Object;" mr) (X00 : Old Z n0 h0) (OE : Sta Z Z.heap "java/util/ImmutableCollections" "EMPTY" "Ljava/lang/Object;" (.ref em)) (P0 : own_P Z h0 mm u0 o0) (hm : mm ≤ h0.size) :
    oC l yM36 (.code yM36 jdk_56_method_3_code 2 (some (.object "java/util/List"))) rM26 #[(.ref a)] Z h0 (Q_own_lc1 Z a t mr kt mm u0 o0 em h0 n0) := by
  refine oO (plainFor_of_name own_pn15) hisR fun p e s m below meth c s₁ S0' Bd hS hx dB hml hown hnm hZ X0 e0 => ?_
  have N0 := Fr.nil n0
  have KK0 := Keep.refl h0 ([] : List Addr)
  have cc0 : oQ X0 S0' 0 #[sR a, uN] [] := oE hS rfl
  have W := @own_w Z a0 hw
  have q := @dX _ _ c D_34 @dB
  have cc21 : oQ X0 S0' 1 #[sR a, uN] [.ref a] := Steps.trans cc0 (by
    refine XS.aloadN X0.here hx rfl (q 0 rfl) rfl rfl ?_
    exact Steps.refl _)
  obtain ⟨T22, X22, e22, st22⟩ := instNo X0 hx hZ hown (W 121 rfl) e0 E (own_no12 hw) (g := (mkF m 1 #[sR a, uN] [.ref a])) rfl rfl (q 1 rfl)
  have cc23 : oQ X22 S0' 8 #[sR a, uN] [.ref a] := Steps.trans (cc21.trans (st22 _ (Steps.refl _))) (by
    refine XS.ifNo X22.here hx rfl (q 2 rfl) rfl (i0_ne_f rfl) ?_
    refine XS.aloadN X22.here hx rfl (q 3 rfl) rfl rfl ?_
    exact Steps.refl _)
  obtain ⟨T24, X24, e24, st24⟩ := instNo X22 hx hZ hown (W 126 rfl) e22 E (own_noN hw) (g := (mkF m 8 #[sR a, uN] [.ref a])) rfl rfl (q 4 rfl)
  have cc25 : oQ X24 S0' 32 #[sR a, uN] [.ref a] := Steps.trans (cc23.trans (st24 _ (Steps.refl _))) (by
    refine XS.ifYes X24.here hx rfl (pc0 := 11) rfl (q 5 rfl) rfl (i0_eq_t rfl) (by decide) rfl ?_
    refine XS.aloadN X24.here hx rfl (q 6 rfl) rfl rfl ?_
    exact Steps.refl _)
  obtain ⟨_, T26, L26, X26, ⟨rfl, Nq26, eq26⟩, st26⟩ := oCI (y := yM34) (z := yM25) X24 cc25 hx hZ hown hml (q 7 rfl) e24 E (W 127 rfl) (W 128 rfl) (mvT hZ (W 129 rfl)) (W 130 rfl) (W 131 rfl) (W 132 rfl) (W 133 rfl) (W 134 rfl) (by decide) [] [] (lenOf own_pd17 rfl) (bO (own_ale l Z a0 hw a 1 h0 n0 Z0 F2 (by decide)) hZ (W 135 rfl) (W 84 rfl))
  have N26 := Fr.app N0 Nq26
  have cc27 : oQ X26 S0' 45 #[sR a, uN] [.ref a] := Steps.trans st26 (by
    refine XS.ifYes X26.here hx rfl (pc0 := 37) rfl (q 8 rfl) rfl (i0_eq_t rfl) (by decide) rfl ?_
    refine XS.aloadN X26.here hx rfl (q 9 rfl) rfl rfl ?_
    exact Steps.refl _)
  obtain ⟨_, T28, L28, X28, ⟨w, kw, rfl, Nq28, Kq28, sq28, Aq28⟩, st28⟩ := oCI (y := yM35) (z := yM24) X26 cc27 hx hZ hown hml (q 10 rfl) eq26 E (W 333 rfl) (W 334 rfl) (mvT hZ (W 335 rfl)) (W 336 rfl) (W 337 rfl) (W 338 rfl) (W 339 rfl) (W 134 rfl) (by decide) [] [] (lenOf own_pd8 rfl) (bO (own_toa1 l Z a0 hw a t mr kt mm u0 o0 h0 n0 Z0 MM F2 F3 Et At P0 hm) hZ (W 340 rfl) (W 84 rfl))
  have N28 := Fr.app N26 Nq28
  have b_w : h0.size ≤ w := sq28
  have gn_w := Nat.le_trans Z0 b_w
  have s0_w := Nat.le_trans KK0.1 b_w
  have ml_w := Nat.le_trans hm b_w
  have ne_a_w := oN E.lt b_w
  have ne_t_w := oN Et.lt b_w
  have KK1 := KK0.trans Kq28 all0
  have Zs1 := Nat.le_trans Z0 Kq28.1
  have Ms1 := Nat.le_trans hm Kq28.1
  have e28 : T28.heap = T28.heap := rfl
  have cc30 : oQ X28 S0' 50 #[sR a, uN] [.ref w] := st28
  have fa29 := X00.keep Kq28 all0
  have fa31 := P0.up Kq28 all0
  obtain ⟨_, T32, L32, X32, ⟨y, rfl, Nq32, Kq32, sy32, R132, R232, R332⟩, st32⟩ := oCT (y := yM32) X28 cc30 hx hZ hown hml (q 11 rfl) e28 (W 355 rfl) (W 356 rfl) (W 115 rfl) (W 357 rfl) (by decide) [.ref w] [] (lenOf own_pd16 rfl) (bO (own_of1 l Z a0 hw w kw mm u0 o0 em T28.heap n0 Zs1 fa29 OE Aq28 fa31 Ms1) hZ (W 357 rfl) (W 115 rfl))
  have N32 := Fr.app N28 Nq32
  have b_y : T28.heap.size ≤ y := sy32
  have gn_y := Nat.le_trans Zs1 b_y
  have s0_y := Nat.le_trans KK1.1 b_y
  have ml_y := Nat.le_trans Ms1 b_y
  have fa33 := E.keep Kq28
  have ne_a_y := oN fa33.lt b_y
  have fa34 := Et.keep Kq28
  have ne_t_y := oN fa34.lt b_y
  have ne_w_y := oN Aq28.lt b_y
  have KK2 := KK1.trans Kq32 all0
  have Zs2 := Nat.le_trans Zs1 Kq32.1
  have Ms2 := Nat.le_trans Ms1 Kq32.1
  have e32 : T32.heap = T32.heap := rfl
  have cc35 : oQ X32 S0' 53 #[sR a, uN] [.ref y] := st32
  exact oRA X32 Bd cc35 (q 12 rfl) rfl (rfl) rfl e32 ⟨y, rfl, N32, KK2, s0_y, R132, R232, R332⟩
def Q_own_co1 (Z : State) (a t mr : Addr) (kt : ClassId) (mm : Nat) (u0 : Addr) (o0 : Option (List Int32)) (em : Addr) (h0 : Heap) (n0 : Nat) (v : Option Value) (h : Heap) (L : List Loc) : Prop := ∃ (y : Addr), v = some (.ref y) ∧ Fr n0 L ∧ Keep h0 h [] ∧ h0.size ≤ y ∧ zE2 Z h y ∧ zF3 Z h y (.ref u0) ∧ zF4 Z h y (.ref em)
theorem own_co1 (l : Launch) (Z : State) (a0 : Array Value) (hw : oH a0 Z) (a t mr : Addr) (kt : ClassId) (mm : Nat) (u0 : Addr) (o0 : Option (List Int32)) (em : Addr) (h0 : Heap) (n0 : Nat) (Z0 : n0 ≤ h0.size) (E : zE1 Z h0 a) (F2 : zF0 Z h0 a (.int (1 : Int32))) (F3 : zF1 Z h0 a (.ref t)) (Et : zE0 Z h0 t) (At : Arv Z h0 t kt (.object "java/lang/Object") (10 : Int32) [(.ref u0)] .null) (MM : own_Mir Z "[Ljava/lang/Object;" mr) (X00 : Old Z n0 h0) (OE : Sta Z Z.heap "java/util/ImmutableCollections" "EMPTY" "Ljava/lang/Object;" (.ref em)) (P0 : own_P Z h0 mm u0 o0) (hm : mm ≤ h0.size) :
    oC l yM37 (.code yM37 jdk_40_method_48_code 1 (some (.object "java/util/List"))) rM27 #[(.ref a)] Z h0 (Q_own_co1 Z a t mr kt mm u0 o0 em h0 n0) := by
  refine oO (plainFor_of_name own_pn16) hisR fun p e s m below meth c s₁ S0' Bd hS hx dB hml hown hnm hZ X0 e0 => ?_
  have N0 := Fr.nil n0
  have KK0 := Keep.refl h0 ([] : List Addr)
  have cc0 : oQ X0 S0' 0 #[sR a] [] := oE hS rfl
  have W := @own_w Z a0 hw
  have q := @dX _ _ c D_35 @dB
  have cc21 : oQ X0 S0' 1 #[sR a] [.ref a] := Steps.trans cc0 (by
    refine XS.aloadN X0.here hx rfl (q 0 rfl) rfl rfl ?_
    exact Steps.refl _)
  obtain ⟨_, T22, L22, X22, ⟨y, rfl, Nq22, Kq22, sy22, R122, R222, R322⟩, st22⟩ := oCT (y := yM36) X0 cc21 hx hZ hown hml (q 1 rfl) e0 (W 117 rfl) (W 118 rfl) (W 119 rfl) (W 120 rfl) (by decide) [.ref a] [] (lenOf own_pd18 rfl) (bO (own_lc1 l Z a0 hw a t mr kt mm u0 o0 em h0 n0 Z0 E F2 F3 Et At MM X00 OE P0 hm) hZ (W 120 rfl) (W 119 rfl))
  have N22 := Fr.app N0 Nq22
  have b_y : h0.size ≤ y := sy22
  have gn_y := Nat.le_trans Z0 b_y
  have s0_y := Nat.le_trans KK0.1 b_y
  have ml_y := Nat.le_trans hm b_y
  have ne_a_y := oN E.lt b_y
  have ne_t_y := oN Et.lt b_y
  have KK1 := KK0.trans Kq22 all0
  have Zs1 := Nat.le_trans Z0 Kq22.1
  have Ms1 := Nat.le_trans hm Kq22.1
  have e22 : T22.heap = T22.heap := rfl
  have cc23 : oQ X22 S0' 4 #[sR a] [.ref y] := st22
  exact oRA X22 Bd cc23 (q 2 rfl) rfl (rfl) rfl e22 ⟨y, rfl, N22, KK1, s0_y, R122, R222, R322⟩
def Q_own_lc2 (Z : State) (a t mr : Addr) (kt : ClassId) (mm : Nat) (u0 : Addr) (o0 : Option (List Int32)) (u1 : Addr) (o1 : Option (List Int32)) (h0 : Heap) (n0 : Nat) (v : Option Value) (h : Heap) (L : List Loc) : Prop := ∃ (y : Addr), v = some (.ref y) ∧ Fr n0 L ∧ Keep h0 h [] ∧ h0.size ≤ y ∧ zE2 Z h y ∧ zF3 Z h y (.ref u0) ∧ zF4 Z h y (.ref u1)
theorem own_lc2 (l : Launch) (Z : State) (a0 : Array Value) (hw : oH a0 Z) (a t mr : Addr) (kt : ClassId) (mm : Nat) (u0 : Addr) (o0 : Option (List Int32)) (u1 : Addr) (o1 : Option (List Int32)) (h0 : Heap) (n0 : Nat) (Z0 : n0 ≤ h0.size) (E : zE1 Z h0 a) (F2 : zF0 Z h0 a (.int (2 : Int32))) (F3 : zF1 Z h0 a (.ref t)) (Et : zE0 Z h0 t) (At : Arv Z h0 t kt (.object "java/lang/Object") (10 : Int32) [(.ref u0), (.ref u1)] .null) (MM : own_Mir Z "[Ljava/lang/Object;" mr) (P0 : own_P Z h0 mm u0 o0) (P1 : own_P Z h0 mm u1 o1) (hm : mm ≤ h0.size) :
    oC l yM36 (.code yM36 jdk_56_method_3_code 2 (some (.object "java/util/List"))) rM26 #[(.ref a)] Z h0 (Q_own_lc2 Z a t mr kt mm u0 o0 u1 o1 h0 n0) := by
  refine oO (plainFor_of_name own_pn15) hisR fun p e s m below meth c s₁ S0' Bd hS hx dB hml hown hnm hZ X0 e0 => ?_
  have N0 := Fr.nil n0
  have KK0 := Keep.refl h0 ([] : List Addr)
  have cc0 : oQ X0 S0' 0 #[sR a, uN] [] := oE hS rfl
  have W := @own_w Z a0 hw
  have q := @dX _ _ c D_34 @dB
  have cc21 : oQ X0 S0' 1 #[sR a, uN] [.ref a] := Steps.trans cc0 (by
    refine XS.aloadN X0.here hx rfl (q 0 rfl) rfl rfl ?_
    exact Steps.refl _)
  obtain ⟨T22, X22, e22, st22⟩ := instNo X0 hx hZ hown (W 121 rfl) e0 E (own_no12 hw) (g := (mkF m 1 #[sR a, uN] [.ref a])) rfl rfl (q 1 rfl)
  have cc23 : oQ X22 S0' 8 #[sR a, uN] [.ref a] := Steps.trans (cc21.trans (st22 _ (Steps.refl _))) (by
    refine XS.ifNo X22.here hx rfl (q 2 rfl) rfl (i0_ne_f rfl) ?_
    refine XS.aloadN X22.here hx rfl (q 3 rfl) rfl rfl ?_
    exact Steps.refl _)
  obtain ⟨T24, X24, e24, st24⟩ := instNo X22 hx hZ hown (W 126 rfl) e22 E (own_noN hw) (g := (mkF m 8 #[sR a, uN] [.ref a])) rfl rfl (q 4 rfl)
  have cc25 : oQ X24 S0' 32 #[sR a, uN] [.ref a] := Steps.trans (cc23.trans (st24 _ (Steps.refl _))) (by
    refine XS.ifYes X24.here hx rfl (pc0 := 11) rfl (q 5 rfl) rfl (i0_eq_t rfl) (by decide) rfl ?_
    refine XS.aloadN X24.here hx rfl (q 6 rfl) rfl rfl ?_
    exact Steps.refl _)
  obtain ⟨_, T26, L26, X26, ⟨rfl, Nq26, eq26⟩, st26⟩ := oCI (y := yM34) (z := yM25) X24 cc25 hx hZ hown hml (q 7 rfl) e24 E (W 127 rfl) (W 128 rfl) (mvT hZ (W 129 rfl)) (W 130 rfl) (W 131 rfl) (W 132 rfl) (W 133 rfl) (W 134 rfl) (by decide) [] [] (lenOf own_pd17 rfl) (bO (own_ale l Z a0 hw a 2 h0 n0 Z0 F2 (by decide)) hZ (W 135 rfl) (W 84 rfl))
  have N26 := Fr.app N0 Nq26
  have cc27 : oQ X26 S0' 45 #[sR a, uN] [.ref a] := Steps.trans st26 (by
    refine XS.ifYes X26.here hx rfl (pc0 := 37) rfl (q 8 rfl) rfl (i0_eq_t rfl) (by decide) rfl ?_
    refine XS.aloadN X26.here hx rfl (q 9 rfl) rfl rfl ?_
    exact Steps.refl _)
  obtain ⟨_, T28, L28, X28, ⟨w, kw, rfl, Nq28, Kq28, sq28, Aq28⟩, st28⟩ := oCI (y := yM35) (z := yM24) X26 cc27 hx hZ hown hml (q 10 rfl) eq26 E (W 333 rfl) (W 334 rfl) (mvT hZ (W 335 rfl)) (W 336 rfl) (W 337 rfl) (W 338 rfl) (W 339 rfl) (W 134 rfl) (by decide) [] [] (lenOf own_pd8 rfl) (bO (own_toa2 l Z a0 hw a t mr kt mm u0 o0 u1 o1 h0 n0 Z0 MM F2 F3 Et At P0 P1 hm) hZ (W 340 rfl) (W 84 rfl))
  have N28 := Fr.app N26 Nq28
  have b_w : h0.size ≤ w := sq28
  have gn_w := Nat.le_trans Z0 b_w
  have s0_w := Nat.le_trans KK0.1 b_w
  have ml_w := Nat.le_trans hm b_w
  have ne_a_w := oN E.lt b_w
  have ne_t_w := oN Et.lt b_w
  have KK1 := KK0.trans Kq28 all0
  have Zs1 := Nat.le_trans Z0 Kq28.1
  have Ms1 := Nat.le_trans hm Kq28.1
  have e28 : T28.heap = T28.heap := rfl
  have cc30 : oQ X28 S0' 50 #[sR a, uN] [.ref w] := st28
  have fa29 := P0.up Kq28 all0
  have fa31 := P1.up Kq28 all0
  obtain ⟨_, T32, L32, X32, ⟨y, rfl, Nq32, Kq32, sy32, R132, R232, R332⟩, st32⟩ := oCT (y := yM32) X28 cc30 hx hZ hown hml (q 11 rfl) e28 (W 355 rfl) (W 356 rfl) (W 115 rfl) (W 357 rfl) (by decide) [.ref w] [] (lenOf own_pd16 rfl) (bO (own_of2 l Z a0 hw w kw mm u0 o0 u1 o1 T28.heap n0 Zs1 Aq28 fa29 fa31 Ms1) hZ (W 357 rfl) (W 115 rfl))
  have N32 := Fr.app N28 Nq32
  have b_y : T28.heap.size ≤ y := sy32
  have gn_y := Nat.le_trans Zs1 b_y
  have s0_y := Nat.le_trans KK1.1 b_y
  have ml_y := Nat.le_trans Ms1 b_y
  have fa33 := E.keep Kq28
  have ne_a_y := oN fa33.lt b_y
  have fa34 := Et.keep Kq28
  have ne_t_y := oN fa34.lt b_y
  have ne_w_y := oN Aq28.lt b_y
  have KK2 := KK1.trans Kq32 all0
  have Zs2 := Nat.le_trans Zs1 Kq32.1
  have Ms2 := Nat.le_trans Ms1 Kq32.1
  have e32 : T32.heap = T32.heap := rfl
  have cc35 : oQ X32 S0' 53 #[sR a, uN] [.ref y] := st32
  exact oRA X32 Bd cc35 (q 12 rfl) rfl (rfl) rfl e32 ⟨y, rfl, N32, KK2, s0_y, R132, R232, R332⟩
def Q_own_co2 (Z : State) (a t mr : Addr) (kt : ClassId) (mm : Nat) (u0 : Addr) (o0 : Option (List Int32)) (u1 : Addr) (o1 : Option (List Int32)) (h0 : Heap) (n0 : Nat) (v : Option Value) (h : Heap) (L : List Loc) : Prop := ∃ (y : Addr), v = some (.ref y) ∧ Fr n0 L ∧ Keep h0 h [] ∧ h0.size ≤ y ∧ zE2 Z h y ∧ zF3 Z h y (.ref u0) ∧ zF4 Z h y (.ref u1)
theorem own_co2 (l : Launch) (Z : State) (a0 : Array Value) (hw : oH a0 Z) (a t mr : Addr) (kt : ClassId) (mm : Nat) (u0 : Addr) (o0 : Option (List Int32)) (u1 : Addr) (o1 : Option (List Int32)) (h0 : Heap) (n0 : Nat) (Z0 : n0 ≤ h0.size) (E : zE1 Z h0 a) (F2 : zF0 Z h0 a (.int (2 : Int32))) (F3 : zF1 Z h0 a (.ref t)) (Et : zE0 Z h0 t) (At : Arv Z h0 t kt (.object "java/lang/Object") (10 : Int32) [(.ref u0), (.ref u1)] .null) (MM : own_Mir Z "[Ljava/lang/Object;" mr) (P0 : own_P Z h0 mm u0 o0) (P1 : own_P Z h0 mm u1 o1) (hm : mm ≤ h0.size) :
    oC l yM37 (.code yM37 jdk_40_method_48_code 1 (some (.object "java/util/List"))) rM27 #[(.ref a)] Z h0 (Q_own_co2 Z a t mr kt mm u0 o0 u1 o1 h0 n0) := by
  refine oO (plainFor_of_name own_pn16) hisR fun p e s m below meth c s₁ S0' Bd hS hx dB hml hown hnm hZ X0 e0 => ?_
  have N0 := Fr.nil n0
  have KK0 := Keep.refl h0 ([] : List Addr)
  have cc0 : oQ X0 S0' 0 #[sR a] [] := oE hS rfl
  have W := @own_w Z a0 hw
  have q := @dX _ _ c D_35 @dB
  have cc21 : oQ X0 S0' 1 #[sR a] [.ref a] := Steps.trans cc0 (by
    refine XS.aloadN X0.here hx rfl (q 0 rfl) rfl rfl ?_
    exact Steps.refl _)
  obtain ⟨_, T22, L22, X22, ⟨y, rfl, Nq22, Kq22, sy22, R122, R222, R322⟩, st22⟩ := oCT (y := yM36) X0 cc21 hx hZ hown hml (q 1 rfl) e0 (W 117 rfl) (W 118 rfl) (W 119 rfl) (W 120 rfl) (by decide) [.ref a] [] (lenOf own_pd18 rfl) (bO (own_lc2 l Z a0 hw a t mr kt mm u0 o0 u1 o1 h0 n0 Z0 E F2 F3 Et At MM P0 P1 hm) hZ (W 120 rfl) (W 119 rfl))
  have N22 := Fr.app N0 Nq22
  have b_y : h0.size ≤ y := sy22
  have gn_y := Nat.le_trans Z0 b_y
  have s0_y := Nat.le_trans KK0.1 b_y
  have ml_y := Nat.le_trans hm b_y
  have ne_a_y := oN E.lt b_y
  have ne_t_y := oN Et.lt b_y
  have KK1 := KK0.trans Kq22 all0
  have Zs1 := Nat.le_trans Z0 Kq22.1
  have Ms1 := Nat.le_trans hm Kq22.1
  have e22 : T22.heap = T22.heap := rfl
  have cc23 : oQ X22 S0' 4 #[sR a] [.ref y] := st22
  exact oRA X22 Bd cc23 (q 2 rfl) rfl (rfl) rfl e22 ⟨y, rfl, N22, KK1, s0_y, R122, R222, R322⟩
def Q_own_lc3 (Z : State) (a t mr : Addr) (kt : ClassId) (mm : Nat) (u0 : Addr) (o0 : Option (List Int32)) (u1 : Addr) (o1 : Option (List Int32)) (u2 : Addr) (o2 : Option (List Int32)) (h0 : Heap) (n0 : Nat) (v : Option Value) (h : Heap) (L : List Loc) : Prop := ∃ (y : Addr) (g : Addr) (kg : ClassId), v = some (.ref y) ∧ Fr n0 L ∧ Keep h0 h [] ∧ h0.size ≤ y ∧ h0.size ≤ g ∧ zE3 Z h y ∧ zF8 Z h y (.ref g) ∧ Arv Z h g kg (.object "java/lang/Object") (3 : Int32) [(.ref u0), (.ref u1), (.ref u2)] .null
theorem own_lc3 (l : Launch) (Z : State) (a0 : Array Value) (hw : oH a0 Z) (a t mr : Addr) (kt : ClassId) (mm : Nat) (u0 : Addr) (o0 : Option (List Int32)) (u1 : Addr) (o1 : Option (List Int32)) (u2 : Addr) (o2 : Option (List Int32)) (h0 : Heap) (n0 : Nat) (Z0 : n0 ≤ h0.size) (E : zE1 Z h0 a) (F2 : zF0 Z h0 a (.int (3 : Int32))) (F3 : zF1 Z h0 a (.ref t)) (Et : zE0 Z h0 t) (At : Arv Z h0 t kt (.object "java/lang/Object") (10 : Int32) [(.ref u0), (.ref u1), (.ref u2)] .null) (MM : own_Mir Z "[Ljava/lang/Object;" mr) (P0 : own_P Z h0 mm u0 o0) (P1 : own_P Z h0 mm u1 o1) (P2 : own_P Z h0 mm u2 o2) (hm : mm ≤ h0.size) :
    oC l yM36 (.code yM36 jdk_56_method_3_code 2 (some (.object "java/util/List"))) rM26 #[(.ref a)] Z h0 (Q_own_lc3 Z a t mr kt mm u0 o0 u1 o1 u2 o2 h0 n0) := by
  refine oO (plainFor_of_name own_pn15) hisR fun p e s m below meth c s₁ S0' Bd hS hx dB hml hown hnm hZ X0 e0 => ?_
  have N0 := Fr.nil n0
  have KK0 := Keep.refl h0 ([] : List Addr)
  have cc0 : oQ X0 S0' 0 #[sR a, uN] [] := oE hS rfl
  have W := @own_w Z a0 hw
  have q := @dX _ _ c D_34 @dB
  have cc21 : oQ X0 S0' 1 #[sR a, uN] [.ref a] := Steps.trans cc0 (by
    refine XS.aloadN X0.here hx rfl (q 0 rfl) rfl rfl ?_
    exact Steps.refl _)
  obtain ⟨T22, X22, e22, st22⟩ := instNo X0 hx hZ hown (W 121 rfl) e0 E (own_no12 hw) (g := (mkF m 1 #[sR a, uN] [.ref a])) rfl rfl (q 1 rfl)
  have cc23 : oQ X22 S0' 8 #[sR a, uN] [.ref a] := Steps.trans (cc21.trans (st22 _ (Steps.refl _))) (by
    refine XS.ifNo X22.here hx rfl (q 2 rfl) rfl (i0_ne_f rfl) ?_
    refine XS.aloadN X22.here hx rfl (q 3 rfl) rfl rfl ?_
    exact Steps.refl _)
  obtain ⟨T24, X24, e24, st24⟩ := instNo X22 hx hZ hown (W 126 rfl) e22 E (own_noN hw) (g := (mkF m 8 #[sR a, uN] [.ref a])) rfl rfl (q 4 rfl)
  have cc25 : oQ X24 S0' 32 #[sR a, uN] [.ref a] := Steps.trans (cc23.trans (st24 _ (Steps.refl _))) (by
    refine XS.ifYes X24.here hx rfl (pc0 := 11) rfl (q 5 rfl) rfl (i0_eq_t rfl) (by decide) rfl ?_
    refine XS.aloadN X24.here hx rfl (q 6 rfl) rfl rfl ?_
    exact Steps.refl _)
  obtain ⟨_, T26, L26, X26, ⟨rfl, Nq26, eq26⟩, st26⟩ := oCI (y := yM34) (z := yM25) X24 cc25 hx hZ hown hml (q 7 rfl) e24 E (W 127 rfl) (W 128 rfl) (mvT hZ (W 129 rfl)) (W 130 rfl) (W 131 rfl) (W 132 rfl) (W 133 rfl) (W 134 rfl) (by decide) [] [] (lenOf own_pd17 rfl) (bO (own_ale l Z a0 hw a 3 h0 n0 Z0 F2 (by decide)) hZ (W 135 rfl) (W 84 rfl))
  have N26 := Fr.app N0 Nq26
  have cc27 : oQ X26 S0' 45 #[sR a, uN] [.ref a] := Steps.trans st26 (by
    refine XS.ifYes X26.here hx rfl (pc0 := 37) rfl (q 8 rfl) rfl (i0_eq_t rfl) (by decide) rfl ?_
    refine XS.aloadN X26.here hx rfl (q 9 rfl) rfl rfl ?_
    exact Steps.refl _)
  obtain ⟨_, T28, L28, X28, ⟨w, kw, rfl, Nq28, Kq28, sq28, Aq28⟩, st28⟩ := oCI (y := yM35) (z := yM24) X26 cc27 hx hZ hown hml (q 10 rfl) eq26 E (W 333 rfl) (W 334 rfl) (mvT hZ (W 335 rfl)) (W 336 rfl) (W 337 rfl) (W 338 rfl) (W 339 rfl) (W 134 rfl) (by decide) [] [] (lenOf own_pd8 rfl) (bO (own_toa3 l Z a0 hw a t mr kt mm u0 o0 u1 o1 u2 o2 h0 n0 Z0 MM F2 F3 Et At P0 P1 P2 hm) hZ (W 340 rfl) (W 84 rfl))
  have N28 := Fr.app N26 Nq28
  have b_w : h0.size ≤ w := sq28
  have gn_w := Nat.le_trans Z0 b_w
  have s0_w := Nat.le_trans KK0.1 b_w
  have ml_w := Nat.le_trans hm b_w
  have ne_a_w := oN E.lt b_w
  have ne_t_w := oN Et.lt b_w
  have KK1 := KK0.trans Kq28 all0
  have Zs1 := Nat.le_trans Z0 Kq28.1
  have Ms1 := Nat.le_trans hm Kq28.1
  have e28 : T28.heap = T28.heap := rfl
  have cc30 : oQ X28 S0' 50 #[sR a, uN] [.ref w] := st28
  have fa29 := P0.up Kq28 all0
  have fa31 := P1.up Kq28 all0
  have fa32 := P2.up Kq28 all0
  obtain ⟨_, T33, L33, X33, ⟨y, g, kg, rfl, Nq33, Kq33, sy33, sg33, R133, R233, R333⟩, st33⟩ := oCT (y := yM32) X28 cc30 hx hZ hown hml (q 11 rfl) e28 (W 355 rfl) (W 356 rfl) (W 115 rfl) (W 357 rfl) (by decide) [.ref w] [] (lenOf own_pd16 rfl) (bO (own_of3 l Z a0 hw w kw mm u0 o0 u1 o1 u2 o2 T28.heap n0 Zs1 Aq28 fa29 fa31 fa32 Ms1) hZ (W 357 rfl) (W 115 rfl))
  have N33 := Fr.app N28 Nq33
  have b_y : T28.heap.size ≤ y := sy33
  have gn_y := Nat.le_trans Zs1 b_y
  have s0_y := Nat.le_trans KK1.1 b_y
  have ml_y := Nat.le_trans Ms1 b_y
  have fa34 := E.keep Kq28
  have ne_a_y := oN fa34.lt b_y
  have fa35 := Et.keep Kq28
  have ne_t_y := oN fa35.lt b_y
  have ne_w_y := oN Aq28.lt b_y
  have b_g : T28.heap.size ≤ g := sg33
  have gn_g := Nat.le_trans Zs1 b_g
  have s0_g := Nat.le_trans KK1.1 b_g
  have ml_g := Nat.le_trans Ms1 b_g
  have ne_a_g := oN fa34.lt b_g
  have ne_t_g := oN fa35.lt b_g
  have ne_w_g := oN Aq28.lt b_g
  have KK2 := KK1.trans Kq33 all0
  have Zs2 := Nat.le_trans Zs1 Kq33.1
  have Ms2 := Nat.le_trans Ms1 Kq33.1
  have e33 : T33.heap = T33.heap := rfl
  have cc36 : oQ X33 S0' 53 #[sR a, uN] [.ref y] := st33
  exact oRA X33 Bd cc36 (q 12 rfl) rfl (rfl) rfl e33 ⟨y, g, kg, rfl, N33, KK2, s0_y, s0_g, R133, R233, R333⟩
def Q_own_co3 (Z : State) (a t mr : Addr) (kt : ClassId) (mm : Nat) (u0 : Addr) (o0 : Option (List Int32)) (u1 : Addr) (o1 : Option (List Int32)) (u2 : Addr) (o2 : Option (List Int32)) (h0 : Heap) (n0 : Nat) (v : Option Value) (h : Heap) (L : List Loc) : Prop := ∃ (y : Addr) (g : Addr) (kg : ClassId), v = some (.ref y) ∧ Fr n0 L ∧ Keep h0 h [] ∧ h0.size ≤ y ∧ h0.size ≤ g ∧ zE3 Z h y ∧ zF8 Z h y (.ref g) ∧ Arv Z h g kg (.object "java/lang/Object") (3 : Int32) [(.ref u0), (.ref u1), (.ref u2)] .null
theorem own_co3 (l : Launch) (Z : State) (a0 : Array Value) (hw : oH a0 Z) (a t mr : Addr) (kt : ClassId) (mm : Nat) (u0 : Addr) (o0 : Option (List Int32)) (u1 : Addr) (o1 : Option (List Int32)) (u2 : Addr) (o2 : Option (List Int32)) (h0 : Heap) (n0 : Nat) (Z0 : n0 ≤ h0.size) (E : zE1 Z h0 a) (F2 : zF0 Z h0 a (.int (3 : Int32))) (F3 : zF1 Z h0 a (.ref t)) (Et : zE0 Z h0 t) (At : Arv Z h0 t kt (.object "java/lang/Object") (10 : Int32) [(.ref u0), (.ref u1), (.ref u2)] .null) (MM : own_Mir Z "[Ljava/lang/Object;" mr) (P0 : own_P Z h0 mm u0 o0) (P1 : own_P Z h0 mm u1 o1) (P2 : own_P Z h0 mm u2 o2) (hm : mm ≤ h0.size) :
    oC l yM37 (.code yM37 jdk_40_method_48_code 1 (some (.object "java/util/List"))) rM27 #[(.ref a)] Z h0 (Q_own_co3 Z a t mr kt mm u0 o0 u1 o1 u2 o2 h0 n0) := by
  refine oO (plainFor_of_name own_pn16) hisR fun p e s m below meth c s₁ S0' Bd hS hx dB hml hown hnm hZ X0 e0 => ?_
  have N0 := Fr.nil n0
  have KK0 := Keep.refl h0 ([] : List Addr)
  have cc0 : oQ X0 S0' 0 #[sR a] [] := oE hS rfl
  have W := @own_w Z a0 hw
  have q := @dX _ _ c D_35 @dB
  have cc21 : oQ X0 S0' 1 #[sR a] [.ref a] := Steps.trans cc0 (by
    refine XS.aloadN X0.here hx rfl (q 0 rfl) rfl rfl ?_
    exact Steps.refl _)
  obtain ⟨_, T22, L22, X22, ⟨y, g, kg, rfl, Nq22, Kq22, sy22, sg22, R122, R222, R322⟩, st22⟩ := oCT (y := yM36) X0 cc21 hx hZ hown hml (q 1 rfl) e0 (W 117 rfl) (W 118 rfl) (W 119 rfl) (W 120 rfl) (by decide) [.ref a] [] (lenOf own_pd18 rfl) (bO (own_lc3 l Z a0 hw a t mr kt mm u0 o0 u1 o1 u2 o2 h0 n0 Z0 E F2 F3 Et At MM P0 P1 P2 hm) hZ (W 120 rfl) (W 119 rfl))
  have N22 := Fr.app N0 Nq22
  have b_y : h0.size ≤ y := sy22
  have gn_y := Nat.le_trans Z0 b_y
  have s0_y := Nat.le_trans KK0.1 b_y
  have ml_y := Nat.le_trans hm b_y
  have ne_a_y := oN E.lt b_y
  have ne_t_y := oN Et.lt b_y
  have b_g : h0.size ≤ g := sg22
  have gn_g := Nat.le_trans Z0 b_g
  have s0_g := Nat.le_trans KK0.1 b_g
  have ml_g := Nat.le_trans hm b_g
  have ne_a_g := oN E.lt b_g
  have ne_t_g := oN Et.lt b_g
  have KK1 := KK0.trans Kq22 all0
  have Zs1 := Nat.le_trans Z0 Kq22.1
  have Ms1 := Nat.le_trans hm Kq22.1
  have e22 : T22.heap = T22.heap := rfl
  have cc23 : oQ X22 S0' 4 #[sR a] [.ref y] := st22
  exact oRA X22 Bd cc23 (q 2 rfl) rfl (rfl) rfl e22 ⟨y, g, kg, rfl, N22, KK1, s0_y, s0_g, R122, R222, R322⟩
def Q_own_lc0 (Z : State) (a el : Addr) (h0 : Heap) (n0 : Nat) (v : Option Value) (h : Heap) (L : List Loc) : Prop := v = some (.ref el) ∧ Fr n0 L ∧ h = h0
theorem own_lc0 (l : Launch) (Z : State) (a0 : Array Value) (hw : oH a0 Z) (a el : Addr) (h0 : Heap) (n0 : Nat) (Z0 : n0 ≤ h0.size) (X00 : Old Z n0 h0) (OL : Sta Z Z.heap "java/util/ImmutableCollections" "EMPTY_LIST" "Ljava/util/ImmutableCollections$ListN;" (.ref el)) (E : zE1 Z h0 a) (F2 : zF0 Z h0 a (.int (0 : Int32))) :
    oC l yM36 (.code yM36 jdk_56_method_3_code 2 (some (.object "java/util/List"))) rM28 #[(.ref a)] Z h0 (Q_own_lc0 Z a el h0 n0) := by
  refine oO (plainFor_of_name own_pn15) hisR fun p e s m below meth c s₁ S0' Bd hS hx dB hml hown hnm hZ X0 e0 => ?_
  have N0 := Fr.nil n0
  have KK0 := Keep.refl h0 ([] : List Addr)
  have cc0 : oQ X0 S0' 0 #[sR a, uN] [] := oE hS rfl
  have W := @own_w Z a0 hw
  have q := @dX _ _ c D_34 @dB
  have cc21 : oQ X0 S0' 1 #[sR a, uN] [.ref a] := Steps.trans cc0 (by
    refine XS.aloadN X0.here hx rfl (q 0 rfl) rfl rfl ?_
    exact Steps.refl _)
  obtain ⟨T22, X22, e22, st22⟩ := instNo X0 hx hZ hown (W 121 rfl) e0 E (own_no12 hw) (g := (mkF m 1 #[sR a, uN] [.ref a])) rfl rfl (q 1 rfl)
  have cc23 : oQ X22 S0' 8 #[sR a, uN] [.ref a] := Steps.trans (cc21.trans (st22 _ (Steps.refl _))) (by
    refine XS.ifNo X22.here hx rfl (q 2 rfl) rfl (i0_ne_f rfl) ?_
    refine XS.aloadN X22.here hx rfl (q 3 rfl) rfl rfl ?_
    exact Steps.refl _)
  obtain ⟨T24, X24, e24, st24⟩ := instNo X22 hx hZ hown (W 126 rfl) e22 E (own_noN hw) (g := (mkF m 8 #[sR a, uN] [.ref a])) rfl rfl (q 4 rfl)
  have cc25 : oQ X24 S0' 32 #[sR a, uN] [.ref a] := Steps.trans (cc23.trans (st24 _ (Steps.refl _))) (by
    refine XS.ifYes X24.here hx rfl (pc0 := 11) rfl (q 5 rfl) rfl (i0_eq_t rfl) (by decide) rfl ?_
    refine XS.aloadN X24.here hx rfl (q 6 rfl) rfl rfl ?_
    exact Steps.refl _)
  obtain ⟨_, T26, L26, X26, ⟨rfl, Nq26, eq26⟩, st26⟩ := oCI (y := yM34) (z := yM25) X24 cc25 hx hZ hown hml (q 7 rfl) e24 E (W 127 rfl) (W 128 rfl) (mvT hZ (W 129 rfl)) (W 130 rfl) (W 131 rfl) (W 132 rfl) (W 133 rfl) (W 134 rfl) (by decide) [] [] (lenOf own_pd17 rfl) (bO (own_ale0 l Z a0 hw a h0 n0 Z0 F2) hZ (W 135 rfl) (W 84 rfl))
  have N26 := Fr.app N0 Nq26
  have cc27 : oQ X26 S0' 40 #[sR a, uN] [] := Steps.trans st26 (by
    refine XS.ifNo X26.here hx rfl (q 8 rfl) rfl (i0_eq_f (by decide)) ?_
    exact Steps.refl _)
  obtain ⟨_, T28, L28, X28, ⟨rfl, Nq28, eq28⟩, st28⟩ := oCT (y := yM33) X26 cc27 hx hZ hown hml (q 13 rfl) eq26 (W 138 rfl) (W 139 rfl) (W 115 rfl) (W 140 rfl) (by decide) [] [] (lenOf own_pd19 rfl) (bO (own_of0 l Z a0 hw el h0 n0 Z0 X00 OL) hZ (W 140 rfl) (W 115 rfl))
  have N28 := Fr.app N26 Nq28
  have cc29 : oQ X28 S0' 43 #[sR a, uN] [.ref el] := st28
  exact oRA X28 Bd cc29 (q 14 rfl) rfl (rfl) rfl eq28 ⟨rfl, N28, rfl⟩
def Q_own_co0 (Z : State) (a el : Addr) (h0 : Heap) (n0 : Nat) (v : Option Value) (h : Heap) (L : List Loc) : Prop := v = some (.ref el) ∧ Fr n0 L ∧ h = h0
theorem own_co0 (l : Launch) (Z : State) (a0 : Array Value) (hw : oH a0 Z) (a el : Addr) (h0 : Heap) (n0 : Nat) (Z0 : n0 ≤ h0.size) (X00 : Old Z n0 h0) (OL : Sta Z Z.heap "java/util/ImmutableCollections" "EMPTY_LIST" "Ljava/util/ImmutableCollections$ListN;" (.ref el)) (E : zE1 Z h0 a) (F2 : zF0 Z h0 a (.int (0 : Int32))) :
    oC l yM37 (.code yM37 jdk_40_method_48_code 1 (some (.object "java/util/List"))) rM29 #[(.ref a)] Z h0 (Q_own_co0 Z a el h0 n0) := by
  refine oO (plainFor_of_name own_pn16) hisR fun p e s m below meth c s₁ S0' Bd hS hx dB hml hown hnm hZ X0 e0 => ?_
  have N0 := Fr.nil n0
  have KK0 := Keep.refl h0 ([] : List Addr)
  have cc0 : oQ X0 S0' 0 #[sR a] [] := oE hS rfl
  have W := @own_w Z a0 hw
  have q := @dX _ _ c D_35 @dB
  have cc21 : oQ X0 S0' 1 #[sR a] [.ref a] := Steps.trans cc0 (by
    refine XS.aloadN X0.here hx rfl (q 0 rfl) rfl rfl ?_
    exact Steps.refl _)
  obtain ⟨_, T22, L22, X22, ⟨rfl, Nq22, eq22⟩, st22⟩ := oCT (y := yM36) X0 cc21 hx hZ hown hml (q 1 rfl) e0 (W 117 rfl) (W 118 rfl) (W 119 rfl) (W 120 rfl) (by decide) [.ref a] [] (lenOf own_pd18 rfl) (bO (own_lc0 l Z a0 hw a el h0 n0 Z0 X00 OL E F2) hZ (W 120 rfl) (W 119 rfl))
  have N22 := Fr.app N0 Nq22
  have cc23 : oQ X22 S0' 4 #[sR a] [.ref el] := st22
  exact oRA X22 Bd cc23 (q 2 rfl) rfl (rfl) rfl eq22 ⟨rfl, N22, rfl⟩
def Q_own_tmi1 (Z : State) (tm : Addr) (b1 b2 : Int32) (a t mr : Addr) (kt : ClassId) (mm : Nat) (u0 : Addr) (o0 : Option (List Int32)) (em : Addr) (h0 : Heap) (n0 : Nat) (v : Option Value) (h : Heap) (L : List Loc) : Prop := ∃ (y : Addr), v = none ∧ Fr n0 L ∧ Keep h0 h [tm] ∧ h0.size ≤ y ∧ zE2 Z h y ∧ zF3 Z h y (.ref u0) ∧ zF4 Z h y (.ref em) ∧ zF14 Z h tm (.ref y)
theorem own_tmi1 (l : Launch) (Z : State) (a0 : Array Value) (hw : oH a0 Z) (tm : Addr) (b1 b2 : Int32) (a t mr : Addr) (kt : ClassId) (mm : Nat) (u0 : Addr) (o0 : Option (List Int32)) (em : Addr) (h0 : Heap) (n0 : Nat) (Z0 : n0 ≤ h0.size) (Em : zE8 Z h0 tm) (M1 : zF14 Z h0 tm .null) (M2 : zF16 Z h0 tm (.int (0 : Int32))) (M3 : zF17 Z h0 tm (.int (0 : Int32))) (gm : n0 ≤ tm) (hb1 : b1 = 0 ∨ b1 = 1) (hb2 : b2 = 0 ∨ b2 = 1) (E : zE1 Z h0 a) (F2 : zF0 Z h0 a (.int (1 : Int32))) (F3 : zF1 Z h0 a (.ref t)) (Et : zE0 Z h0 t) (At : Arv Z h0 t kt (.object "java/lang/Object") (10 : Int32) [(.ref u0)] .null) (MM : own_Mir Z "[Ljava/lang/Object;" mr) (X00 : Old Z n0 h0) (OE : Sta Z Z.heap "java/util/ImmutableCollections" "EMPTY" "Ljava/lang/Object;" (.ref em)) (P0 : own_P Z h0 mm u0 o0) (hm : mm ≤ h0.size) :
    oC l yM38 (.code yM38 prog_18_method_1_code 4 none) rM30 #[(.ref tm), (.ref a), (.int b1), (.int b2)] Z h0 (Q_own_tmi1 Z tm b1 b2 a t mr kt mm u0 o0 em h0 n0) := by
  refine oO (plainFor_of_name own_pn17) hisR fun p e s m below meth c s₁ S0' Bd hS hx dB hml hown hnm hZ X0 e0 => ?_
  have N0 := Fr.nil n0
  have KK0 := Keep.refl h0 [tm]
  have cc0 : oQ X0 S0' 0 #[sR tm, sR a, sI b1, sI b2] [] := oE hS rfl
  have W := @own_w Z a0 hw
  have q := @dX _ _ c D_36 @dB
  have w_143 := W 143 rfl
  have w_145 := W 145 rfl
  have w_147 := W 147 rfl
  have cc21 : oQ X0 S0' 1 #[sR tm, sR a, sI b1, sI b2] [.ref tm] := Steps.trans cc0 (by
    refine XS.aloadN X0.here hx rfl (q 0 rfl) rfl rfl ?_
    exact Steps.refl _)
  obtain ⟨_, T22, L22, X22, ⟨rfl, Nq22, eq22⟩, st22⟩ := oCN (y := yM0) X0 cc21 hx hZ hown hml (q 1 rfl) e0 tm rfl (W 112 rfl) (W 48 rfl) (W 51 rfl) (by decide) [] [] (lenOf own_pd4 rfl) (bO (own_rec l Z a0 hw tm h0 n0 Z0 ) hZ (W 51 rfl) (W 50 rfl))
  have N22 := Fr.app N0 Nq22
  have cc23 : oQ X22 S0' 5 #[sR tm, sR a, sI b1, sI b2] [.ref a] := Steps.trans st22 (by
    refine XS.aloadN X22.here hx rfl (q 2 rfl) rfl rfl ?_
    exact Steps.refl _)
  obtain ⟨_, T24, L24, X24, ⟨y, rfl, Nq24, Kq24, sy24, R124, R224, R324⟩, st24⟩ := oCT (y := yM37) X22 cc23 hx hZ hown hml (q 3 rfl) eq22 (W 113 rfl) (W 114 rfl) (W 115 rfl) (W 116 rfl) (by decide) [.ref a] [] (lenOf own_pd18 rfl) (bO (own_co1 l Z a0 hw a t mr kt mm u0 o0 em h0 n0 Z0 E F2 F3 Et At MM X00 OE P0 hm) hZ (W 116 rfl) (W 115 rfl))
  have N24 := Fr.app N22 Nq24
  have b_y : h0.size ≤ y := sy24
  have gn_y := Nat.le_trans Z0 b_y
  have s0_y := Nat.le_trans KK0.1 b_y
  have ne_tm_y := oN Em.lt b_y
  have KK1 := KK0.trans Kq24 all0
  have Zs1 := Nat.le_trans Z0 Kq24.1
  have e24 : T24.heap = T24.heap := rfl
  have cc26 : oQ X24 S0' 11 #[sR tm, sR y, sI b1, sI b2] [.ref y, .ref tm] := Steps.trans st24 (by
    refine XS.astoreN X24.here hx rfl (q 4 rfl) rfl rfl rfl ?_
    refine XS.aloadN X24.here hx rfl (q 5 rfl) rfl rfl ?_
    refine XS.aloadN X24.here hx rfl (q 6 rfl) rfl rfl ?_
    exact Steps.refl _)
  have fa25 := M1.keep Kq24 nin0
  have fa27 := Em.keep Kq24
  obtain ⟨T28, h28, X28, e28, W28, st28⟩ := oPF X24 cc26 hx hZ hown (W 142 rfl) Via.refl e24 fa25 fa27 (Or.inr ⟨w_143, rfl, hnm⟩) (W 107 rfl) (ty := (.object "java/util/List")) (by decide) rfl rfl (q 7 rfl)
  have K28 := Keep.of_wr W28
  have N28 := Fr.snoc X28 N24 gm
  have KK2 := KK1.trans K28 (allS (Or.inl (lM 0 rfl)) all0)
  have Zs2 := Nat.le_trans Zs1 K28.1
  have cc30 : oQ X28 S0' 16 #[sR tm, sR y, sI b1, sI b2] [.int b1, .ref tm] := Steps.trans st28 (by
    refine XS.aloadN X28.here hx rfl (q 8 rfl) rfl rfl ?_
    refine XS.iloadN X28.here hx rfl (q 9 rfl) rfl ?_
    exact Steps.refl _)
  have fa29 := (M2.keep Kq24 nin0).other W28 (Or.inr (slot_ne (Or.inr w_145) (Or.inr w_143) (by decide) (t := .boolean) (t' := (.object "java/util/List")) (by decide) (by decide)))
  have fa31 := fa27.keep K28
  obtain ⟨T32, h32, X32, e32, W32, st32⟩ := oPF X28 cc30 hx hZ hown (W 144 rfl) Via.refl e28 fa29 fa31 (Or.inr ⟨w_145, rfl, hnm⟩) (W 107 rfl) (ty := .boolean) (v := (.int b1)) (v' := (.int b1)) (by decide) (by rcases hb1 with rfl | rfl <;> rfl) (by rcases hb1 with rfl | rfl <;> rfl) (q 10 rfl)
  have K32 := Keep.of_wr W32
  have N32 := Fr.snoc X32 N28 gm
  have KK3 := KK2.trans K32 (allS (Or.inl (lM 0 rfl)) all0)
  have Zs3 := Nat.le_trans Zs2 K32.1
  have cc34 : oQ X32 S0' 21 #[sR tm, sR y, sI b1, sI b2] [.int b2, .ref tm] := Steps.trans st32 (by
    refine XS.aloadN X32.here hx rfl (q 11 rfl) rfl rfl ?_
    refine XS.iloadN X32.here hx rfl (q 12 rfl) rfl ?_
    exact Steps.refl _)
  have fa33 := ((M3.keep Kq24 nin0).other W28 (Or.inr (slot_ne (Or.inr w_147) (Or.inr w_143) (by decide) (t := .boolean) (t' := (.object "java/util/List")) (by decide) (by decide)))).other W32 (Or.inr (slot_ne (Or.inr w_147) (Or.inr w_145) (by decide) (t := .boolean) (t' := .boolean) (by decide) (by decide)))
  have fa35 := fa31.keep K32
  obtain ⟨T36, h36, X36, e36, W36, st36⟩ := oPF X32 cc34 hx hZ hown (W 146 rfl) Via.refl e32 fa33 fa35 (Or.inr ⟨w_147, rfl, hnm⟩) (W 107 rfl) (ty := .boolean) (v := (.int b2)) (v' := (.int b2)) (by decide) (by rcases hb2 with rfl | rfl <;> rfl) (by rcases hb2 with rfl | rfl <;> rfl) (q 13 rfl)
  have K36 := Keep.of_wr W36
  have N36 := Fr.snoc X36 N32 gm
  have KK4 := KK3.trans K36 (allS (Or.inl (lM 0 rfl)) all0)
  have Zs4 := Nat.le_trans Zs3 K36.1
  have cc38 : oQ X36 S0' 24 #[sR tm, sR y, sI b1, sI b2] [] := st36
  have fa37 := ((R124.keep K28).keep K32).keep K36
  have fa39 := ((R224.keep K28 (ninS (Ne.symm ne_tm_y) nin0)).keep K32 (ninS (Ne.symm ne_tm_y) nin0)).keep K36 (ninS (Ne.symm ne_tm_y) nin0)
  have fa40 := ((R324.keep K28 (ninS (Ne.symm ne_tm_y) nin0)).keep K32 (ninS (Ne.symm ne_tm_y) nin0)).keep K36 (ninS (Ne.symm ne_tm_y) nin0)
  have fa41 := ((Fld.same W28 fa25).other W32 (Or.inr (slot_ne (Or.inr w_143) (Or.inr w_145) (by decide) (t := (.object "java/util/List")) (t' := .boolean) (by decide) (by decide)))).other W36 (Or.inr (slot_ne (Or.inr w_143) (Or.inr w_147) (by decide) (t := (.object "java/util/List")) (t' := .boolean) (by decide) (by decide)))
  exact oRV X36 Bd cc38 (q 14 rfl) rfl e36 ⟨y, rfl, N36, KK4, s0_y, fa37, fa39, fa40, fa41⟩
def Q_own_tmi2 (Z : State) (tm : Addr) (b1 b2 : Int32) (a t mr : Addr) (kt : ClassId) (mm : Nat) (u0 : Addr) (o0 : Option (List Int32)) (u1 : Addr) (o1 : Option (List Int32)) (h0 : Heap) (n0 : Nat) (v : Option Value) (h : Heap) (L : List Loc) : Prop := ∃ (y : Addr), v = none ∧ Fr n0 L ∧ Keep h0 h [tm] ∧ h0.size ≤ y ∧ zE2 Z h y ∧ zF3 Z h y (.ref u0) ∧ zF4 Z h y (.ref u1) ∧ zF14 Z h tm (.ref y)
theorem own_tmi2 (l : Launch) (Z : State) (a0 : Array Value) (hw : oH a0 Z) (tm : Addr) (b1 b2 : Int32) (a t mr : Addr) (kt : ClassId) (mm : Nat) (u0 : Addr) (o0 : Option (List Int32)) (u1 : Addr) (o1 : Option (List Int32)) (h0 : Heap) (n0 : Nat) (Z0 : n0 ≤ h0.size) (Em : zE8 Z h0 tm) (M1 : zF14 Z h0 tm .null) (M2 : zF16 Z h0 tm (.int (0 : Int32))) (M3 : zF17 Z h0 tm (.int (0 : Int32))) (gm : n0 ≤ tm) (hb1 : b1 = 0 ∨ b1 = 1) (hb2 : b2 = 0 ∨ b2 = 1) (E : zE1 Z h0 a) (F2 : zF0 Z h0 a (.int (2 : Int32))) (F3 : zF1 Z h0 a (.ref t)) (Et : zE0 Z h0 t) (At : Arv Z h0 t kt (.object "java/lang/Object") (10 : Int32) [(.ref u0), (.ref u1)] .null) (MM : own_Mir Z "[Ljava/lang/Object;" mr) (P0 : own_P Z h0 mm u0 o0) (P1 : own_P Z h0 mm u1 o1) (hm : mm ≤ h0.size) :
    oC l yM38 (.code yM38 prog_18_method_1_code 4 none) rM30 #[(.ref tm), (.ref a), (.int b1), (.int b2)] Z h0 (Q_own_tmi2 Z tm b1 b2 a t mr kt mm u0 o0 u1 o1 h0 n0) := by
  refine oO (plainFor_of_name own_pn17) hisR fun p e s m below meth c s₁ S0' Bd hS hx dB hml hown hnm hZ X0 e0 => ?_
  have N0 := Fr.nil n0
  have KK0 := Keep.refl h0 [tm]
  have cc0 : oQ X0 S0' 0 #[sR tm, sR a, sI b1, sI b2] [] := oE hS rfl
  have W := @own_w Z a0 hw
  have q := @dX _ _ c D_36 @dB
  have w_143 := W 143 rfl
  have w_145 := W 145 rfl
  have w_147 := W 147 rfl
  have cc21 : oQ X0 S0' 1 #[sR tm, sR a, sI b1, sI b2] [.ref tm] := Steps.trans cc0 (by
    refine XS.aloadN X0.here hx rfl (q 0 rfl) rfl rfl ?_
    exact Steps.refl _)
  obtain ⟨_, T22, L22, X22, ⟨rfl, Nq22, eq22⟩, st22⟩ := oCN (y := yM0) X0 cc21 hx hZ hown hml (q 1 rfl) e0 tm rfl (W 112 rfl) (W 48 rfl) (W 51 rfl) (by decide) [] [] (lenOf own_pd4 rfl) (bO (own_rec l Z a0 hw tm h0 n0 Z0 ) hZ (W 51 rfl) (W 50 rfl))
  have N22 := Fr.app N0 Nq22
  have cc23 : oQ X22 S0' 5 #[sR tm, sR a, sI b1, sI b2] [.ref a] := Steps.trans st22 (by
    refine XS.aloadN X22.here hx rfl (q 2 rfl) rfl rfl ?_
    exact Steps.refl _)
  obtain ⟨_, T24, L24, X24, ⟨y, rfl, Nq24, Kq24, sy24, R124, R224, R324⟩, st24⟩ := oCT (y := yM37) X22 cc23 hx hZ hown hml (q 3 rfl) eq22 (W 113 rfl) (W 114 rfl) (W 115 rfl) (W 116 rfl) (by decide) [.ref a] [] (lenOf own_pd18 rfl) (bO (own_co2 l Z a0 hw a t mr kt mm u0 o0 u1 o1 h0 n0 Z0 E F2 F3 Et At MM P0 P1 hm) hZ (W 116 rfl) (W 115 rfl))
  have N24 := Fr.app N22 Nq24
  have b_y : h0.size ≤ y := sy24
  have gn_y := Nat.le_trans Z0 b_y
  have s0_y := Nat.le_trans KK0.1 b_y
  have ne_tm_y := oN Em.lt b_y
  have KK1 := KK0.trans Kq24 all0
  have Zs1 := Nat.le_trans Z0 Kq24.1
  have e24 : T24.heap = T24.heap := rfl
  have cc26 : oQ X24 S0' 11 #[sR tm, sR y, sI b1, sI b2] [.ref y, .ref tm] := Steps.trans st24 (by
    refine XS.astoreN X24.here hx rfl (q 4 rfl) rfl rfl rfl ?_
    refine XS.aloadN X24.here hx rfl (q 5 rfl) rfl rfl ?_
    refine XS.aloadN X24.here hx rfl (q 6 rfl) rfl rfl ?_
    exact Steps.refl _)
  have fa25 := M1.keep Kq24 nin0
  have fa27 := Em.keep Kq24
  obtain ⟨T28, h28, X28, e28, W28, st28⟩ := oPF X24 cc26 hx hZ hown (W 142 rfl) Via.refl e24 fa25 fa27 (Or.inr ⟨w_143, rfl, hnm⟩) (W 107 rfl) (ty := (.object "java/util/List")) (by decide) rfl rfl (q 7 rfl)
  have K28 := Keep.of_wr W28
  have N28 := Fr.snoc X28 N24 gm
  have KK2 := KK1.trans K28 (allS (Or.inl (lM 0 rfl)) all0)
  have Zs2 := Nat.le_trans Zs1 K28.1
  have cc30 : oQ X28 S0' 16 #[sR tm, sR y, sI b1, sI b2] [.int b1, .ref tm] := Steps.trans st28 (by
    refine XS.aloadN X28.here hx rfl (q 8 rfl) rfl rfl ?_
    refine XS.iloadN X28.here hx rfl (q 9 rfl) rfl ?_
    exact Steps.refl _)
  have fa29 := (M2.keep Kq24 nin0).other W28 (Or.inr (slot_ne (Or.inr w_145) (Or.inr w_143) (by decide) (t := .boolean) (t' := (.object "java/util/List")) (by decide) (by decide)))
  have fa31 := fa27.keep K28
  obtain ⟨T32, h32, X32, e32, W32, st32⟩ := oPF X28 cc30 hx hZ hown (W 144 rfl) Via.refl e28 fa29 fa31 (Or.inr ⟨w_145, rfl, hnm⟩) (W 107 rfl) (ty := .boolean) (v := (.int b1)) (v' := (.int b1)) (by decide) (by rcases hb1 with rfl | rfl <;> rfl) (by rcases hb1 with rfl | rfl <;> rfl) (q 10 rfl)
  have K32 := Keep.of_wr W32
  have N32 := Fr.snoc X32 N28 gm
  have KK3 := KK2.trans K32 (allS (Or.inl (lM 0 rfl)) all0)
  have Zs3 := Nat.le_trans Zs2 K32.1
  have cc34 : oQ X32 S0' 21 #[sR tm, sR y, sI b1, sI b2] [.int b2, .ref tm] := Steps.trans st32 (by
    refine XS.aloadN X32.here hx rfl (q 11 rfl) rfl rfl ?_
    refine XS.iloadN X32.here hx rfl (q 12 rfl) rfl ?_
    exact Steps.refl _)
  have fa33 := ((M3.keep Kq24 nin0).other W28 (Or.inr (slot_ne (Or.inr w_147) (Or.inr w_143) (by decide) (t := .boolean) (t' := (.object "java/util/List")) (by decide) (by decide)))).other W32 (Or.inr (slot_ne (Or.inr w_147) (Or.inr w_145) (by decide) (t := .boolean) (t' := .boolean) (by decide) (by decide)))
  have fa35 := fa31.keep K32
  obtain ⟨T36, h36, X36, e36, W36, st36⟩ := oPF X32 cc34 hx hZ hown (W 146 rfl) Via.refl e32 fa33 fa35 (Or.inr ⟨w_147, rfl, hnm⟩) (W 107 rfl) (ty := .boolean) (v := (.int b2)) (v' := (.int b2)) (by decide) (by rcases hb2 with rfl | rfl <;> rfl) (by rcases hb2 with rfl | rfl <;> rfl) (q 13 rfl)
  have K36 := Keep.of_wr W36
  have N36 := Fr.snoc X36 N32 gm
  have KK4 := KK3.trans K36 (allS (Or.inl (lM 0 rfl)) all0)
  have Zs4 := Nat.le_trans Zs3 K36.1
  have cc38 : oQ X36 S0' 24 #[sR tm, sR y, sI b1, sI b2] [] := st36
  have fa37 := ((R124.keep K28).keep K32).keep K36
  have fa39 := ((R224.keep K28 (ninS (Ne.symm ne_tm_y) nin0)).keep K32 (ninS (Ne.symm ne_tm_y) nin0)).keep K36 (ninS (Ne.symm ne_tm_y) nin0)
  have fa40 := ((R324.keep K28 (ninS (Ne.symm ne_tm_y) nin0)).keep K32 (ninS (Ne.symm ne_tm_y) nin0)).keep K36 (ninS (Ne.symm ne_tm_y) nin0)
  have fa41 := ((Fld.same W28 fa25).other W32 (Or.inr (slot_ne (Or.inr w_143) (Or.inr w_145) (by decide) (t := (.object "java/util/List")) (t' := .boolean) (by decide) (by decide)))).other W36 (Or.inr (slot_ne (Or.inr w_143) (Or.inr w_147) (by decide) (t := (.object "java/util/List")) (t' := .boolean) (by decide) (by decide)))
  exact oRV X36 Bd cc38 (q 14 rfl) rfl e36 ⟨y, rfl, N36, KK4, s0_y, fa37, fa39, fa40, fa41⟩
def Q_own_tmi3 (Z : State) (tm : Addr) (b1 b2 : Int32) (a t mr : Addr) (kt : ClassId) (mm : Nat) (u0 : Addr) (o0 : Option (List Int32)) (u1 : Addr) (o1 : Option (List Int32)) (u2 : Addr) (o2 : Option (List Int32)) (h0 : Heap) (n0 : Nat) (v : Option Value) (h : Heap) (L : List Loc) : Prop := ∃ (y : Addr) (g : Addr) (kg : ClassId), v = none ∧ Fr n0 L ∧ Keep h0 h [tm] ∧ h0.size ≤ y ∧ h0.size ≤ g ∧ zE3 Z h y ∧ zF8 Z h y (.ref g) ∧ Arv Z h g kg (.object "java/lang/Object") (3 : Int32) [(.ref u0), (.ref u1), (.ref u2)] .null ∧ zF14 Z h tm (.ref y)
theorem own_tmi3 (l : Launch) (Z : State) (a0 : Array Value) (hw : oH a0 Z) (tm : Addr) (b1 b2 : Int32) (a t mr : Addr) (kt : ClassId) (mm : Nat) (u0 : Addr) (o0 : Option (List Int32)) (u1 : Addr) (o1 : Option (List Int32)) (u2 : Addr) (o2 : Option (List Int32)) (h0 : Heap) (n0 : Nat) (Z0 : n0 ≤ h0.size) (Em : zE8 Z h0 tm) (M1 : zF14 Z h0 tm .null) (M2 : zF16 Z h0 tm (.int (0 : Int32))) (M3 : zF17 Z h0 tm (.int (0 : Int32))) (gm : n0 ≤ tm) (hb1 : b1 = 0 ∨ b1 = 1) (hb2 : b2 = 0 ∨ b2 = 1) (E : zE1 Z h0 a) (F2 : zF0 Z h0 a (.int (3 : Int32))) (F3 : zF1 Z h0 a (.ref t)) (Et : zE0 Z h0 t) (At : Arv Z h0 t kt (.object "java/lang/Object") (10 : Int32) [(.ref u0), (.ref u1), (.ref u2)] .null) (MM : own_Mir Z "[Ljava/lang/Object;" mr) (P0 : own_P Z h0 mm u0 o0) (P1 : own_P Z h0 mm u1 o1) (P2 : own_P Z h0 mm u2 o2) (hm : mm ≤ h0.size) :
    oC l yM38 (.code yM38 prog_18_method_1_code 4 none) rM30 #[(.ref tm), (.ref a), (.int b1), (.int b2)] Z h0 (Q_own_tmi3 Z tm b1 b2 a t mr kt mm u0 o0 u1 o1 u2 o2 h0 n0) := by
  refine oO (plainFor_of_name own_pn17) hisR fun p e s m below meth c s₁ S0' Bd hS hx dB hml hown hnm hZ X0 e0 => ?_
  have N0 := Fr.nil n0
  have KK0 := Keep.refl h0 [tm]
  have cc0 : oQ X0 S0' 0 #[sR tm, sR a, sI b1, sI b2] [] := oE hS rfl
  have W := @own_w Z a0 hw
  have q := @dX _ _ c D_36 @dB
  have w_143 := W 143 rfl
  have w_145 := W 145 rfl
  have w_147 := W 147 rfl
  have cc21 : oQ X0 S0' 1 #[sR tm, sR a, sI b1, sI b2] [.ref tm] := Steps.trans cc0 (by
    refine XS.aloadN X0.here hx rfl (q 0 rfl) rfl rfl ?_
    exact Steps.refl _)
  obtain ⟨_, T22, L22, X22, ⟨rfl, Nq22, eq22⟩, st22⟩ := oCN (y := yM0) X0 cc21 hx hZ hown hml (q 1 rfl) e0 tm rfl (W 112 rfl) (W 48 rfl) (W 51 rfl) (by decide) [] [] (lenOf own_pd4 rfl) (bO (own_rec l Z a0 hw tm h0 n0 Z0 ) hZ (W 51 rfl) (W 50 rfl))
  have N22 := Fr.app N0 Nq22
  have cc23 : oQ X22 S0' 5 #[sR tm, sR a, sI b1, sI b2] [.ref a] := Steps.trans st22 (by
    refine XS.aloadN X22.here hx rfl (q 2 rfl) rfl rfl ?_
    exact Steps.refl _)
  obtain ⟨_, T24, L24, X24, ⟨y, g, kg, rfl, Nq24, Kq24, sy24, sg24, R124, R224, R324⟩, st24⟩ := oCT (y := yM37) X22 cc23 hx hZ hown hml (q 3 rfl) eq22 (W 113 rfl) (W 114 rfl) (W 115 rfl) (W 116 rfl) (by decide) [.ref a] [] (lenOf own_pd18 rfl) (bO (own_co3 l Z a0 hw a t mr kt mm u0 o0 u1 o1 u2 o2 h0 n0 Z0 E F2 F3 Et At MM P0 P1 P2 hm) hZ (W 116 rfl) (W 115 rfl))
  have N24 := Fr.app N22 Nq24
  have b_y : h0.size ≤ y := sy24
  have gn_y := Nat.le_trans Z0 b_y
  have s0_y := Nat.le_trans KK0.1 b_y
  have ne_tm_y := oN Em.lt b_y
  have b_g : h0.size ≤ g := sg24
  have gn_g := Nat.le_trans Z0 b_g
  have s0_g := Nat.le_trans KK0.1 b_g
  have ne_tm_g := oN Em.lt b_g
  have KK1 := KK0.trans Kq24 all0
  have Zs1 := Nat.le_trans Z0 Kq24.1
  have e24 : T24.heap = T24.heap := rfl
  have cc26 : oQ X24 S0' 11 #[sR tm, sR y, sI b1, sI b2] [.ref y, .ref tm] := Steps.trans st24 (by
    refine XS.astoreN X24.here hx rfl (q 4 rfl) rfl rfl rfl ?_
    refine XS.aloadN X24.here hx rfl (q 5 rfl) rfl rfl ?_
    refine XS.aloadN X24.here hx rfl (q 6 rfl) rfl rfl ?_
    exact Steps.refl _)
  have fa25 := M1.keep Kq24 nin0
  have fa27 := Em.keep Kq24
  obtain ⟨T28, h28, X28, e28, W28, st28⟩ := oPF X24 cc26 hx hZ hown (W 142 rfl) Via.refl e24 fa25 fa27 (Or.inr ⟨w_143, rfl, hnm⟩) (W 107 rfl) (ty := (.object "java/util/List")) (by decide) rfl rfl (q 7 rfl)
  have K28 := Keep.of_wr W28
  have N28 := Fr.snoc X28 N24 gm
  have KK2 := KK1.trans K28 (allS (Or.inl (lM 0 rfl)) all0)
  have Zs2 := Nat.le_trans Zs1 K28.1
  have cc30 : oQ X28 S0' 16 #[sR tm, sR y, sI b1, sI b2] [.int b1, .ref tm] := Steps.trans st28 (by
    refine XS.aloadN X28.here hx rfl (q 8 rfl) rfl rfl ?_
    refine XS.iloadN X28.here hx rfl (q 9 rfl) rfl ?_
    exact Steps.refl _)
  have fa29 := (M2.keep Kq24 nin0).other W28 (Or.inr (slot_ne (Or.inr w_145) (Or.inr w_143) (by decide) (t := .boolean) (t' := (.object "java/util/List")) (by decide) (by decide)))
  have fa31 := fa27.keep K28
  obtain ⟨T32, h32, X32, e32, W32, st32⟩ := oPF X28 cc30 hx hZ hown (W 144 rfl) Via.refl e28 fa29 fa31 (Or.inr ⟨w_145, rfl, hnm⟩) (W 107 rfl) (ty := .boolean) (v := (.int b1)) (v' := (.int b1)) (by decide) (by rcases hb1 with rfl | rfl <;> rfl) (by rcases hb1 with rfl | rfl <;> rfl) (q 10 rfl)
  have K32 := Keep.of_wr W32
  have N32 := Fr.snoc X32 N28 gm
  have KK3 := KK2.trans K32 (allS (Or.inl (lM 0 rfl)) all0)
  have Zs3 := Nat.le_trans Zs2 K32.1
  have cc34 : oQ X32 S0' 21 #[sR tm, sR y, sI b1, sI b2] [.int b2, .ref tm] := Steps.trans st32 (by
    refine XS.aloadN X32.here hx rfl (q 11 rfl) rfl rfl ?_
    refine XS.iloadN X32.here hx rfl (q 12 rfl) rfl ?_
    exact Steps.refl _)
  have fa33 := ((M3.keep Kq24 nin0).other W28 (Or.inr (slot_ne (Or.inr w_147) (Or.inr w_143) (by decide) (t := .boolean) (t' := (.object "java/util/List")) (by decide) (by decide)))).other W32 (Or.inr (slot_ne (Or.inr w_147) (Or.inr w_145) (by decide) (t := .boolean) (t' := .boolean) (by decide) (by decide)))
  have fa35 := fa31.keep K32
  obtain ⟨T36, h36, X36, e36, W36, st36⟩ := oPF X32 cc34 hx hZ hown (W 146 rfl) Via.refl e32 fa33 fa35 (Or.inr ⟨w_147, rfl, hnm⟩) (W 107 rfl) (ty := .boolean) (v := (.int b2)) (v' := (.int b2)) (by decide) (by rcases hb2 with rfl | rfl <;> rfl) (by rcases hb2 with rfl | rfl <;> rfl) (q 13 rfl)
  have K36 := Keep.of_wr W36
  have N36 := Fr.snoc X36 N32 gm
  have KK4 := KK3.trans K36 (allS (Or.inl (lM 0 rfl)) all0)
  have Zs4 := Nat.le_trans Zs3 K36.1
  have cc38 : oQ X36 S0' 24 #[sR tm, sR y, sI b1, sI b2] [] := st36
  have fa37 := ((R124.keep K28).keep K32).keep K36
  have fa39 := ((R224.keep K28 (ninS (Ne.symm ne_tm_y) nin0)).keep K32 (ninS (Ne.symm ne_tm_y) nin0)).keep K36 (ninS (Ne.symm ne_tm_y) nin0)
  have fa40 := ((R324.keep K28 (ninS (Ne.symm ne_tm_g) nin0)).keep K32 (ninS (Ne.symm ne_tm_g) nin0)).keep K36 (ninS (Ne.symm ne_tm_g) nin0)
  have fa41 := ((Fld.same W28 fa25).other W32 (Or.inr (slot_ne (Or.inr w_143) (Or.inr w_145) (by decide) (t := (.object "java/util/List")) (t' := .boolean) (by decide) (by decide)))).other W36 (Or.inr (slot_ne (Or.inr w_143) (Or.inr w_147) (by decide) (t := (.object "java/util/List")) (t' := .boolean) (by decide) (by decide)))
  exact oRV X36 Bd cc38 (q 14 rfl) rfl e36 ⟨y, g, kg, rfl, N36, KK4, s0_y, s0_g, fa37, fa39, fa40, fa41⟩
def Q_own_tmi0 (Z : State) (tm : Addr) (b1 b2 : Int32) (a el : Addr) (h0 : Heap) (n0 : Nat) (v : Option Value) (h : Heap) (L : List Loc) : Prop := v = none ∧ Fr n0 L ∧ Keep h0 h [tm] ∧ zF14 Z h tm (.ref el)
theorem own_tmi0 (l : Launch) (Z : State) (a0 : Array Value) (hw : oH a0 Z) (tm : Addr) (b1 b2 : Int32) (a el : Addr) (h0 : Heap) (n0 : Nat) (Z0 : n0 ≤ h0.size) (Em : zE8 Z h0 tm) (M1 : zF14 Z h0 tm .null) (M2 : zF16 Z h0 tm (.int (0 : Int32))) (M3 : zF17 Z h0 tm (.int (0 : Int32))) (gm : n0 ≤ tm) (hb1 : b1 = 0 ∨ b1 = 1) (hb2 : b2 = 0 ∨ b2 = 1) (X00 : Old Z n0 h0) (OL : Sta Z Z.heap "java/util/ImmutableCollections" "EMPTY_LIST" "Ljava/util/ImmutableCollections$ListN;" (.ref el)) (E : zE1 Z h0 a) (F2 : zF0 Z h0 a (.int (0 : Int32))) :
    oC l yM38 (.code yM38 prog_18_method_1_code 4 none) rM31 #[(.ref tm), (.ref a), (.int b1), (.int b2)] Z h0 (Q_own_tmi0 Z tm b1 b2 a el h0 n0) := by
  refine oO (plainFor_of_name own_pn17) hisR fun p e s m below meth c s₁ S0' Bd hS hx dB hml hown hnm hZ X0 e0 => ?_
  have N0 := Fr.nil n0
  have KK0 := Keep.refl h0 [tm]
  have cc0 : oQ X0 S0' 0 #[sR tm, sR a, sI b1, sI b2] [] := oE hS rfl
  have W := @own_w Z a0 hw
  have q := @dX _ _ c D_36 @dB
  have w_143 := W 143 rfl
  have w_145 := W 145 rfl
  have w_147 := W 147 rfl
  have cc21 : oQ X0 S0' 1 #[sR tm, sR a, sI b1, sI b2] [.ref tm] := Steps.trans cc0 (by
    refine XS.aloadN X0.here hx rfl (q 0 rfl) rfl rfl ?_
    exact Steps.refl _)
  obtain ⟨_, T22, L22, X22, ⟨rfl, Nq22, eq22⟩, st22⟩ := oCN (y := yM0) X0 cc21 hx hZ hown hml (q 1 rfl) e0 tm rfl (W 112 rfl) (W 48 rfl) (W 51 rfl) (by decide) [] [] (lenOf own_pd4 rfl) (bO (own_rec l Z a0 hw tm h0 n0 Z0 ) hZ (W 51 rfl) (W 50 rfl))
  have N22 := Fr.app N0 Nq22
  have cc23 : oQ X22 S0' 5 #[sR tm, sR a, sI b1, sI b2] [.ref a] := Steps.trans st22 (by
    refine XS.aloadN X22.here hx rfl (q 2 rfl) rfl rfl ?_
    exact Steps.refl _)
  obtain ⟨_, T24, L24, X24, ⟨rfl, Nq24, eq24⟩, st24⟩ := oCT (y := yM37) X22 cc23 hx hZ hown hml (q 3 rfl) eq22 (W 113 rfl) (W 114 rfl) (W 115 rfl) (W 116 rfl) (by decide) [.ref a] [] (lenOf own_pd18 rfl) (bO (own_co0 l Z a0 hw a el h0 n0 Z0 X00 OL E F2) hZ (W 116 rfl) (W 115 rfl))
  have N24 := Fr.app N22 Nq24
  have cc25 : oQ X24 S0' 11 #[sR tm, sR el, sI b1, sI b2] [.ref el, .ref tm] := Steps.trans st24 (by
    refine XS.astoreN X24.here hx rfl (q 4 rfl) rfl rfl rfl ?_
    refine XS.aloadN X24.here hx rfl (q 5 rfl) rfl rfl ?_
    refine XS.aloadN X24.here hx rfl (q 6 rfl) rfl rfl ?_
    exact Steps.refl _)
  obtain ⟨T26, h26, X26, e26, W26, st26⟩ := oPF X24 cc25 hx hZ hown (W 142 rfl) Via.refl eq24 M1 Em (Or.inr ⟨w_143, rfl, hnm⟩) (W 107 rfl) (ty := (.object "java/util/List")) (by decide) rfl rfl (q 7 rfl)
  have K26 := Keep.of_wr W26
  have N26 := Fr.snoc X26 N24 gm
  have KK1 := KK0.trans K26 (allS (Or.inl (lM 0 rfl)) all0)
  have Zs1 := Nat.le_trans Z0 K26.1
  have cc28 : oQ X26 S0' 16 #[sR tm, sR el, sI b1, sI b2] [.int b1, .ref tm] := Steps.trans st26 (by
    refine XS.aloadN X26.here hx rfl (q 8 rfl) rfl rfl ?_
    refine XS.iloadN X26.here hx rfl (q 9 rfl) rfl ?_
    exact Steps.refl _)
  have fa27 := M2.other W26 (Or.inr (slot_ne (Or.inr w_145) (Or.inr w_143) (by decide) (t := .boolean) (t' := (.object "java/util/List")) (by decide) (by decide)))
  have fa29 := Em.keep K26
  obtain ⟨T30, h30, X30, e30, W30, st30⟩ := oPF X26 cc28 hx hZ hown (W 144 rfl) Via.refl e26 fa27 fa29 (Or.inr ⟨w_145, rfl, hnm⟩) (W 107 rfl) (ty := .boolean) (v := (.int b1)) (v' := (.int b1)) (by decide) (by rcases hb1 with rfl | rfl <;> rfl) (by rcases hb1 with rfl | rfl <;> rfl) (q 10 rfl)
  have K30 := Keep.of_wr W30
  have N30 := Fr.snoc X30 N26 gm
  have KK2 := KK1.trans K30 (allS (Or.inl (lM 0 rfl)) all0)
  have Zs2 := Nat.le_trans Zs1 K30.1
  have cc32 : oQ X30 S0' 21 #[sR tm, sR el, sI b1, sI b2] [.int b2, .ref tm] := Steps.trans st30 (by
    refine XS.aloadN X30.here hx rfl (q 11 rfl) rfl rfl ?_
    refine XS.iloadN X30.here hx rfl (q 12 rfl) rfl ?_
    exact Steps.refl _)
  have fa31 := (M3.other W26 (Or.inr (slot_ne (Or.inr w_147) (Or.inr w_143) (by decide) (t := .boolean) (t' := (.object "java/util/List")) (by decide) (by decide)))).other W30 (Or.inr (slot_ne (Or.inr w_147) (Or.inr w_145) (by decide) (t := .boolean) (t' := .boolean) (by decide) (by decide)))
  have fa33 := fa29.keep K30
  obtain ⟨T34, h34, X34, e34, W34, st34⟩ := oPF X30 cc32 hx hZ hown (W 146 rfl) Via.refl e30 fa31 fa33 (Or.inr ⟨w_147, rfl, hnm⟩) (W 107 rfl) (ty := .boolean) (v := (.int b2)) (v' := (.int b2)) (by decide) (by rcases hb2 with rfl | rfl <;> rfl) (by rcases hb2 with rfl | rfl <;> rfl) (q 13 rfl)
  have K34 := Keep.of_wr W34
  have N34 := Fr.snoc X34 N30 gm
  have KK3 := KK2.trans K34 (allS (Or.inl (lM 0 rfl)) all0)
  have Zs3 := Nat.le_trans Zs2 K34.1
  have cc36 : oQ X34 S0' 24 #[sR tm, sR el, sI b1, sI b2] [] := st34
  have fa35 := ((Fld.same W26 M1).other W30 (Or.inr (slot_ne (Or.inr w_143) (Or.inr w_145) (by decide) (t := (.object "java/util/List")) (t' := .boolean) (by decide) (by decide)))).other W34 (Or.inr (slot_ne (Or.inr w_143) (Or.inr w_147) (by decide) (t := (.object "java/util/List")) (t' := .boolean) (by decide) (by decide)))
  exact oRV X34 Bd cc36 (q 14 rfl) rfl e34 ⟨rfl, N34, KK3, fa35⟩
def Q_own_sz0 (Z : State) (y g : Addr) (kg : ClassId) (h0 : Heap) (n0 : Nat) (v : Option Value) (h : Heap) (L : List Loc) : Prop := v = some (.int 0) ∧ Fr n0 L ∧ h = h0
theorem own_sz0 (l : Launch) (Z : State) (a0 : Array Value) (hw : oH a0 Z) (y g : Addr) (kg : ClassId) (h0 : Heap) (n0 : Nat) (Z0 : n0 ≤ h0.size) (R1 : zE3 Z h0 y) (R2 : zF8 Z h0 y (.ref g)) (R3 : Arv Z h0 g kg (.object "java/lang/Object") (0 : Int32) [] .null) :
    oC l yM39 (.code yM39 jdk_45_method_3_code 1 (some .int)) rM1 #[(.ref y)] Z h0 (Q_own_sz0 Z y g kg h0 n0) := by
  refine oO (plainFor_of_name own_pn13) hisR fun p e s m below meth c s₁ S0' Bd hS hx dB hml hown hnm hZ X0 e0 => ?_
  have N0 := Fr.nil n0
  have KK0 := Keep.refl h0 ([] : List Addr)
  have cc0 : oQ X0 S0' 0 #[sR y] [] := oE hS rfl
  have W := @own_w Z a0 hw
  have q := @dX _ _ c D_37 @dB
  have cc21 : oQ X0 S0' 1 #[sR y] [.ref y] := Steps.trans cc0 (by
    refine XS.aloadN X0.here hx rfl (q 0 rfl) rfl rfl ?_
    exact Steps.refl _)
  obtain ⟨T22, X22, e22, st22⟩ := oGF X0 cc21 hx hZ hown (W 191 rfl) Via.refl e0 R2 (q 1 rfl)
  have cc23 : oQ X22 S0' 4 #[sR y] [.ref g] := st22
  obtain ⟨clu24, Aru24, -, Su24, Ngu24, -, -⟩ := id R3
  have cl_u24 := X22.arraylength hx (by rw [e22]; exact Aru24.1) (State.isArrayOf_alike (hZ).alike Aru24.2.1) (g := (mkF m 4 #[sR y] [.ref g])) rfl rfl (q 2 rfl) _ (Steps.refl _)
  rw [len_of Su24 Ngu24] at cl_u24
  have cc25 : oQ X22 S0' 5 #[sR y] [.int (0 : Int32)] := (Steps.trans cc23 cl_u24)
  have cz26 : oQ X22 S0' 5 #[sR y] [.int 0] := cc25
  exact oRI X22 Bd cz26 (q 3 rfl) rfl (rfl) (by simp) e22 ⟨rfl, N0, rfl⟩
def Q_own_sz1 (Z : State) (y : Addr) (u0 : Addr) (em : Addr) (h0 : Heap) (n0 : Nat) (v : Option Value) (h : Heap) (L : List Loc) : Prop := v = some (.int 1) ∧ Fr n0 L ∧ h = h0
theorem own_sz1 (l : Launch) (Z : State) (a0 : Array Value) (hw : oH a0 Z) (y : Addr) (u0 : Addr) (em : Addr) (h0 : Heap) (n0 : Nat) (Z0 : n0 ≤ h0.size) (R1 : zE2 Z h0 y) (R2 : zF3 Z h0 y (.ref u0)) (R3 : zF4 Z h0 y (.ref em)) (X00 : Old Z n0 h0) (OE : Sta Z Z.heap "java/util/ImmutableCollections" "EMPTY" "Ljava/lang/Object;" (.ref em)) :
    oC l yM40 (.code yM40 jdk_44_method_3_code 1 (some .int)) rM1 #[(.ref y)] Z h0 (Q_own_sz1 Z y u0 em h0 n0) := by
  refine oO (plainFor_of_name own_pn14) hisR fun p e s m below meth c s₁ S0' Bd hS hx dB hml hown hnm hZ X0 e0 => ?_
  have N0 := Fr.nil n0
  have KK0 := Keep.refl h0 ([] : List Addr)
  have cc0 : oQ X0 S0' 0 #[sR y] [] := oE hS rfl
  have W := @own_w Z a0 hw
  have q := @dX _ _ c D_38 @dB
  have cc21 : oQ X0 S0' 1 #[sR y] [.ref y] := Steps.trans cc0 (by
    refine XS.aloadN X0.here hx rfl (q 0 rfl) rfl rfl ?_
    exact Steps.refl _)
  obtain ⟨T22, X22, e22, st22⟩ := oGF X0 cc21 hx hZ hown (W 475 rfl) Via.refl e0 R3 (q 1 rfl)
  have cc23 : oQ X22 S0' 4 #[sR y] [.ref em] := st22
  obtain ⟨T24, X24, e24, st24⟩ := oGS X22 cc23 hx hZ hown (host := "java/util/ImmutableCollections") (Or.inr (W 483 rfl)) Via.refl e22 (OE.ext X00.2) (q 2 rfl)
  have cc25 : oQ X24 S0' 15 #[sR y] [.int 1] := Steps.trans st24 (by
    refine XT.acmpYes X24.here hx rfl (pc0 := 7) rfl (q 3 rfl) rfl rfl rfl (aa_eq_t rfl) (by decide) rfl ?_
    refine iconstV X24.here hx rfl 1 (q 4 rfl) (by decide) ?_
    exact Steps.refl _)
  have cz26 : oQ X24 S0' 15 #[sR y] [.int 1] := cc25
  exact oRI X24 Bd cz26 (q 5 rfl) rfl (rfl) (by simp) e24 ⟨rfl, N0, rfl⟩
def Q_own_sz2 (Z : State) (y : Addr) (u0 : Addr) (u1 : Addr) (em : Addr) (h0 : Heap) (n0 : Nat) (v : Option Value) (h : Heap) (L : List Loc) : Prop := v = some (.int 2) ∧ Fr n0 L ∧ h = h0
theorem own_sz2 (l : Launch) (Z : State) (a0 : Array Value) (hw : oH a0 Z) (y : Addr) (u0 : Addr) (u1 : Addr) (em : Addr) (h0 : Heap) (n0 : Nat) (Z0 : n0 ≤ h0.size) (R1 : zE2 Z h0 y) (R2 : zF3 Z h0 y (.ref u0)) (R3 : zF4 Z h0 y (.ref u1)) (X00 : Old Z n0 h0) (OE : Sta Z Z.heap "java/util/ImmutableCollections" "EMPTY" "Ljava/lang/Object;" (.ref em)) (hne : ¬ u1 = em) :
    oC l yM40 (.code yM40 jdk_44_method_3_code 1 (some .int)) rM1 #[(.ref y)] Z h0 (Q_own_sz2 Z y u0 u1 em h0 n0) := by
  refine oO (plainFor_of_name own_pn14) hisR fun p e s m below meth c s₁ S0' Bd hS hx dB hml hown hnm hZ X0 e0 => ?_
  have N0 := Fr.nil n0
  have KK0 := Keep.refl h0 ([] : List Addr)
  have cc0 : oQ X0 S0' 0 #[sR y] [] := oE hS rfl
  have W := @own_w Z a0 hw
  have q := @dX _ _ c D_38 @dB
  have cc21 : oQ X0 S0' 1 #[sR y] [.ref y] := Steps.trans cc0 (by
    refine XS.aloadN X0.here hx rfl (q 0 rfl) rfl rfl ?_
    exact Steps.refl _)
  obtain ⟨T22, X22, e22, st22⟩ := oGF X0 cc21 hx hZ hown (W 475 rfl) Via.refl e0 R3 (q 1 rfl)
  have cc23 : oQ X22 S0' 4 #[sR y] [.ref u1] := st22
  obtain ⟨T24, X24, e24, st24⟩ := oGS X22 cc23 hx hZ hown (host := "java/util/ImmutableCollections") (Or.inr (W 483 rfl)) Via.refl e22 (OE.ext X00.2) (q 2 rfl)
  have cc25 : oQ X24 S0' 15 #[sR y] [.int 2] := Steps.trans st24 (by
    refine XT.acmpNo X24.here hx rfl (q 3 rfl) rfl rfl rfl (aa_eq_f (fun q => hne (Value.ref.inj q))) ?_
    refine iconstV X24.here hx rfl 2 (q 6 rfl) (by decide) ?_
    refine XS.goto X24.here hx rfl (pc0 := 11) rfl (q 7 rfl) (by decide) rfl ?_
    exact Steps.refl _)
  have cz26 : oQ X24 S0' 15 #[sR y] [.int 2] := cc25
  exact oRI X24 Bd cz26 (q 5 rfl) rfl (rfl) (by simp) e24 ⟨rfl, N0, rfl⟩
def Q_own_sz3 (Z : State) (y g : Addr) (kg : ClassId) (u0 : Addr) (u1 : Addr) (u2 : Addr) (h0 : Heap) (n0 : Nat) (v : Option Value) (h : Heap) (L : List Loc) : Prop := v = some (.int 3) ∧ Fr n0 L ∧ h = h0
theorem own_sz3 (l : Launch) (Z : State) (a0 : Array Value) (hw : oH a0 Z) (y g : Addr) (kg : ClassId) (u0 : Addr) (u1 : Addr) (u2 : Addr) (h0 : Heap) (n0 : Nat) (Z0 : n0 ≤ h0.size) (R1 : zE3 Z h0 y) (R2 : zF8 Z h0 y (.ref g)) (R3 : Arv Z h0 g kg (.object "java/lang/Object") (3 : Int32) [(.ref u0), (.ref u1), (.ref u2)] .null) :
    oC l yM39 (.code yM39 jdk_45_method_3_code 1 (some .int)) rM1 #[(.ref y)] Z h0 (Q_own_sz3 Z y g kg u0 u1 u2 h0 n0) := by
  refine oO (plainFor_of_name own_pn13) hisR fun p e s m below meth c s₁ S0' Bd hS hx dB hml hown hnm hZ X0 e0 => ?_
  have N0 := Fr.nil n0
  have KK0 := Keep.refl h0 ([] : List Addr)
  have cc0 : oQ X0 S0' 0 #[sR y] [] := oE hS rfl
  have W := @own_w Z a0 hw
  have q := @dX _ _ c D_37 @dB
  have cc21 : oQ X0 S0' 1 #[sR y] [.ref y] := Steps.trans cc0 (by
    refine XS.aloadN X0.here hx rfl (q 0 rfl) rfl rfl ?_
    exact Steps.refl _)
  obtain ⟨T22, X22, e22, st22⟩ := oGF X0 cc21 hx hZ hown (W 191 rfl) Via.refl e0 R2 (q 1 rfl)
  have cc23 : oQ X22 S0' 4 #[sR y] [.ref g] := st22
  obtain ⟨clu24, Aru24, -, Su24, Ngu24, -, -⟩ := id R3
  have cl_u24 := X22.arraylength hx (by rw [e22]; exact Aru24.1) (State.isArrayOf_alike (hZ).alike Aru24.2.1) (g := (mkF m 4 #[sR y] [.ref g])) rfl rfl (q 2 rfl) _ (Steps.refl _)
  rw [len_of Su24 Ngu24] at cl_u24
  have cc25 : oQ X22 S0' 5 #[sR y] [.int (3 : Int32)] := (Steps.trans cc23 cl_u24)
  have cz26 : oQ X22 S0' 5 #[sR y] [.int 3] := cc25
  exact oRI X22 Bd cz26 (q 3 rfl) rfl (rfl) (by simp) e22 ⟨rfl, N0, rfl⟩
def Q_own_lii (Z : State) (it y : Addr) (n : Int32) (h0 : Heap) (n0 : Nat) (v : Option Value) (h : Heap) (L : List Loc) : Prop := v = none ∧ Fr n0 L ∧ Keep h0 h [it] ∧ zF7 Z h it (.ref y) ∧ zF5 Z h it (.int n) ∧ zF6 Z h it (.int (0 : Int32))
theorem own_lii (l : Launch) (Z : State) (a0 : Array Value) (hw : oH a0 Z) (it y : Addr) (n : Int32) (h0 : Heap) (n0 : Nat) (Z0 : n0 ≤ h0.size) (E : zE5 Z h0 it) (F1 : zF7 Z h0 it .null) (F2 : zF5 Z h0 it (.int (0 : Int32))) (F3 : zF6 Z h0 it (.int (0 : Int32))) (F4 : zF19 Z h0 it (.int (0 : Int32))) (gi : n0 ≤ it) :
    oC l yM41 (.code yM41 jdk_53_method_1_code 3 none) rM0 #[(.ref it), (.ref y), (.int n)] Z h0 (Q_own_lii Z it y n h0 n0) := by
  refine oO (plainFor_of_name own_pn18) hisR fun p e s m below meth c s₁ S0' Bd hS hx dB hml hown hnm hZ X0 e0 => ?_
  have N0 := Fr.nil n0
  have KK0 := Keep.refl h0 [it]
  have cc0 : oQ X0 S0' 0 #[sR it, sR y, sI n] [] := oE hS rfl
  have W := @own_w Z a0 hw
  have q := @dX _ _ c D_39 @dB
  have w_182 := W 182 rfl
  have w_199 := W 199 rfl
  have w_201 := W 201 rfl
  have w_203 := W 203 rfl
  have w_205 := W 205 rfl
  have cc21 : oQ X0 S0' 1 #[sR it, sR y, sI n] [.ref it] := Steps.trans cc0 (by
    refine XS.aloadN X0.here hx rfl (q 0 rfl) rfl rfl ?_
    exact Steps.refl _)
  obtain ⟨T22, X22, e22, st22⟩ := initO X0 hx hZ hown (W 197 rfl) (W 16 rfl) (W 17 rfl) e0 (g := (mkF m 1 #[sR it, sR y, sI n] [.ref it])) rfl (by rw [hml]; rfl) rfl (q 1 rfl) (by decide) (W := 0) (by show 2 * 0 + _ ≤ _; exact Nat.le_of_eq rfl) (by decide)
  have cc23 : oQ X22 S0' 6 #[sR it, sR y, sI n] [.ref y, .ref it] := Steps.trans (cc21.trans (st22 _ (Steps.refl _))) (by
    refine XS.aloadN X22.here hx rfl (q 2 rfl) rfl rfl ?_
    refine XS.aloadN X22.here hx rfl (q 3 rfl) rfl rfl ?_
    exact Steps.refl _)
  obtain ⟨T24, h24, X24, e24, W24, st24⟩ := oPF X22 cc23 hx hZ hown (W 198 rfl) Via.refl e22 F1 E (Or.inr ⟨w_199, rfl, hnm⟩) w_182 (ty := (.object "java/util/List")) (by decide) rfl rfl (q 4 rfl)
  have K24 := Keep.of_wr W24
  have N24 := Fr.snoc X24 N0 gi
  have KK1 := KK0.trans K24 (allS (Or.inl (lM 0 rfl)) all0)
  have Zs1 := Nat.le_trans Z0 K24.1
  have cc26 : oQ X24 S0' 11 #[sR it, sR y, sI n] [.int n, .ref it] := Steps.trans st24 (by
    refine XS.aloadN X24.here hx rfl (q 5 rfl) rfl rfl ?_
    refine XS.iloadN X24.here hx rfl (q 6 rfl) rfl ?_
    exact Steps.refl _)
  have fa25 := F2.other W24 (Or.inr (slot_ne (Or.inr w_201) (Or.inr w_199) (by decide) (t := .int) (t' := (.object "java/util/List")) (by decide) (by decide)))
  have fa27 := E.keep K24
  obtain ⟨T28, h28, X28, e28, W28, st28⟩ := oPF X24 cc26 hx hZ hown (W 200 rfl) Via.refl e24 fa25 fa27 (Or.inr ⟨w_201, rfl, hnm⟩) w_182 (ty := .int) (by decide) rfl rfl (q 7 rfl)
  have K28 := Keep.of_wr W28
  have N28 := Fr.snoc X28 N24 gi
  have KK2 := KK1.trans K28 (allS (Or.inl (lM 0 rfl)) all0)
  have Zs2 := Nat.le_trans Zs1 K28.1
  have cc30 : oQ X28 S0' 16 #[sR it, sR y, sI n] [.int 0, .ref it] := Steps.trans st28 (by
    refine XS.aloadN X28.here hx rfl (q 8 rfl) rfl rfl ?_
    refine iconstV X28.here hx rfl 0 (q 9 rfl) (by decide) ?_
    exact Steps.refl _)
  have fa29 := (F3.other W24 (Or.inr (slot_ne (Or.inl w_203) (Or.inr w_199) (by decide) (t := .int) (t' := (.object "java/util/List")) (by decide) (by decide)))).other W28 (Or.inr (slot_ne (Or.inl w_203) (Or.inr w_201) (by decide) (t := .int) (t' := .int) (by decide) (by decide)))
  have fa31 := fa27.keep K28
  obtain ⟨T32, h32, X32, e32, W32, st32⟩ := oPF X28 cc30 hx hZ hown (W 202 rfl) Via.refl e28 fa29 fa31 (Or.inl w_203) w_182 (ty := .int) (by decide) rfl rfl (q 10 rfl)
  have K32 := Keep.of_wr W32
  have N32 := Fr.snoc X32 N28 gi
  have KK3 := KK2.trans K32 (allS (Or.inl (lM 0 rfl)) all0)
  have Zs3 := Nat.le_trans Zs2 K32.1
  have cc34 : oQ X32 S0' 21 #[sR it, sR y, sI n] [.int 0, .ref it] := Steps.trans st32 (by
    refine XS.aloadN X32.here hx rfl (q 11 rfl) rfl rfl ?_
    refine iconstV X32.here hx rfl 0 (q 12 rfl) (by decide) ?_
    exact Steps.refl _)
  have fa33 := ((F4.other W24 (Or.inr (slot_ne (Or.inr w_205) (Or.inr w_199) (by decide) (t := .boolean) (t' := (.object "java/util/List")) (by decide) (by decide)))).other W28 (Or.inr (slot_ne (Or.inr w_205) (Or.inr w_201) (by decide) (t := .boolean) (t' := .int) (by decide) (by decide)))).other W32 (Or.inr (slot_ne (Or.inr w_205) (Or.inl w_203) (by decide) (t := .boolean) (t' := .int) (by decide) (by decide)))
  have fa35 := fa31.keep K32
  obtain ⟨T36, h36, X36, e36, W36, st36⟩ := oPF X32 cc34 hx hZ hown (W 204 rfl) Via.refl e32 fa33 fa35 (Or.inr ⟨w_205, rfl, hnm⟩) w_182 (ty := .boolean) (v := (.int 0)) (v' := (.int (0 : Int32))) (by decide) rfl rfl (q 13 rfl)
  have K36 := Keep.of_wr W36
  have N36 := Fr.snoc X36 N32 gi
  have KK4 := KK3.trans K36 (allS (Or.inl (lM 0 rfl)) all0)
  have Zs4 := Nat.le_trans Zs3 K36.1
  have cc38 : oQ X36 S0' 24 #[sR it, sR y, sI n] [] := st36
  have fa37 := (((Fld.same W24 F1).other W28 (Or.inr (slot_ne (Or.inr w_199) (Or.inr w_201) (by decide) (t := (.object "java/util/List")) (t' := .int) (by decide) (by decide)))).other W32 (Or.inr (slot_ne (Or.inr w_199) (Or.inl w_203) (by decide) (t := (.object "java/util/List")) (t' := .int) (by decide) (by decide)))).other W36 (Or.inr (slot_ne (Or.inr w_199) (Or.inr w_205) (by decide) (t := (.object "java/util/List")) (t' := .boolean) (by decide) (by decide)))
  have fa39 := ((Fld.same W28 fa25).other W32 (Or.inr (slot_ne (Or.inr w_201) (Or.inl w_203) (by decide) (t := .int) (t' := .int) (by decide) (by decide)))).other W36 (Or.inr (slot_ne (Or.inr w_201) (Or.inr w_205) (by decide) (t := .int) (t' := .boolean) (by decide) (by decide)))
  have fa40 := (Fld.same W32 fa29).other W36 (Or.inr (slot_ne (Or.inl w_203) (Or.inr w_205) (by decide) (t := .int) (t' := .boolean) (by decide) (by decide)))
  exact oRV X36 Bd cc38 (q 14 rfl) rfl e36 ⟨rfl, N36, KK4, fa37, fa39, fa40⟩
def Q_own_it0 (Z : State) (y g : Addr) (kg : ClassId) (h0 : Heap) (n0 : Nat) (v : Option Value) (h : Heap) (L : List Loc) : Prop := ∃ it : Addr, v = some (.ref it) ∧ Fr n0 L ∧ Keep h0 h [] ∧ h0.size ≤ it ∧ zE5 Z h it ∧ zF7 Z h it (.ref y) ∧ zF5 Z h it (.int (0 : Int32)) ∧ zF6 Z h it (.int (0 : Int32))
theorem own_it0 (l : Launch) (Z : State) (a0 : Array Value) (hw : oH a0 Z) (y g : Addr) (kg : ClassId) (h0 : Heap) (n0 : Nat) (Z0 : n0 ≤ h0.size) (R1 : zE3 Z h0 y) (R2 : zF8 Z h0 y (.ref g)) (R3 : Arv Z h0 g kg (.object "java/lang/Object") (0 : Int32) [] .null) :
    oC l yM43 (.code yM43 jdk_46_method_10_code 1 (some (.object "java/util/Iterator"))) rM32 #[(.ref y)] Z h0 (Q_own_it0 Z y g kg h0 n0) := by
  refine oO (plainFor_of_name own_pn12) hisR fun p e s m below meth c s₁ S0' Bd hS hx dB hml hown hnm hZ X0 e0 => ?_
  have N0 := Fr.nil n0
  have KK0 := Keep.refl h0 ([] : List Addr)
  have cc0 : oQ X0 S0' 0 #[sR y] [] := oE hS rfl
  have W := @own_w Z a0 hw
  have q := @dX _ _ c D_40 @dB
  obtain ⟨T21, h21, X21, e21, E21, A21, D21, -, st21⟩ := newO X0 hx hZ hown (W 181 rfl) (W 182 rfl) (W 183 rfl) e0 (g := (mkF m 0 #[sR y] [])) rfl (q 0 rfl) (by decide) (by decide)
  obtain ⟨it, g_it⟩ : ∃ z, z = h0.size := ⟨_, rfl⟩
  rw [← g_it] at A21 D21 st21
  have K21 := (Keep.refl h0 ([] : List Addr)).ext E21
  have b_it : h0.size ≤ it := (Nat.le_of_eq g_it.symm)
  have gn_it := Nat.le_trans Z0 b_it
  have s0_it := Nat.le_trans KK0.1 b_it
  have ne_y_it := oN R1.lt b_it
  have ne_g_it := oN R3.lt b_it
  have KK1 := KK0.trans K21 all0
  have Zs1 := Nat.le_trans Z0 K21.1
  have F_list_it : zF7 Z h21 it .null := D21 (Or.inr (W 199 rfl)) (ty := (.object "java/util/List")) (by decide)
  have F_size_it : zF5 Z h21 it (.int (0 : Int32)) := D21 (Or.inr (W 201 rfl)) (ty := .int) (by decide)
  have F_cursor_it : zF6 Z h21 it (.int (0 : Int32)) := D21 (Or.inl (W 203 rfl)) (ty := .int) (by decide)
  have F_isListIterator_it : zF19 Z h21 it (.int (0 : Int32)) := D21 (Or.inr (W 205 rfl)) (ty := .boolean) (by decide)
  have cc23 : oQ X21 S0' 6 #[sR y] [.ref y, .ref y, .ref it, .ref it] := Steps.trans (cc0.trans (st21 _ (Steps.refl _))) (by
    refine XS.dup X21.here hx rfl (q 1 rfl) rfl rfl ?_
    refine XS.aloadN X21.here hx rfl (q 2 rfl) rfl rfl ?_
    refine XS.aloadN X21.here hx rfl (q 3 rfl) rfl rfl ?_
    exact Steps.refl _)
  have fa22 := R1.keep K21
  have fa24 := R2.keep K21 nin0
  have fa25 := R3.keep K21 nin0
  obtain ⟨_, T26, L26, X26, ⟨rfl, Nq26, eq26⟩, st26⟩ := oCU (y := yM42) (z := yM39) X21 cc23 hx hZ hown hml (q 4 rfl) e21 fa22 (W 184 rfl) (W 185 rfl) (W 186 rfl) (by decide) (W 187 rfl) (W 188 rfl) [] [.ref y, .ref it, .ref it] (lenOf own_pd20 rfl) (bO (own_sz0 l Z a0 hw y g kg h21 n0 Zs1 fa22 fa24 fa25) hZ (W 190 rfl) (W 189 rfl))
  have N26 := Fr.app N0 Nq26
  have cc27 : oQ X26 S0' 9 #[sR y] [.int 0, .ref y, .ref it, .ref it] := st26
  obtain ⟨_, T28, L28, X28, ⟨rfl, Nq28, Kq28, G128, G228, G328⟩, st28⟩ := oCN (y := yM41) X26 cc27 hx hZ hown hml (q 5 rfl) eq26 it rfl (W 193 rfl) (W 194 rfl) (W 196 rfl) (by decide) [.ref y, .int 0] [.ref it] (lenOf own_pd21 rfl) (bO (own_lii l Z a0 hw it y 0 h21 n0 Zs1 A21 F_list_it F_size_it F_cursor_it F_isListIterator_it gn_it) hZ (W 196 rfl) (W 183 rfl))
  have N28 := Fr.app N26 Nq28
  have KK2 := KK1.trans Kq28 (allS (Or.inr s0_it) all0)
  have Zs2 := Nat.le_trans Zs1 Kq28.1
  have e28 : T28.heap = T28.heap := rfl
  have cc30 : oQ X28 S0' 12 #[sR y] [.ref it] := st28
  have fa29 := A21.keep Kq28
  exact oRA X28 Bd cc30 (q 6 rfl) rfl (rfl) rfl e28 ⟨it, rfl, N28, KK2, s0_it, fa29, G128, G228, G328⟩
def Q_own_it1 (Z : State) (y : Addr) (u0 : Addr) (em : Addr) (h0 : Heap) (n0 : Nat) (v : Option Value) (h : Heap) (L : List Loc) : Prop := ∃ it : Addr, v = some (.ref it) ∧ Fr n0 L ∧ Keep h0 h [] ∧ h0.size ≤ it ∧ zE5 Z h it ∧ zF7 Z h it (.ref y) ∧ zF5 Z h it (.int (1 : Int32)) ∧ zF6 Z h it (.int (0 : Int32))
theorem own_it1 (l : Launch) (Z : State) (a0 : Array Value) (hw : oH a0 Z) (y : Addr) (u0 : Addr) (em : Addr) (h0 : Heap) (n0 : Nat) (Z0 : n0 ≤ h0.size) (R1 : zE2 Z h0 y) (R2 : zF3 Z h0 y (.ref u0)) (R3 : zF4 Z h0 y (.ref em)) (X00 : Old Z n0 h0) (OE : Sta Z Z.heap "java/util/ImmutableCollections" "EMPTY" "Ljava/lang/Object;" (.ref em)) :
    oC l yM43 (.code yM43 jdk_46_method_10_code 1 (some (.object "java/util/Iterator"))) rM32 #[(.ref y)] Z h0 (Q_own_it1 Z y u0 em h0 n0) := by
  refine oO (plainFor_of_name own_pn12) hisR fun p e s m below meth c s₁ S0' Bd hS hx dB hml hown hnm hZ X0 e0 => ?_
  have N0 := Fr.nil n0
  have KK0 := Keep.refl h0 ([] : List Addr)
  have cc0 : oQ X0 S0' 0 #[sR y] [] := oE hS rfl
  have W := @own_w Z a0 hw
  have q := @dX _ _ c D_40 @dB
  obtain ⟨T21, h21, X21, e21, E21, A21, D21, -, st21⟩ := newO X0 hx hZ hown (W 181 rfl) (W 182 rfl) (W 183 rfl) e0 (g := (mkF m 0 #[sR y] [])) rfl (q 0 rfl) (by decide) (by decide)
  obtain ⟨it, g_it⟩ : ∃ z, z = h0.size := ⟨_, rfl⟩
  rw [← g_it] at A21 D21 st21
  have K21 := (Keep.refl h0 ([] : List Addr)).ext E21
  have b_it : h0.size ≤ it := (Nat.le_of_eq g_it.symm)
  have gn_it := Nat.le_trans Z0 b_it
  have s0_it := Nat.le_trans KK0.1 b_it
  have ne_y_it := oN R1.lt b_it
  have KK1 := KK0.trans K21 all0
  have Zs1 := Nat.le_trans Z0 K21.1
  have F_list_it : zF7 Z h21 it .null := D21 (Or.inr (W 199 rfl)) (ty := (.object "java/util/List")) (by decide)
  have F_size_it : zF5 Z h21 it (.int (0 : Int32)) := D21 (Or.inr (W 201 rfl)) (ty := .int) (by decide)
  have F_cursor_it : zF6 Z h21 it (.int (0 : Int32)) := D21 (Or.inl (W 203 rfl)) (ty := .int) (by decide)
  have F_isListIterator_it : zF19 Z h21 it (.int (0 : Int32)) := D21 (Or.inr (W 205 rfl)) (ty := .boolean) (by decide)
  have cc23 : oQ X21 S0' 6 #[sR y] [.ref y, .ref y, .ref it, .ref it] := Steps.trans (cc0.trans (st21 _ (Steps.refl _))) (by
    refine XS.dup X21.here hx rfl (q 1 rfl) rfl rfl ?_
    refine XS.aloadN X21.here hx rfl (q 2 rfl) rfl rfl ?_
    refine XS.aloadN X21.here hx rfl (q 3 rfl) rfl rfl ?_
    exact Steps.refl _)
  have fa22 := R1.keep K21
  have fa24 := R2.keep K21 nin0
  have fa25 := R3.keep K21 nin0
  have fa26 := X00.keep K21 all0
  obtain ⟨_, T27, L27, X27, ⟨rfl, Nq27, eq27⟩, st27⟩ := oCU (y := yM42) (z := yM40) X21 cc23 hx hZ hown hml (q 4 rfl) e21 fa22 (W 184 rfl) (W 185 rfl) (W 186 rfl) (by decide) (W 480 rfl) (W 481 rfl) [] [.ref y, .ref it, .ref it] (lenOf own_pd20 rfl) (bO (own_sz1 l Z a0 hw y u0 em h21 n0 Zs1 fa22 fa24 fa25 fa26 OE) hZ (W 482 rfl) (W 463 rfl))
  have N27 := Fr.app N0 Nq27
  have cc28 : oQ X27 S0' 9 #[sR y] [.int 1, .ref y, .ref it, .ref it] := st27
  obtain ⟨_, T29, L29, X29, ⟨rfl, Nq29, Kq29, G129, G229, G329⟩, st29⟩ := oCN (y := yM41) X27 cc28 hx hZ hown hml (q 5 rfl) eq27 it rfl (W 193 rfl) (W 194 rfl) (W 196 rfl) (by decide) [.ref y, .int 1] [.ref it] (lenOf own_pd21 rfl) (bO (own_lii l Z a0 hw it y 1 h21 n0 Zs1 A21 F_list_it F_size_it F_cursor_it F_isListIterator_it gn_it) hZ (W 196 rfl) (W 183 rfl))
  have N29 := Fr.app N27 Nq29
  have KK2 := KK1.trans Kq29 (allS (Or.inr s0_it) all0)
  have Zs2 := Nat.le_trans Zs1 Kq29.1
  have e29 : T29.heap = T29.heap := rfl
  have cc31 : oQ X29 S0' 12 #[sR y] [.ref it] := st29
  have fa30 := A21.keep Kq29
  exact oRA X29 Bd cc31 (q 6 rfl) rfl (rfl) rfl e29 ⟨it, rfl, N29, KK2, s0_it, fa30, G129, G229, G329⟩
def Q_own_it2 (Z : State) (y : Addr) (u0 : Addr) (u1 : Addr) (em : Addr) (h0 : Heap) (n0 : Nat) (v : Option Value) (h : Heap) (L : List Loc) : Prop := ∃ it : Addr, v = some (.ref it) ∧ Fr n0 L ∧ Keep h0 h [] ∧ h0.size ≤ it ∧ zE5 Z h it ∧ zF7 Z h it (.ref y) ∧ zF5 Z h it (.int (2 : Int32)) ∧ zF6 Z h it (.int (0 : Int32))
theorem own_it2 (l : Launch) (Z : State) (a0 : Array Value) (hw : oH a0 Z) (y : Addr) (u0 : Addr) (u1 : Addr) (em : Addr) (h0 : Heap) (n0 : Nat) (Z0 : n0 ≤ h0.size) (R1 : zE2 Z h0 y) (R2 : zF3 Z h0 y (.ref u0)) (R3 : zF4 Z h0 y (.ref u1)) (X00 : Old Z n0 h0) (OE : Sta Z Z.heap "java/util/ImmutableCollections" "EMPTY" "Ljava/lang/Object;" (.ref em)) (hne : ¬ u1 = em) :
    oC l yM43 (.code yM43 jdk_46_method_10_code 1 (some (.object "java/util/Iterator"))) rM32 #[(.ref y)] Z h0 (Q_own_it2 Z y u0 u1 em h0 n0) := by
  refine oO (plainFor_of_name own_pn12) hisR fun p e s m below meth c s₁ S0' Bd hS hx dB hml hown hnm hZ X0 e0 => ?_
  have N0 := Fr.nil n0
  have KK0 := Keep.refl h0 ([] : List Addr)
  have cc0 : oQ X0 S0' 0 #[sR y] [] := oE hS rfl
  have W := @own_w Z a0 hw
  have q := @dX _ _ c D_40 @dB
  obtain ⟨T21, h21, X21, e21, E21, A21, D21, -, st21⟩ := newO X0 hx hZ hown (W 181 rfl) (W 182 rfl) (W 183 rfl) e0 (g := (mkF m 0 #[sR y] [])) rfl (q 0 rfl) (by decide) (by decide)
  obtain ⟨it, g_it⟩ : ∃ z, z = h0.size := ⟨_, rfl⟩
  rw [← g_it] at A21 D21 st21
  have K21 := (Keep.refl h0 ([] : List Addr)).ext E21
  have b_it : h0.size ≤ it := (Nat.le_of_eq g_it.symm)
  have gn_it := Nat.le_trans Z0 b_it
  have s0_it := Nat.le_trans KK0.1 b_it
  have ne_y_it := oN R1.lt b_it
  have KK1 := KK0.trans K21 all0
  have Zs1 := Nat.le_trans Z0 K21.1
  have F_list_it : zF7 Z h21 it .null := D21 (Or.inr (W 199 rfl)) (ty := (.object "java/util/List")) (by decide)
  have F_size_it : zF5 Z h21 it (.int (0 : Int32)) := D21 (Or.inr (W 201 rfl)) (ty := .int) (by decide)
  have F_cursor_it : zF6 Z h21 it (.int (0 : Int32)) := D21 (Or.inl (W 203 rfl)) (ty := .int) (by decide)
  have F_isListIterator_it : zF19 Z h21 it (.int (0 : Int32)) := D21 (Or.inr (W 205 rfl)) (ty := .boolean) (by decide)
  have cc23 : oQ X21 S0' 6 #[sR y] [.ref y, .ref y, .ref it, .ref it] := Steps.trans (cc0.trans (st21 _ (Steps.refl _))) (by
    refine XS.dup X21.here hx rfl (q 1 rfl) rfl rfl ?_
    refine XS.aloadN X21.here hx rfl (q 2 rfl) rfl rfl ?_
    refine XS.aloadN X21.here hx rfl (q 3 rfl) rfl rfl ?_
    exact Steps.refl _)
  have fa22 := R1.keep K21
  have fa24 := R2.keep K21 nin0
  have fa25 := R3.keep K21 nin0
  have fa26 := X00.keep K21 all0
  obtain ⟨_, T27, L27, X27, ⟨rfl, Nq27, eq27⟩, st27⟩ := oCU (y := yM42) (z := yM40) X21 cc23 hx hZ hown hml (q 4 rfl) e21 fa22 (W 184 rfl) (W 185 rfl) (W 186 rfl) (by decide) (W 480 rfl) (W 481 rfl) [] [.ref y, .ref it, .ref it] (lenOf own_pd20 rfl) (bO (own_sz2 l Z a0 hw y u0 u1 em h21 n0 Zs1 fa22 fa24 fa25 fa26 OE hne) hZ (W 482 rfl) (W 463 rfl))
  have N27 := Fr.app N0 Nq27
  have cc28 : oQ X27 S0' 9 #[sR y] [.int 2, .ref y, .ref it, .ref it] := st27
  obtain ⟨_, T29, L29, X29, ⟨rfl, Nq29, Kq29, G129, G229, G329⟩, st29⟩ := oCN (y := yM41) X27 cc28 hx hZ hown hml (q 5 rfl) eq27 it rfl (W 193 rfl) (W 194 rfl) (W 196 rfl) (by decide) [.ref y, .int 2] [.ref it] (lenOf own_pd21 rfl) (bO (own_lii l Z a0 hw it y 2 h21 n0 Zs1 A21 F_list_it F_size_it F_cursor_it F_isListIterator_it gn_it) hZ (W 196 rfl) (W 183 rfl))
  have N29 := Fr.app N27 Nq29
  have KK2 := KK1.trans Kq29 (allS (Or.inr s0_it) all0)
  have Zs2 := Nat.le_trans Zs1 Kq29.1
  have e29 : T29.heap = T29.heap := rfl
  have cc31 : oQ X29 S0' 12 #[sR y] [.ref it] := st29
  have fa30 := A21.keep Kq29
  exact oRA X29 Bd cc31 (q 6 rfl) rfl (rfl) rfl e29 ⟨it, rfl, N29, KK2, s0_it, fa30, G129, G229, G329⟩
def Q_own_it3 (Z : State) (y g : Addr) (kg : ClassId) (u0 : Addr) (u1 : Addr) (u2 : Addr) (h0 : Heap) (n0 : Nat) (v : Option Value) (h : Heap) (L : List Loc) : Prop := ∃ it : Addr, v = some (.ref it) ∧ Fr n0 L ∧ Keep h0 h [] ∧ h0.size ≤ it ∧ zE5 Z h it ∧ zF7 Z h it (.ref y) ∧ zF5 Z h it (.int (3 : Int32)) ∧ zF6 Z h it (.int (0 : Int32))
theorem own_it3 (l : Launch) (Z : State) (a0 : Array Value) (hw : oH a0 Z) (y g : Addr) (kg : ClassId) (u0 : Addr) (u1 : Addr) (u2 : Addr) (h0 : Heap) (n0 : Nat) (Z0 : n0 ≤ h0.size) (R1 : zE3 Z h0 y) (R2 : zF8 Z h0 y (.ref g)) (R3 : Arv Z h0 g kg (.object "java/lang/Object") (3 : Int32) [(.ref u0), (.ref u1), (.ref u2)] .null) :
    oC l yM43 (.code yM43 jdk_46_method_10_code 1 (some (.object "java/util/Iterator"))) rM32 #[(.ref y)] Z h0 (Q_own_it3 Z y g kg u0 u1 u2 h0 n0) := by
  refine oO (plainFor_of_name own_pn12) hisR fun p e s m below meth c s₁ S0' Bd hS hx dB hml hown hnm hZ X0 e0 => ?_
  have N0 := Fr.nil n0
  have KK0 := Keep.refl h0 ([] : List Addr)
  have cc0 : oQ X0 S0' 0 #[sR y] [] := oE hS rfl
  have W := @own_w Z a0 hw
  have q := @dX _ _ c D_40 @dB
  obtain ⟨T21, h21, X21, e21, E21, A21, D21, -, st21⟩ := newO X0 hx hZ hown (W 181 rfl) (W 182 rfl) (W 183 rfl) e0 (g := (mkF m 0 #[sR y] [])) rfl (q 0 rfl) (by decide) (by decide)
  obtain ⟨it, g_it⟩ : ∃ z, z = h0.size := ⟨_, rfl⟩
  rw [← g_it] at A21 D21 st21
  have K21 := (Keep.refl h0 ([] : List Addr)).ext E21
  have b_it : h0.size ≤ it := (Nat.le_of_eq g_it.symm)
  have gn_it := Nat.le_trans Z0 b_it
  have s0_it := Nat.le_trans KK0.1 b_it
  have ne_y_it := oN R1.lt b_it
  have ne_g_it := oN R3.lt b_it
  have KK1 := KK0.trans K21 all0
  have Zs1 := Nat.le_trans Z0 K21.1
  have F_list_it : zF7 Z h21 it .null := D21 (Or.inr (W 199 rfl)) (ty := (.object "java/util/List")) (by decide)
  have F_size_it : zF5 Z h21 it (.int (0 : Int32)) := D21 (Or.inr (W 201 rfl)) (ty := .int) (by decide)
  have F_cursor_it : zF6 Z h21 it (.int (0 : Int32)) := D21 (Or.inl (W 203 rfl)) (ty := .int) (by decide)
  have F_isListIterator_it : zF19 Z h21 it (.int (0 : Int32)) := D21 (Or.inr (W 205 rfl)) (ty := .boolean) (by decide)
  have cc23 : oQ X21 S0' 6 #[sR y] [.ref y, .ref y, .ref it, .ref it] := Steps.trans (cc0.trans (st21 _ (Steps.refl _))) (by
    refine XS.dup X21.here hx rfl (q 1 rfl) rfl rfl ?_
    refine XS.aloadN X21.here hx rfl (q 2 rfl) rfl rfl ?_
    refine XS.aloadN X21.here hx rfl (q 3 rfl) rfl rfl ?_
    exact Steps.refl _)
  have fa22 := R1.keep K21
  have fa24 := R2.keep K21 nin0
  have fa25 := R3.keep K21 nin0
  obtain ⟨_, T26, L26, X26, ⟨rfl, Nq26, eq26⟩, st26⟩ := oCU (y := yM42) (z := yM39) X21 cc23 hx hZ hown hml (q 4 rfl) e21 fa22 (W 184 rfl) (W 185 rfl) (W 186 rfl) (by decide) (W 187 rfl) (W 188 rfl) [] [.ref y, .ref it, .ref it] (lenOf own_pd20 rfl) (bO (own_sz3 l Z a0 hw y g kg u0 u1 u2 h21 n0 Zs1 fa22 fa24 fa25) hZ (W 190 rfl) (W 189 rfl))
  have N26 := Fr.app N0 Nq26
  have cc27 : oQ X26 S0' 9 #[sR y] [.int 3, .ref y, .ref it, .ref it] := st26
  obtain ⟨_, T28, L28, X28, ⟨rfl, Nq28, Kq28, G128, G228, G328⟩, st28⟩ := oCN (y := yM41) X26 cc27 hx hZ hown hml (q 5 rfl) eq26 it rfl (W 193 rfl) (W 194 rfl) (W 196 rfl) (by decide) [.ref y, .int 3] [.ref it] (lenOf own_pd21 rfl) (bO (own_lii l Z a0 hw it y 3 h21 n0 Zs1 A21 F_list_it F_size_it F_cursor_it F_isListIterator_it gn_it) hZ (W 196 rfl) (W 183 rfl))
  have N28 := Fr.app N26 Nq28
  have KK2 := KK1.trans Kq28 (allS (Or.inr s0_it) all0)
  have Zs2 := Nat.le_trans Zs1 Kq28.1
  have e28 : T28.heap = T28.heap := rfl
  have cc30 : oQ X28 S0' 12 #[sR y] [.ref it] := st28
  have fa29 := A21.keep Kq28
  exact oRA X28 Bd cc30 (q 6 rfl) rfl (rfl) rfl e28 ⟨it, rfl, N28, KK2, s0_it, fa29, G128, G228, G328⟩
def Q_own_hn1 (Z : State) (it : Addr) (i n : Int32) (h0 : Heap) (n0 : Nat) (v : Option Value) (h : Heap) (L : List Loc) : Prop := v = some (.int 1) ∧ Fr n0 L ∧ h = h0
theorem own_hn1 (l : Launch) (Z : State) (a0 : Array Value) (hw : oH a0 Z) (it : Addr) (i n : Int32) (h0 : Heap) (n0 : Nat) (Z0 : n0 ≤ h0.size) (F2 : zF5 Z h0 it (.int n)) (F3 : zF6 Z h0 it (.int i)) (hq : ¬ i = n) :
    oC l yM44 (.code yM44 jdk_53_method_3_code 1 (some .boolean)) rM1 #[(.ref it)] Z h0 (Q_own_hn1 Z it i n h0 n0) := by
  refine oO (plainFor_of_name own_pn18) hisR fun p e s m below meth c s₁ S0' Bd hS hx dB hml hown hnm hZ X0 e0 => ?_
  have N0 := Fr.nil n0
  have KK0 := Keep.refl h0 ([] : List Addr)
  have cc0 : oQ X0 S0' 0 #[sR it] [] := oE hS rfl
  have W := @own_w Z a0 hw
  have q := @dX _ _ c D_41 @dB
  have cc21 : oQ X0 S0' 1 #[sR it] [.ref it] := Steps.trans cc0 (by
    refine XS.aloadN X0.here hx rfl (q 0 rfl) rfl rfl ?_
    exact Steps.refl _)
  obtain ⟨T22, X22, e22, st22⟩ := oGF X0 cc21 hx hZ hown (W 202 rfl) Via.refl e0 F3 (q 1 rfl)
  have cc23 : oQ X22 S0' 5 #[sR it] [.ref it, .int i] := Steps.trans st22 (by
    refine XS.aloadN X22.here hx rfl (q 2 rfl) rfl rfl ?_
    exact Steps.refl _)
  obtain ⟨T24, X24, e24, st24⟩ := oGF X22 cc23 hx hZ hown (W 200 rfl) Via.refl e22 F2 (q 3 rfl)
  have cc25 : oQ X24 S0' 16 #[sR it] [.int 1] := Steps.trans st24 (by
    refine XS.icmpNo X24.here hx rfl (q 4 rfl) rfl (ii_eq_f hq) ?_
    refine iconstV X24.here hx rfl 1 (q 5 rfl) (by decide) ?_
    refine XS.goto X24.here hx rfl (pc0 := 12) rfl (q 6 rfl) (by decide) rfl ?_
    exact Steps.refl _)
  exact oRI X24 Bd cc25 (q 7 rfl) rfl (rfl) (by simp) e24 ⟨rfl, N0, rfl⟩
def Q_own_hn0 (Z : State) (it : Addr) (i n : Int32) (h0 : Heap) (n0 : Nat) (v : Option Value) (h : Heap) (L : List Loc) : Prop := v = some (.int 0) ∧ Fr n0 L ∧ h = h0
theorem own_hn0 (l : Launch) (Z : State) (a0 : Array Value) (hw : oH a0 Z) (it : Addr) (i n : Int32) (h0 : Heap) (n0 : Nat) (Z0 : n0 ≤ h0.size) (F2 : zF5 Z h0 it (.int n)) (F3 : zF6 Z h0 it (.int i)) (hq : i = n) :
    oC l yM44 (.code yM44 jdk_53_method_3_code 1 (some .boolean)) rM1 #[(.ref it)] Z h0 (Q_own_hn0 Z it i n h0 n0) := by
  refine oO (plainFor_of_name own_pn18) hisR fun p e s m below meth c s₁ S0' Bd hS hx dB hml hown hnm hZ X0 e0 => ?_
  have N0 := Fr.nil n0
  have KK0 := Keep.refl h0 ([] : List Addr)
  have cc0 : oQ X0 S0' 0 #[sR it] [] := oE hS rfl
  have W := @own_w Z a0 hw
  have q := @dX _ _ c D_41 @dB
  have cc21 : oQ X0 S0' 1 #[sR it] [.ref it] := Steps.trans cc0 (by
    refine XS.aloadN X0.here hx rfl (q 0 rfl) rfl rfl ?_
    exact Steps.refl _)
  obtain ⟨T22, X22, e22, st22⟩ := oGF X0 cc21 hx hZ hown (W 202 rfl) Via.refl e0 F3 (q 1 rfl)
  have cc23 : oQ X22 S0' 5 #[sR it] [.ref it, .int i] := Steps.trans st22 (by
    refine XS.aloadN X22.here hx rfl (q 2 rfl) rfl rfl ?_
    exact Steps.refl _)
  obtain ⟨T24, X24, e24, st24⟩ := oGF X22 cc23 hx hZ hown (W 200 rfl) Via.refl e22 F2 (q 3 rfl)
  have cc25 : oQ X24 S0' 16 #[sR it] [.int 0] := Steps.trans st24 (by
    refine XS.icmpYes X24.here hx rfl (pc0 := 8) rfl (q 4 rfl) rfl (ii_eq_t hq) (by decide) rfl ?_
    refine iconstV X24.here hx rfl 0 (q 8 rfl) (by decide) ?_
    exact Steps.refl _)
  exact oRI X24 Bd cc25 (q 7 rfl) rfl (rfl) (by simp) e24 ⟨rfl, N0, rfl⟩
def Q_own_gt1_0 (Z : State) (y : Addr) (u0 : Addr) (em : Addr) (h0 : Heap) (n0 : Nat) (v : Option Value) (h : Heap) (L : List Loc) : Prop := v = some (.ref u0) ∧ Fr n0 L ∧ h = h0
theorem own_gt1_0 (l : Launch) (Z : State) (a0 : Array Value) (hw : oH a0 Z) (y : Addr) (u0 : Addr) (em : Addr) (h0 : Heap) (n0 : Nat) (Z0 : n0 ≤ h0.size) (R1 : zE2 Z h0 y) (R2 : zF3 Z h0 y (.ref u0)) (R3 : zF4 Z h0 y (.ref em)) (X00 : Old Z n0 h0) (OE : Sta Z Z.heap "java/util/ImmutableCollections" "EMPTY" "Ljava/lang/Object;" (.ref em)) :
    oC l yM45 (.code yM45 jdk_44_method_5_code 2 (some (.object "java/lang/Object"))) rM1 #[(.ref y), (.int 0)] Z h0 (Q_own_gt1_0 Z y u0 em h0 n0) := by
  refine oO (plainFor_of_name own_pn14) hisR fun p e s m below meth c s₁ S0' Bd hS hx dB hml hown hnm hZ X0 e0 => ?_
  have N0 := Fr.nil n0
  have KK0 := Keep.refl h0 ([] : List Addr)
  have cc0 : oQ X0 S0' 0 #[sR y, sI 0] [] := oE hS rfl
  have W := @own_w Z a0 hw
  have q := @dX _ _ c D_42 @dB
  have cc21 : oQ X0 S0' 5 #[sR y, sI 0] [.ref y] := Steps.trans cc0 (by
    refine XS.iloadN X0.here hx rfl (q 0 rfl) rfl ?_
    refine XS.ifNo X0.here hx rfl (q 1 rfl) rfl (i0_ne_f rfl) ?_
    refine XS.aloadN X0.here hx rfl (q 2 rfl) rfl rfl ?_
    exact Steps.refl _)
  obtain ⟨T22, X22, e22, st22⟩ := oGF X0 cc21 hx hZ hown (W 473 rfl) Via.refl e0 R2 (q 3 rfl)
  have cc23 : oQ X22 S0' 8 #[sR y, sI 0] [.ref u0] := st22
  exact oRA X22 Bd cc23 (q 4 rfl) rfl (rfl) rfl e22 ⟨rfl, N0, rfl⟩
def Q_own_nx1_0 (Z : State) (it : Addr) (y : Addr) (u0 : Addr) (em : Addr) (h0 : Heap) (n0 : Nat) (v : Option Value) (h : Heap) (L : List Loc) : Prop := v = some (.ref u0) ∧ Fr n0 L ∧ Keep h0 h [it] ∧ zF7 Z h it (.ref y) ∧ zF5 Z h it (.int (1 : Int32)) ∧ zF6 Z h it (.int (1 : Int32))
theorem own_nx1_0 (l : Launch) (Z : State) (a0 : Array Value) (hw : oH a0 Z) (it : Addr) (y : Addr) (u0 : Addr) (em : Addr) (h0 : Heap) (n0 : Nat) (Z0 : n0 ≤ h0.size) (E : zE5 Z h0 it) (F1 : zF7 Z h0 it (.ref y)) (F2 : zF5 Z h0 it (.int (1 : Int32))) (F3 : zF6 Z h0 it (.int (0 : Int32))) (gi : n0 ≤ it) (R1 : zE2 Z h0 y) (R2 : zF3 Z h0 y (.ref u0)) (R3 : zF4 Z h0 y (.ref em)) (X00 : Old Z n0 h0) (OE : Sta Z Z.heap "java/util/ImmutableCollections" "EMPTY" "Ljava/lang/Object;" (.ref em)) :
    oC l yM47 (.codeWith yM47 jdk_53_method_4_code 3 (some (.object "java/lang/Object")) [((0 : Nat), (24 : Nat), (25 : Nat), (30 : Nat))]) rM33 #[(.ref it)] Z h0 (Q_own_nx1_0 Z it y u0 em h0 n0) := by
  refine oO (plainFor_of_name own_pn18) hisWith fun p e s m below meth c s₁ S0' Bd hS hx dB hml hown hnm hZ X0 e0 => ?_
  have N0 := Fr.nil n0
  have KK0 := Keep.refl h0 [it]
  have cc0 : oQ X0 S0' 0 #[sR it, uN, uN] [] := oE hS rfl
  have W := @own_w Z a0 hw
  have q := @dX _ _ c D_43 @dB
  have cc21 : oQ X0 S0' 1 #[sR it, uN, uN] [.ref it] := Steps.trans cc0 (by
    refine XS.aloadN X0.here hx rfl (q 0 rfl) rfl rfl ?_
    exact Steps.refl _)
  obtain ⟨T22, X22, e22, st22⟩ := oGF X0 cc21 hx hZ hown (W 202 rfl) Via.refl e0 F3 (q 1 rfl)
  have cc23 : oQ X22 S0' 6 #[sR it, sI (0 : Int32), uN] [.ref it] := Steps.trans st22 (by
    refine XS.istoreN X22.here hx rfl (q 2 rfl) rfl rfl ?_
    refine XS.aloadN X22.here hx rfl (q 3 rfl) rfl rfl ?_
    exact Steps.refl _)
  obtain ⟨T24, X24, e24, st24⟩ := oGF X22 cc23 hx hZ hown (W 198 rfl) Via.refl e22 F1 (q 4 rfl)
  have cc25 : oQ X24 S0' 10 #[sR it, sI (0 : Int32), uN] [.int (0 : Int32), .ref y] := Steps.trans st24 (by
    refine XS.iloadN X24.here hx rfl (q 5 rfl) rfl ?_
    exact Steps.refl _)
  have cz26 : oQ X24 S0' 10 #[sR it, sI 0, uN] [.int 0, .ref y] := cc25
  obtain ⟨_, T27, L27, X27, ⟨rfl, Nq27, eq27⟩, st27⟩ := oCI (y := yM46) (z := yM45) X24 cz26 hx hZ hown hml (q 6 rfl) e24 R1 (W 391 rfl) (W 392 rfl) (mvT hZ (W 393 rfl)) (W 484 rfl) (W 485 rfl) (W 486 rfl) (W 487 rfl) (W 479 rfl) (by decide) [.int 0] [] (lenOf own_pd22 rfl) (bO (own_gt1_0 l Z a0 hw y u0 em h0 n0 Z0 R1 R2 R3 X00 OE) hZ (W 488 rfl) (W 463 rfl))
  have N27 := Fr.app N0 Nq27
  have cc28 : oQ X27 S0' 20 #[sR it, sI 0, sR u0] [.int ((0 : Int32) + (1 : Int32)), .ref it] := Steps.trans st27 (by
    refine XS.astoreN X27.here hx rfl (q 7 rfl) rfl rfl rfl ?_
    refine XS.aloadN X27.here hx rfl (q 8 rfl) rfl rfl ?_
    refine XS.iloadN X27.here hx rfl (q 9 rfl) rfl ?_
    refine iconstV X27.here hx rfl 1 (q 10 rfl) (by decide) ?_
    refine XS.iadd X27.here hx rfl (q 11 rfl) rfl ?_
    exact Steps.refl _)
  have cz29 : oQ X27 S0' 20 #[sR it, sI 0, sR u0] [.int 1, .ref it] := cc28
  obtain ⟨T30, h30, X30, e30, W30, st30⟩ := oPF X27 cz29 hx hZ hown (W 202 rfl) Via.refl eq27 F3 E (Or.inl (W 203 rfl)) (W 182 rfl) (ty := .int) (by decide) rfl rfl (q 12 rfl)
  have K30 := Keep.of_wr W30
  have N30 := Fr.snoc X30 N27 gi
  have KK1 := KK0.trans K30 (allS (Or.inl (lM 0 rfl)) all0)
  have Zs1 := Nat.le_trans Z0 K30.1
  have cc32 : oQ X30 S0' 24 #[sR it, sI 0, sR u0] [.ref u0] := Steps.trans st30 (by
    refine XS.aloadN X30.here hx rfl (q 13 rfl) rfl rfl ?_
    exact Steps.refl _)
  have fa31 := F1.other W30 (Or.inr (slot_ne (Or.inr (W 199 rfl)) (Or.inl (W 203 rfl)) (by decide) (t := (.object "java/util/List")) (t' := .int) (by decide) (by decide)))
  have fa33 := F2.other W30 (Or.inr (slot_ne (Or.inr (W 201 rfl)) (Or.inl (W 203 rfl)) (by decide) (t := .int) (t' := .int) (by decide) (by decide)))
  exact oRA X30 Bd cc32 (q 14 rfl) rfl (rfl) rfl e30 ⟨rfl, N30, KK1, fa31, fa33, (Fld.same W30 F3)⟩
def Q_own_gt2_0 (Z : State) (y : Addr) (u0 : Addr) (u1 : Addr) (em : Addr) (h0 : Heap) (n0 : Nat) (v : Option Value) (h : Heap) (L : List Loc) : Prop := v = some (.ref u0) ∧ Fr n0 L ∧ h = h0
theorem own_gt2_0 (l : Launch) (Z : State) (a0 : Array Value) (hw : oH a0 Z) (y : Addr) (u0 : Addr) (u1 : Addr) (em : Addr) (h0 : Heap) (n0 : Nat) (Z0 : n0 ≤ h0.size) (R1 : zE2 Z h0 y) (R2 : zF3 Z h0 y (.ref u0)) (R3 : zF4 Z h0 y (.ref u1)) (X00 : Old Z n0 h0) (OE : Sta Z Z.heap "java/util/ImmutableCollections" "EMPTY" "Ljava/lang/Object;" (.ref em)) (hne : ¬ u1 = em) :
    oC l yM45 (.code yM45 jdk_44_method_5_code 2 (some (.object "java/lang/Object"))) rM1 #[(.ref y), (.int 0)] Z h0 (Q_own_gt2_0 Z y u0 u1 em h0 n0) := by
  refine oO (plainFor_of_name own_pn14) hisR fun p e s m below meth c s₁ S0' Bd hS hx dB hml hown hnm hZ X0 e0 => ?_
  have N0 := Fr.nil n0
  have KK0 := Keep.refl h0 ([] : List Addr)
  have cc0 : oQ X0 S0' 0 #[sR y, sI 0] [] := oE hS rfl
  have W := @own_w Z a0 hw
  have q := @dX _ _ c D_42 @dB
  have cc21 : oQ X0 S0' 5 #[sR y, sI 0] [.ref y] := Steps.trans cc0 (by
    refine XS.iloadN X0.here hx rfl (q 0 rfl) rfl ?_
    refine XS.ifNo X0.here hx rfl (q 1 rfl) rfl (i0_ne_f rfl) ?_
    refine XS.aloadN X0.here hx rfl (q 2 rfl) rfl rfl ?_
    exact Steps.refl _)
  obtain ⟨T22, X22, e22, st22⟩ := oGF X0 cc21 hx hZ hown (W 473 rfl) Via.refl e0 R2 (q 3 rfl)
  have cc23 : oQ X22 S0' 8 #[sR y, sI 0] [.ref u0] := st22
  exact oRA X22 Bd cc23 (q 4 rfl) rfl (rfl) rfl e22 ⟨rfl, N0, rfl⟩
def Q_own_nx2_0 (Z : State) (it : Addr) (y : Addr) (u0 : Addr) (u1 : Addr) (em : Addr) (h0 : Heap) (n0 : Nat) (v : Option Value) (h : Heap) (L : List Loc) : Prop := v = some (.ref u0) ∧ Fr n0 L ∧ Keep h0 h [it] ∧ zF7 Z h it (.ref y) ∧ zF5 Z h it (.int (2 : Int32)) ∧ zF6 Z h it (.int (1 : Int32))
theorem own_nx2_0 (l : Launch) (Z : State) (a0 : Array Value) (hw : oH a0 Z) (it : Addr) (y : Addr) (u0 : Addr) (u1 : Addr) (em : Addr) (h0 : Heap) (n0 : Nat) (Z0 : n0 ≤ h0.size) (E : zE5 Z h0 it) (F1 : zF7 Z h0 it (.ref y)) (F2 : zF5 Z h0 it (.int (2 : Int32))) (F3 : zF6 Z h0 it (.int (0 : Int32))) (gi : n0 ≤ it) (R1 : zE2 Z h0 y) (R2 : zF3 Z h0 y (.ref u0)) (R3 : zF4 Z h0 y (.ref u1)) (X00 : Old Z n0 h0) (OE : Sta Z Z.heap "java/util/ImmutableCollections" "EMPTY" "Ljava/lang/Object;" (.ref em)) (hne : ¬ u1 = em) :
    oC l yM47 (.codeWith yM47 jdk_53_method_4_code 3 (some (.object "java/lang/Object")) [((0 : Nat), (24 : Nat), (25 : Nat), (30 : Nat))]) rM33 #[(.ref it)] Z h0 (Q_own_nx2_0 Z it y u0 u1 em h0 n0) := by
  refine oO (plainFor_of_name own_pn18) hisWith fun p e s m below meth c s₁ S0' Bd hS hx dB hml hown hnm hZ X0 e0 => ?_
  have N0 := Fr.nil n0
  have KK0 := Keep.refl h0 [it]
  have cc0 : oQ X0 S0' 0 #[sR it, uN, uN] [] := oE hS rfl
  have W := @own_w Z a0 hw
  have q := @dX _ _ c D_43 @dB
  have cc21 : oQ X0 S0' 1 #[sR it, uN, uN] [.ref it] := Steps.trans cc0 (by
    refine XS.aloadN X0.here hx rfl (q 0 rfl) rfl rfl ?_
    exact Steps.refl _)
  obtain ⟨T22, X22, e22, st22⟩ := oGF X0 cc21 hx hZ hown (W 202 rfl) Via.refl e0 F3 (q 1 rfl)
  have cc23 : oQ X22 S0' 6 #[sR it, sI (0 : Int32), uN] [.ref it] := Steps.trans st22 (by
    refine XS.istoreN X22.here hx rfl (q 2 rfl) rfl rfl ?_
    refine XS.aloadN X22.here hx rfl (q 3 rfl) rfl rfl ?_
    exact Steps.refl _)
  obtain ⟨T24, X24, e24, st24⟩ := oGF X22 cc23 hx hZ hown (W 198 rfl) Via.refl e22 F1 (q 4 rfl)
  have cc25 : oQ X24 S0' 10 #[sR it, sI (0 : Int32), uN] [.int (0 : Int32), .ref y] := Steps.trans st24 (by
    refine XS.iloadN X24.here hx rfl (q 5 rfl) rfl ?_
    exact Steps.refl _)
  have cz26 : oQ X24 S0' 10 #[sR it, sI 0, uN] [.int 0, .ref y] := cc25
  obtain ⟨_, T27, L27, X27, ⟨rfl, Nq27, eq27⟩, st27⟩ := oCI (y := yM46) (z := yM45) X24 cz26 hx hZ hown hml (q 6 rfl) e24 R1 (W 391 rfl) (W 392 rfl) (mvT hZ (W 393 rfl)) (W 484 rfl) (W 485 rfl) (W 486 rfl) (W 487 rfl) (W 479 rfl) (by decide) [.int 0] [] (lenOf own_pd22 rfl) (bO (own_gt2_0 l Z a0 hw y u0 u1 em h0 n0 Z0 R1 R2 R3 X00 OE hne) hZ (W 488 rfl) (W 463 rfl))
  have N27 := Fr.app N0 Nq27
  have cc28 : oQ X27 S0' 20 #[sR it, sI 0, sR u0] [.int ((0 : Int32) + (1 : Int32)), .ref it] := Steps.trans st27 (by
    refine XS.astoreN X27.here hx rfl (q 7 rfl) rfl rfl rfl ?_
    refine XS.aloadN X27.here hx rfl (q 8 rfl) rfl rfl ?_
    refine XS.iloadN X27.here hx rfl (q 9 rfl) rfl ?_
    refine iconstV X27.here hx rfl 1 (q 10 rfl) (by decide) ?_
    refine XS.iadd X27.here hx rfl (q 11 rfl) rfl ?_
    exact Steps.refl _)
  have cz29 : oQ X27 S0' 20 #[sR it, sI 0, sR u0] [.int 1, .ref it] := cc28
  obtain ⟨T30, h30, X30, e30, W30, st30⟩ := oPF X27 cz29 hx hZ hown (W 202 rfl) Via.refl eq27 F3 E (Or.inl (W 203 rfl)) (W 182 rfl) (ty := .int) (by decide) rfl rfl (q 12 rfl)
  have K30 := Keep.of_wr W30
  have N30 := Fr.snoc X30 N27 gi
  have KK1 := KK0.trans K30 (allS (Or.inl (lM 0 rfl)) all0)
  have Zs1 := Nat.le_trans Z0 K30.1
  have cc32 : oQ X30 S0' 24 #[sR it, sI 0, sR u0] [.ref u0] := Steps.trans st30 (by
    refine XS.aloadN X30.here hx rfl (q 13 rfl) rfl rfl ?_
    exact Steps.refl _)
  have fa31 := F1.other W30 (Or.inr (slot_ne (Or.inr (W 199 rfl)) (Or.inl (W 203 rfl)) (by decide) (t := (.object "java/util/List")) (t' := .int) (by decide) (by decide)))
  have fa33 := F2.other W30 (Or.inr (slot_ne (Or.inr (W 201 rfl)) (Or.inl (W 203 rfl)) (by decide) (t := .int) (t' := .int) (by decide) (by decide)))
  exact oRA X30 Bd cc32 (q 14 rfl) rfl (rfl) rfl e30 ⟨rfl, N30, KK1, fa31, fa33, (Fld.same W30 F3)⟩
def Q_own_gt2_1 (Z : State) (y : Addr) (u0 : Addr) (u1 : Addr) (em : Addr) (h0 : Heap) (n0 : Nat) (v : Option Value) (h : Heap) (L : List Loc) : Prop := v = some (.ref u1) ∧ Fr n0 L ∧ h = h0
theorem own_gt2_1 (l : Launch) (Z : State) (a0 : Array Value) (hw : oH a0 Z) (y : Addr) (u0 : Addr) (u1 : Addr) (em : Addr) (h0 : Heap) (n0 : Nat) (Z0 : n0 ≤ h0.size) (R1 : zE2 Z h0 y) (R2 : zF3 Z h0 y (.ref u0)) (R3 : zF4 Z h0 y (.ref u1)) (X00 : Old Z n0 h0) (OE : Sta Z Z.heap "java/util/ImmutableCollections" "EMPTY" "Ljava/lang/Object;" (.ref em)) (hne : ¬ u1 = em) :
    oC l yM45 (.code yM45 jdk_44_method_5_code 2 (some (.object "java/lang/Object"))) rM1 #[(.ref y), (.int 1)] Z h0 (Q_own_gt2_1 Z y u0 u1 em h0 n0) := by
  refine oO (plainFor_of_name own_pn14) hisR fun p e s m below meth c s₁ S0' Bd hS hx dB hml hown hnm hZ X0 e0 => ?_
  have N0 := Fr.nil n0
  have KK0 := Keep.refl h0 ([] : List Addr)
  have cc0 : oQ X0 S0' 0 #[sR y, sI 1] [] := oE hS rfl
  have W := @own_w Z a0 hw
  have q := @dX _ _ c D_42 @dB
  have cc21 : oQ X0 S0' 15 #[sR y, sI 1] [.ref y] := Steps.trans cc0 (by
    refine XS.iloadN X0.here hx rfl (q 0 rfl) rfl ?_
    refine XS.ifYes X0.here hx rfl (pc0 := 1) rfl (q 1 rfl) rfl (i0_ne_t (by decide)) (by decide) rfl ?_
    refine XS.iloadN X0.here hx rfl (q 5 rfl) rfl ?_
    refine iconstV X0.here hx rfl 1 (q 6 rfl) (by decide) ?_
    refine XS.icmpNo X0.here hx rfl (q 7 rfl) rfl (ii_ne_f rfl) ?_
    refine XS.aloadN X0.here hx rfl (q 8 rfl) rfl rfl ?_
    exact Steps.refl _)
  obtain ⟨T22, X22, e22, st22⟩ := oGF X0 cc21 hx hZ hown (W 475 rfl) Via.refl e0 R3 (q 9 rfl)
  have cc23 : oQ X22 S0' 18 #[sR y, sI 1] [.ref u1] := st22
  obtain ⟨T24, X24, e24, st24⟩ := oGS X22 cc23 hx hZ hown (host := "java/util/ImmutableCollections") (Or.inr (W 483 rfl)) Via.refl e22 (OE.ext X00.2) (q 10 rfl)
  have cc25 : oQ X24 S0' 25 #[sR y, sI 1] [.ref y] := Steps.trans st24 (by
    refine XT.acmpNo X24.here hx rfl (q 11 rfl) rfl rfl rfl (aa_eq_f (fun q => hne (Value.ref.inj q))) ?_
    refine XS.aloadN X24.here hx rfl (q 12 rfl) rfl rfl ?_
    exact Steps.refl _)
  obtain ⟨T26, X26, e26, st26⟩ := oGF X24 cc25 hx hZ hown (W 475 rfl) Via.refl e24 R3 (q 13 rfl)
  have cc27 : oQ X26 S0' 28 #[sR y, sI 1] [.ref u1] := st26
  exact oRA X26 Bd cc27 (q 14 rfl) rfl (rfl) rfl e26 ⟨rfl, N0, rfl⟩
def Q_own_nx2_1 (Z : State) (it : Addr) (y : Addr) (u0 : Addr) (u1 : Addr) (em : Addr) (h0 : Heap) (n0 : Nat) (v : Option Value) (h : Heap) (L : List Loc) : Prop := v = some (.ref u1) ∧ Fr n0 L ∧ Keep h0 h [it] ∧ zF7 Z h it (.ref y) ∧ zF5 Z h it (.int (2 : Int32)) ∧ zF6 Z h it (.int (2 : Int32))
theorem own_nx2_1 (l : Launch) (Z : State) (a0 : Array Value) (hw : oH a0 Z) (it : Addr) (y : Addr) (u0 : Addr) (u1 : Addr) (em : Addr) (h0 : Heap) (n0 : Nat) (Z0 : n0 ≤ h0.size) (E : zE5 Z h0 it) (F1 : zF7 Z h0 it (.ref y)) (F2 : zF5 Z h0 it (.int (2 : Int32))) (F3 : zF6 Z h0 it (.int (1 : Int32))) (gi : n0 ≤ it) (R1 : zE2 Z h0 y) (R2 : zF3 Z h0 y (.ref u0)) (R3 : zF4 Z h0 y (.ref u1)) (X00 : Old Z n0 h0) (OE : Sta Z Z.heap "java/util/ImmutableCollections" "EMPTY" "Ljava/lang/Object;" (.ref em)) (hne : ¬ u1 = em) :
    oC l yM47 (.codeWith yM47 jdk_53_method_4_code 3 (some (.object "java/lang/Object")) [((0 : Nat), (24 : Nat), (25 : Nat), (30 : Nat))]) rM33 #[(.ref it)] Z h0 (Q_own_nx2_1 Z it y u0 u1 em h0 n0) := by
  refine oO (plainFor_of_name own_pn18) hisWith fun p e s m below meth c s₁ S0' Bd hS hx dB hml hown hnm hZ X0 e0 => ?_
  have N0 := Fr.nil n0
  have KK0 := Keep.refl h0 [it]
  have cc0 : oQ X0 S0' 0 #[sR it, uN, uN] [] := oE hS rfl
  have W := @own_w Z a0 hw
  have q := @dX _ _ c D_43 @dB
  have cc21 : oQ X0 S0' 1 #[sR it, uN, uN] [.ref it] := Steps.trans cc0 (by
    refine XS.aloadN X0.here hx rfl (q 0 rfl) rfl rfl ?_
    exact Steps.refl _)
  obtain ⟨T22, X22, e22, st22⟩ := oGF X0 cc21 hx hZ hown (W 202 rfl) Via.refl e0 F3 (q 1 rfl)
  have cc23 : oQ X22 S0' 6 #[sR it, sI (1 : Int32), uN] [.ref it] := Steps.trans st22 (by
    refine XS.istoreN X22.here hx rfl (q 2 rfl) rfl rfl ?_
    refine XS.aloadN X22.here hx rfl (q 3 rfl) rfl rfl ?_
    exact Steps.refl _)
  obtain ⟨T24, X24, e24, st24⟩ := oGF X22 cc23 hx hZ hown (W 198 rfl) Via.refl e22 F1 (q 4 rfl)
  have cc25 : oQ X24 S0' 10 #[sR it, sI (1 : Int32), uN] [.int (1 : Int32), .ref y] := Steps.trans st24 (by
    refine XS.iloadN X24.here hx rfl (q 5 rfl) rfl ?_
    exact Steps.refl _)
  have cz26 : oQ X24 S0' 10 #[sR it, sI 1, uN] [.int 1, .ref y] := cc25
  obtain ⟨_, T27, L27, X27, ⟨rfl, Nq27, eq27⟩, st27⟩ := oCI (y := yM46) (z := yM45) X24 cz26 hx hZ hown hml (q 6 rfl) e24 R1 (W 391 rfl) (W 392 rfl) (mvT hZ (W 393 rfl)) (W 484 rfl) (W 485 rfl) (W 486 rfl) (W 487 rfl) (W 479 rfl) (by decide) [.int 1] [] (lenOf own_pd22 rfl) (bO (own_gt2_1 l Z a0 hw y u0 u1 em h0 n0 Z0 R1 R2 R3 X00 OE hne) hZ (W 488 rfl) (W 463 rfl))
  have N27 := Fr.app N0 Nq27
  have cc28 : oQ X27 S0' 20 #[sR it, sI 1, sR u1] [.int ((1 : Int32) + (1 : Int32)), .ref it] := Steps.trans st27 (by
    refine XS.astoreN X27.here hx rfl (q 7 rfl) rfl rfl rfl ?_
    refine XS.aloadN X27.here hx rfl (q 8 rfl) rfl rfl ?_
    refine XS.iloadN X27.here hx rfl (q 9 rfl) rfl ?_
    refine iconstV X27.here hx rfl 1 (q 10 rfl) (by decide) ?_
    refine XS.iadd X27.here hx rfl (q 11 rfl) rfl ?_
    exact Steps.refl _)
  have cz29 : oQ X27 S0' 20 #[sR it, sI 1, sR u1] [.int 2, .ref it] := cc28
  obtain ⟨T30, h30, X30, e30, W30, st30⟩ := oPF X27 cz29 hx hZ hown (W 202 rfl) Via.refl eq27 F3 E (Or.inl (W 203 rfl)) (W 182 rfl) (ty := .int) (by decide) rfl rfl (q 12 rfl)
  have K30 := Keep.of_wr W30
  have N30 := Fr.snoc X30 N27 gi
  have KK1 := KK0.trans K30 (allS (Or.inl (lM 0 rfl)) all0)
  have Zs1 := Nat.le_trans Z0 K30.1
  have cc32 : oQ X30 S0' 24 #[sR it, sI 1, sR u1] [.ref u1] := Steps.trans st30 (by
    refine XS.aloadN X30.here hx rfl (q 13 rfl) rfl rfl ?_
    exact Steps.refl _)
  have fa31 := F1.other W30 (Or.inr (slot_ne (Or.inr (W 199 rfl)) (Or.inl (W 203 rfl)) (by decide) (t := (.object "java/util/List")) (t' := .int) (by decide) (by decide)))
  have fa33 := F2.other W30 (Or.inr (slot_ne (Or.inr (W 201 rfl)) (Or.inl (W 203 rfl)) (by decide) (t := .int) (t' := .int) (by decide) (by decide)))
  exact oRA X30 Bd cc32 (q 14 rfl) rfl (rfl) rfl e30 ⟨rfl, N30, KK1, fa31, fa33, (Fld.same W30 F3)⟩
def Q_own_gt3_0 (Z : State) (y g : Addr) (kg : ClassId) (u0 : Addr) (u1 : Addr) (u2 : Addr) (h0 : Heap) (n0 : Nat) (v : Option Value) (h : Heap) (L : List Loc) : Prop := v = some (.ref u0) ∧ Fr n0 L ∧ h = h0
theorem own_gt3_0 (l : Launch) (Z : State) (a0 : Array Value) (hw : oH a0 Z) (y g : Addr) (kg : ClassId) (u0 : Addr) (u1 : Addr) (u2 : Addr) (h0 : Heap) (n0 : Nat) (Z0 : n0 ≤ h0.size) (R1 : zE3 Z h0 y) (R2 : zF8 Z h0 y (.ref g)) (R3 : Arv Z h0 g kg (.object "java/lang/Object") (3 : Int32) [(.ref u0), (.ref u1), (.ref u2)] .null) :
    oC l yM48 (.code yM48 jdk_45_method_4_code 2 (some (.object "java/lang/Object"))) rM1 #[(.ref y), (.int 0)] Z h0 (Q_own_gt3_0 Z y g kg u0 u1 u2 h0 n0) := by
  refine oO (plainFor_of_name own_pn13) hisR fun p e s m below meth c s₁ S0' Bd hS hx dB hml hown hnm hZ X0 e0 => ?_
  have N0 := Fr.nil n0
  have KK0 := Keep.refl h0 ([] : List Addr)
  have cc0 : oQ X0 S0' 0 #[sR y, sI 0] [] := oE hS rfl
  have W := @own_w Z a0 hw
  have q := @dX _ _ c D_44 @dB
  have cc21 : oQ X0 S0' 1 #[sR y, sI 0] [.ref y] := Steps.trans cc0 (by
    refine XS.aloadN X0.here hx rfl (q 0 rfl) rfl rfl ?_
    exact Steps.refl _)
  obtain ⟨T22, X22, e22, st22⟩ := oGF X0 cc21 hx hZ hown (W 191 rfl) Via.refl e0 R2 (q 1 rfl)
  have cc23 : oQ X22 S0' 5 #[sR y, sI 0] [.int 0, .ref g] := Steps.trans st22 (by
    refine XS.iloadN X22.here hx rfl (q 2 rfl) rfl ?_
    exact Steps.refl _)
  obtain ⟨clu24, Aru24, qu24, Su24, Ngu24, Hsu24, Gsu24⟩ := id R3
  have inu24 : ¬ ((0 : Int32) < 0 ∨ clu24.slots.size ≤ ((0 : Int32)).toNatClampNeg) := inb_of Su24 ⟨by decide, by decide⟩
  have atu24 : clu24.slots[((0 : Int32)).toNatClampNeg]? = some (.ref u0) := Hsu24.at inu24 rfl
  have cc25 : oQ X22 S0' 6 #[sR y, sI 0] [.ref u0] := Steps.trans cc23 (by
    refine X22.aaload hx (j := (0 : Int32)) (v := (.ref u0)) (by rw [e22]; exact Aru24.1) (State.isArrayOf_alike (hZ).alike Aru24.2.1) rfl Aru24.2.2 inu24 atu24 (g := (mkF m 5 #[sR y, sI 0] [.int 0, .ref g])) rfl rfl (q 3 rfl) _ ?_
    exact Steps.refl _)
  exact oRA X22 Bd cc25 (q 4 rfl) rfl (rfl) rfl e22 ⟨rfl, N0, rfl⟩
def Q_own_nx3_0 (Z : State) (it : Addr) (y g : Addr) (kg : ClassId) (u0 : Addr) (u1 : Addr) (u2 : Addr) (h0 : Heap) (n0 : Nat) (v : Option Value) (h : Heap) (L : List Loc) : Prop := v = some (.ref u0) ∧ Fr n0 L ∧ Keep h0 h [it] ∧ zF7 Z h it (.ref y) ∧ zF5 Z h it (.int (3 : Int32)) ∧ zF6 Z h it (.int (1 : Int32))
theorem own_nx3_0 (l : Launch) (Z : State) (a0 : Array Value) (hw : oH a0 Z) (it : Addr) (y g : Addr) (kg : ClassId) (u0 : Addr) (u1 : Addr) (u2 : Addr) (h0 : Heap) (n0 : Nat) (Z0 : n0 ≤ h0.size) (E : zE5 Z h0 it) (F1 : zF7 Z h0 it (.ref y)) (F2 : zF5 Z h0 it (.int (3 : Int32))) (F3 : zF6 Z h0 it (.int (0 : Int32))) (gi : n0 ≤ it) (R1 : zE3 Z h0 y) (R2 : zF8 Z h0 y (.ref g)) (R3 : Arv Z h0 g kg (.object "java/lang/Object") (3 : Int32) [(.ref u0), (.ref u1), (.ref u2)] .null) :
    oC l yM47 (.codeWith yM47 jdk_53_method_4_code 3 (some (.object "java/lang/Object")) [((0 : Nat), (24 : Nat), (25 : Nat), (30 : Nat))]) rM33 #[(.ref it)] Z h0 (Q_own_nx3_0 Z it y g kg u0 u1 u2 h0 n0) := by
  refine oO (plainFor_of_name own_pn18) hisWith fun p e s m below meth c s₁ S0' Bd hS hx dB hml hown hnm hZ X0 e0 => ?_
  have N0 := Fr.nil n0
  have KK0 := Keep.refl h0 [it]
  have cc0 : oQ X0 S0' 0 #[sR it, uN, uN] [] := oE hS rfl
  have W := @own_w Z a0 hw
  have q := @dX _ _ c D_43 @dB
  have cc21 : oQ X0 S0' 1 #[sR it, uN, uN] [.ref it] := Steps.trans cc0 (by
    refine XS.aloadN X0.here hx rfl (q 0 rfl) rfl rfl ?_
    exact Steps.refl _)
  obtain ⟨T22, X22, e22, st22⟩ := oGF X0 cc21 hx hZ hown (W 202 rfl) Via.refl e0 F3 (q 1 rfl)
  have cc23 : oQ X22 S0' 6 #[sR it, sI (0 : Int32), uN] [.ref it] := Steps.trans st22 (by
    refine XS.istoreN X22.here hx rfl (q 2 rfl) rfl rfl ?_
    refine XS.aloadN X22.here hx rfl (q 3 rfl) rfl rfl ?_
    exact Steps.refl _)
  obtain ⟨T24, X24, e24, st24⟩ := oGF X22 cc23 hx hZ hown (W 198 rfl) Via.refl e22 F1 (q 4 rfl)
  have cc25 : oQ X24 S0' 10 #[sR it, sI (0 : Int32), uN] [.int (0 : Int32), .ref y] := Steps.trans st24 (by
    refine XS.iloadN X24.here hx rfl (q 5 rfl) rfl ?_
    exact Steps.refl _)
  have cz26 : oQ X24 S0' 10 #[sR it, sI 0, uN] [.int 0, .ref y] := cc25
  obtain ⟨_, T27, L27, X27, ⟨rfl, Nq27, eq27⟩, st27⟩ := oCI (y := yM46) (z := yM48) X24 cz26 hx hZ hown hml (q 6 rfl) e24 R1 (W 391 rfl) (W 392 rfl) (mvT hZ (W 393 rfl)) (W 394 rfl) (W 395 rfl) (W 396 rfl) (W 397 rfl) (W 178 rfl) (by decide) [.int 0] [] (lenOf own_pd22 rfl) (bO (own_gt3_0 l Z a0 hw y g kg u0 u1 u2 h0 n0 Z0 R1 R2 R3) hZ (W 398 rfl) (W 189 rfl))
  have N27 := Fr.app N0 Nq27
  have cc28 : oQ X27 S0' 20 #[sR it, sI 0, sR u0] [.int ((0 : Int32) + (1 : Int32)), .ref it] := Steps.trans st27 (by
    refine XS.astoreN X27.here hx rfl (q 7 rfl) rfl rfl rfl ?_
    refine XS.aloadN X27.here hx rfl (q 8 rfl) rfl rfl ?_
    refine XS.iloadN X27.here hx rfl (q 9 rfl) rfl ?_
    refine iconstV X27.here hx rfl 1 (q 10 rfl) (by decide) ?_
    refine XS.iadd X27.here hx rfl (q 11 rfl) rfl ?_
    exact Steps.refl _)
  have cz29 : oQ X27 S0' 20 #[sR it, sI 0, sR u0] [.int 1, .ref it] := cc28
  obtain ⟨T30, h30, X30, e30, W30, st30⟩ := oPF X27 cz29 hx hZ hown (W 202 rfl) Via.refl eq27 F3 E (Or.inl (W 203 rfl)) (W 182 rfl) (ty := .int) (by decide) rfl rfl (q 12 rfl)
  have K30 := Keep.of_wr W30
  have N30 := Fr.snoc X30 N27 gi
  have KK1 := KK0.trans K30 (allS (Or.inl (lM 0 rfl)) all0)
  have Zs1 := Nat.le_trans Z0 K30.1
  have cc32 : oQ X30 S0' 24 #[sR it, sI 0, sR u0] [.ref u0] := Steps.trans st30 (by
    refine XS.aloadN X30.here hx rfl (q 13 rfl) rfl rfl ?_
    exact Steps.refl _)
  have fa31 := F1.other W30 (Or.inr (slot_ne (Or.inr (W 199 rfl)) (Or.inl (W 203 rfl)) (by decide) (t := (.object "java/util/List")) (t' := .int) (by decide) (by decide)))
  have fa33 := F2.other W30 (Or.inr (slot_ne (Or.inr (W 201 rfl)) (Or.inl (W 203 rfl)) (by decide) (t := .int) (t' := .int) (by decide) (by decide)))
  exact oRA X30 Bd cc32 (q 14 rfl) rfl (rfl) rfl e30 ⟨rfl, N30, KK1, fa31, fa33, (Fld.same W30 F3)⟩
def Q_own_gt3_1 (Z : State) (y g : Addr) (kg : ClassId) (u0 : Addr) (u1 : Addr) (u2 : Addr) (h0 : Heap) (n0 : Nat) (v : Option Value) (h : Heap) (L : List Loc) : Prop := v = some (.ref u1) ∧ Fr n0 L ∧ h = h0
theorem own_gt3_1 (l : Launch) (Z : State) (a0 : Array Value) (hw : oH a0 Z) (y g : Addr) (kg : ClassId) (u0 : Addr) (u1 : Addr) (u2 : Addr) (h0 : Heap) (n0 : Nat) (Z0 : n0 ≤ h0.size) (R1 : zE3 Z h0 y) (R2 : zF8 Z h0 y (.ref g)) (R3 : Arv Z h0 g kg (.object "java/lang/Object") (3 : Int32) [(.ref u0), (.ref u1), (.ref u2)] .null) :
    oC l yM48 (.code yM48 jdk_45_method_4_code 2 (some (.object "java/lang/Object"))) rM1 #[(.ref y), (.int 1)] Z h0 (Q_own_gt3_1 Z y g kg u0 u1 u2 h0 n0) := by
  refine oO (plainFor_of_name own_pn13) hisR fun p e s m below meth c s₁ S0' Bd hS hx dB hml hown hnm hZ X0 e0 => ?_
  have N0 := Fr.nil n0
  have KK0 := Keep.refl h0 ([] : List Addr)
  have cc0 : oQ X0 S0' 0 #[sR y, sI 1] [] := oE hS rfl
  have W := @own_w Z a0 hw
  have q := @dX _ _ c D_44 @dB
  have cc21 : oQ X0 S0' 1 #[sR y, sI 1] [.ref y] := Steps.trans cc0 (by
    refine XS.aloadN X0.here hx rfl (q 0 rfl) rfl rfl ?_
    exact Steps.refl _)
  obtain ⟨T22, X22, e22, st22⟩ := oGF X0 cc21 hx hZ hown (W 191 rfl) Via.refl e0 R2 (q 1 rfl)
  have cc23 : oQ X22 S0' 5 #[sR y, sI 1] [.int 1, .ref g] := Steps.trans st22 (by
    refine XS.iloadN X22.here hx rfl (q 2 rfl) rfl ?_
    exact Steps.refl _)
  obtain ⟨clu24, Aru24, qu24, Su24, Ngu24, Hsu24, Gsu24⟩ := id R3
  have inu24 : ¬ ((1 : Int32) < 0 ∨ clu24.slots.size ≤ ((1 : Int32)).toNatClampNeg) := inb_of Su24 ⟨by decide, by decide⟩
  have atu24 : clu24.slots[((1 : Int32)).toNatClampNeg]? = some (.ref u1) := Hsu24.at inu24 rfl
  have cc25 : oQ X22 S0' 6 #[sR y, sI 1] [.ref u1] := Steps.trans cc23 (by
    refine X22.aaload hx (j := (1 : Int32)) (v := (.ref u1)) (by rw [e22]; exact Aru24.1) (State.isArrayOf_alike (hZ).alike Aru24.2.1) rfl Aru24.2.2 inu24 atu24 (g := (mkF m 5 #[sR y, sI 1] [.int 1, .ref g])) rfl rfl (q 3 rfl) _ ?_
    exact Steps.refl _)
  exact oRA X22 Bd cc25 (q 4 rfl) rfl (rfl) rfl e22 ⟨rfl, N0, rfl⟩
def Q_own_nx3_1 (Z : State) (it : Addr) (y g : Addr) (kg : ClassId) (u0 : Addr) (u1 : Addr) (u2 : Addr) (h0 : Heap) (n0 : Nat) (v : Option Value) (h : Heap) (L : List Loc) : Prop := v = some (.ref u1) ∧ Fr n0 L ∧ Keep h0 h [it] ∧ zF7 Z h it (.ref y) ∧ zF5 Z h it (.int (3 : Int32)) ∧ zF6 Z h it (.int (2 : Int32))
theorem own_nx3_1 (l : Launch) (Z : State) (a0 : Array Value) (hw : oH a0 Z) (it : Addr) (y g : Addr) (kg : ClassId) (u0 : Addr) (u1 : Addr) (u2 : Addr) (h0 : Heap) (n0 : Nat) (Z0 : n0 ≤ h0.size) (E : zE5 Z h0 it) (F1 : zF7 Z h0 it (.ref y)) (F2 : zF5 Z h0 it (.int (3 : Int32))) (F3 : zF6 Z h0 it (.int (1 : Int32))) (gi : n0 ≤ it) (R1 : zE3 Z h0 y) (R2 : zF8 Z h0 y (.ref g)) (R3 : Arv Z h0 g kg (.object "java/lang/Object") (3 : Int32) [(.ref u0), (.ref u1), (.ref u2)] .null) :
    oC l yM47 (.codeWith yM47 jdk_53_method_4_code 3 (some (.object "java/lang/Object")) [((0 : Nat), (24 : Nat), (25 : Nat), (30 : Nat))]) rM33 #[(.ref it)] Z h0 (Q_own_nx3_1 Z it y g kg u0 u1 u2 h0 n0) := by
  refine oO (plainFor_of_name own_pn18) hisWith fun p e s m below meth c s₁ S0' Bd hS hx dB hml hown hnm hZ X0 e0 => ?_
  have N0 := Fr.nil n0
  have KK0 := Keep.refl h0 [it]
  have cc0 : oQ X0 S0' 0 #[sR it, uN, uN] [] := oE hS rfl
  have W := @own_w Z a0 hw
  have q := @dX _ _ c D_43 @dB
  have cc21 : oQ X0 S0' 1 #[sR it, uN, uN] [.ref it] := Steps.trans cc0 (by
    refine XS.aloadN X0.here hx rfl (q 0 rfl) rfl rfl ?_
    exact Steps.refl _)
  obtain ⟨T22, X22, e22, st22⟩ := oGF X0 cc21 hx hZ hown (W 202 rfl) Via.refl e0 F3 (q 1 rfl)
  have cc23 : oQ X22 S0' 6 #[sR it, sI (1 : Int32), uN] [.ref it] := Steps.trans st22 (by
    refine XS.istoreN X22.here hx rfl (q 2 rfl) rfl rfl ?_
    refine XS.aloadN X22.here hx rfl (q 3 rfl) rfl rfl ?_
    exact Steps.refl _)
  obtain ⟨T24, X24, e24, st24⟩ := oGF X22 cc23 hx hZ hown (W 198 rfl) Via.refl e22 F1 (q 4 rfl)
  have cc25 : oQ X24 S0' 10 #[sR it, sI (1 : Int32), uN] [.int (1 : Int32), .ref y] := Steps.trans st24 (by
    refine XS.iloadN X24.here hx rfl (q 5 rfl) rfl ?_
    exact Steps.refl _)
  have cz26 : oQ X24 S0' 10 #[sR it, sI 1, uN] [.int 1, .ref y] := cc25
  obtain ⟨_, T27, L27, X27, ⟨rfl, Nq27, eq27⟩, st27⟩ := oCI (y := yM46) (z := yM48) X24 cz26 hx hZ hown hml (q 6 rfl) e24 R1 (W 391 rfl) (W 392 rfl) (mvT hZ (W 393 rfl)) (W 394 rfl) (W 395 rfl) (W 396 rfl) (W 397 rfl) (W 178 rfl) (by decide) [.int 1] [] (lenOf own_pd22 rfl) (bO (own_gt3_1 l Z a0 hw y g kg u0 u1 u2 h0 n0 Z0 R1 R2 R3) hZ (W 398 rfl) (W 189 rfl))
  have N27 := Fr.app N0 Nq27
  have cc28 : oQ X27 S0' 20 #[sR it, sI 1, sR u1] [.int ((1 : Int32) + (1 : Int32)), .ref it] := Steps.trans st27 (by
    refine XS.astoreN X27.here hx rfl (q 7 rfl) rfl rfl rfl ?_
    refine XS.aloadN X27.here hx rfl (q 8 rfl) rfl rfl ?_
    refine XS.iloadN X27.here hx rfl (q 9 rfl) rfl ?_
    refine iconstV X27.here hx rfl 1 (q 10 rfl) (by decide) ?_
    refine XS.iadd X27.here hx rfl (q 11 rfl) rfl ?_
    exact Steps.refl _)
  have cz29 : oQ X27 S0' 20 #[sR it, sI 1, sR u1] [.int 2, .ref it] := cc28
  obtain ⟨T30, h30, X30, e30, W30, st30⟩ := oPF X27 cz29 hx hZ hown (W 202 rfl) Via.refl eq27 F3 E (Or.inl (W 203 rfl)) (W 182 rfl) (ty := .int) (by decide) rfl rfl (q 12 rfl)
  have K30 := Keep.of_wr W30
  have N30 := Fr.snoc X30 N27 gi
  have KK1 := KK0.trans K30 (allS (Or.inl (lM 0 rfl)) all0)
  have Zs1 := Nat.le_trans Z0 K30.1
  have cc32 : oQ X30 S0' 24 #[sR it, sI 1, sR u1] [.ref u1] := Steps.trans st30 (by
    refine XS.aloadN X30.here hx rfl (q 13 rfl) rfl rfl ?_
    exact Steps.refl _)
  have fa31 := F1.other W30 (Or.inr (slot_ne (Or.inr (W 199 rfl)) (Or.inl (W 203 rfl)) (by decide) (t := (.object "java/util/List")) (t' := .int) (by decide) (by decide)))
  have fa33 := F2.other W30 (Or.inr (slot_ne (Or.inr (W 201 rfl)) (Or.inl (W 203 rfl)) (by decide) (t := .int) (t' := .int) (by decide) (by decide)))
  exact oRA X30 Bd cc32 (q 14 rfl) rfl (rfl) rfl e30 ⟨rfl, N30, KK1, fa31, fa33, (Fld.same W30 F3)⟩
def Q_own_gt3_2 (Z : State) (y g : Addr) (kg : ClassId) (u0 : Addr) (u1 : Addr) (u2 : Addr) (h0 : Heap) (n0 : Nat) (v : Option Value) (h : Heap) (L : List Loc) : Prop := v = some (.ref u2) ∧ Fr n0 L ∧ h = h0
theorem own_gt3_2 (l : Launch) (Z : State) (a0 : Array Value) (hw : oH a0 Z) (y g : Addr) (kg : ClassId) (u0 : Addr) (u1 : Addr) (u2 : Addr) (h0 : Heap) (n0 : Nat) (Z0 : n0 ≤ h0.size) (R1 : zE3 Z h0 y) (R2 : zF8 Z h0 y (.ref g)) (R3 : Arv Z h0 g kg (.object "java/lang/Object") (3 : Int32) [(.ref u0), (.ref u1), (.ref u2)] .null) :
    oC l yM48 (.code yM48 jdk_45_method_4_code 2 (some (.object "java/lang/Object"))) rM1 #[(.ref y), (.int 2)] Z h0 (Q_own_gt3_2 Z y g kg u0 u1 u2 h0 n0) := by
  refine oO (plainFor_of_name own_pn13) hisR fun p e s m below meth c s₁ S0' Bd hS hx dB hml hown hnm hZ X0 e0 => ?_
  have N0 := Fr.nil n0
  have KK0 := Keep.refl h0 ([] : List Addr)
  have cc0 : oQ X0 S0' 0 #[sR y, sI 2] [] := oE hS rfl
  have W := @own_w Z a0 hw
  have q := @dX _ _ c D_44 @dB
  have cc21 : oQ X0 S0' 1 #[sR y, sI 2] [.ref y] := Steps.trans cc0 (by
    refine XS.aloadN X0.here hx rfl (q 0 rfl) rfl rfl ?_
    exact Steps.refl _)
  obtain ⟨T22, X22, e22, st22⟩ := oGF X0 cc21 hx hZ hown (W 191 rfl) Via.refl e0 R2 (q 1 rfl)
  have cc23 : oQ X22 S0' 5 #[sR y, sI 2] [.int 2, .ref g] := Steps.trans st22 (by
    refine XS.iloadN X22.here hx rfl (q 2 rfl) rfl ?_
    exact Steps.refl _)
  obtain ⟨clu24, Aru24, qu24, Su24, Ngu24, Hsu24, Gsu24⟩ := id R3
  have inu24 : ¬ ((2 : Int32) < 0 ∨ clu24.slots.size ≤ ((2 : Int32)).toNatClampNeg) := inb_of Su24 ⟨by decide, by decide⟩
  have atu24 : clu24.slots[((2 : Int32)).toNatClampNeg]? = some (.ref u2) := Hsu24.at inu24 rfl
  have cc25 : oQ X22 S0' 6 #[sR y, sI 2] [.ref u2] := Steps.trans cc23 (by
    refine X22.aaload hx (j := (2 : Int32)) (v := (.ref u2)) (by rw [e22]; exact Aru24.1) (State.isArrayOf_alike (hZ).alike Aru24.2.1) rfl Aru24.2.2 inu24 atu24 (g := (mkF m 5 #[sR y, sI 2] [.int 2, .ref g])) rfl rfl (q 3 rfl) _ ?_
    exact Steps.refl _)
  exact oRA X22 Bd cc25 (q 4 rfl) rfl (rfl) rfl e22 ⟨rfl, N0, rfl⟩
def Q_own_nx3_2 (Z : State) (it : Addr) (y g : Addr) (kg : ClassId) (u0 : Addr) (u1 : Addr) (u2 : Addr) (h0 : Heap) (n0 : Nat) (v : Option Value) (h : Heap) (L : List Loc) : Prop := v = some (.ref u2) ∧ Fr n0 L ∧ Keep h0 h [it] ∧ zF7 Z h it (.ref y) ∧ zF5 Z h it (.int (3 : Int32)) ∧ zF6 Z h it (.int (3 : Int32))
theorem own_nx3_2 (l : Launch) (Z : State) (a0 : Array Value) (hw : oH a0 Z) (it : Addr) (y g : Addr) (kg : ClassId) (u0 : Addr) (u1 : Addr) (u2 : Addr) (h0 : Heap) (n0 : Nat) (Z0 : n0 ≤ h0.size) (E : zE5 Z h0 it) (F1 : zF7 Z h0 it (.ref y)) (F2 : zF5 Z h0 it (.int (3 : Int32))) (F3 : zF6 Z h0 it (.int (2 : Int32))) (gi : n0 ≤ it) (R1 : zE3 Z h0 y) (R2 : zF8 Z h0 y (.ref g)) (R3 : Arv Z h0 g kg (.object "java/lang/Object") (3 : Int32) [(.ref u0), (.ref u1), (.ref u2)] .null) :
    oC l yM47 (.codeWith yM47 jdk_53_method_4_code 3 (some (.object "java/lang/Object")) [((0 : Nat), (24 : Nat), (25 : Nat), (30 : Nat))]) rM33 #[(.ref it)] Z h0 (Q_own_nx3_2 Z it y g kg u0 u1 u2 h0 n0) := by
  refine oO (plainFor_of_name own_pn18) hisWith fun p e s m below meth c s₁ S0' Bd hS hx dB hml hown hnm hZ X0 e0 => ?_
  have N0 := Fr.nil n0
  have KK0 := Keep.refl h0 [it]
  have cc0 : oQ X0 S0' 0 #[sR it, uN, uN] [] := oE hS rfl
  have W := @own_w Z a0 hw
  have q := @dX _ _ c D_43 @dB
  have cc21 : oQ X0 S0' 1 #[sR it, uN, uN] [.ref it] := Steps.trans cc0 (by
    refine XS.aloadN X0.here hx rfl (q 0 rfl) rfl rfl ?_
    exact Steps.refl _)
  obtain ⟨T22, X22, e22, st22⟩ := oGF X0 cc21 hx hZ hown (W 202 rfl) Via.refl e0 F3 (q 1 rfl)
  have cc23 : oQ X22 S0' 6 #[sR it, sI (2 : Int32), uN] [.ref it] := Steps.trans st22 (by
    refine XS.istoreN X22.here hx rfl (q 2 rfl) rfl rfl ?_
    refine XS.aloadN X22.here hx rfl (q 3 rfl) rfl rfl ?_
    exact Steps.refl _)
  obtain ⟨T24, X24, e24, st24⟩ := oGF X22 cc23 hx hZ hown (W 198 rfl) Via.refl e22 F1 (q 4 rfl)
  have cc25 : oQ X24 S0' 10 #[sR it, sI (2 : Int32), uN] [.int (2 : Int32), .ref y] := Steps.trans st24 (by
    refine XS.iloadN X24.here hx rfl (q 5 rfl) rfl ?_
    exact Steps.refl _)
  have cz26 : oQ X24 S0' 10 #[sR it, sI 2, uN] [.int 2, .ref y] := cc25
  obtain ⟨_, T27, L27, X27, ⟨rfl, Nq27, eq27⟩, st27⟩ := oCI (y := yM46) (z := yM48) X24 cz26 hx hZ hown hml (q 6 rfl) e24 R1 (W 391 rfl) (W 392 rfl) (mvT hZ (W 393 rfl)) (W 394 rfl) (W 395 rfl) (W 396 rfl) (W 397 rfl) (W 178 rfl) (by decide) [.int 2] [] (lenOf own_pd22 rfl) (bO (own_gt3_2 l Z a0 hw y g kg u0 u1 u2 h0 n0 Z0 R1 R2 R3) hZ (W 398 rfl) (W 189 rfl))
  have N27 := Fr.app N0 Nq27
  have cc28 : oQ X27 S0' 20 #[sR it, sI 2, sR u2] [.int ((2 : Int32) + (1 : Int32)), .ref it] := Steps.trans st27 (by
    refine XS.astoreN X27.here hx rfl (q 7 rfl) rfl rfl rfl ?_
    refine XS.aloadN X27.here hx rfl (q 8 rfl) rfl rfl ?_
    refine XS.iloadN X27.here hx rfl (q 9 rfl) rfl ?_
    refine iconstV X27.here hx rfl 1 (q 10 rfl) (by decide) ?_
    refine XS.iadd X27.here hx rfl (q 11 rfl) rfl ?_
    exact Steps.refl _)
  have cz29 : oQ X27 S0' 20 #[sR it, sI 2, sR u2] [.int 3, .ref it] := cc28
  obtain ⟨T30, h30, X30, e30, W30, st30⟩ := oPF X27 cz29 hx hZ hown (W 202 rfl) Via.refl eq27 F3 E (Or.inl (W 203 rfl)) (W 182 rfl) (ty := .int) (by decide) rfl rfl (q 12 rfl)
  have K30 := Keep.of_wr W30
  have N30 := Fr.snoc X30 N27 gi
  have KK1 := KK0.trans K30 (allS (Or.inl (lM 0 rfl)) all0)
  have Zs1 := Nat.le_trans Z0 K30.1
  have cc32 : oQ X30 S0' 24 #[sR it, sI 2, sR u2] [.ref u2] := Steps.trans st30 (by
    refine XS.aloadN X30.here hx rfl (q 13 rfl) rfl rfl ?_
    exact Steps.refl _)
  have fa31 := F1.other W30 (Or.inr (slot_ne (Or.inr (W 199 rfl)) (Or.inl (W 203 rfl)) (by decide) (t := (.object "java/util/List")) (t' := .int) (by decide) (by decide)))
  have fa33 := F2.other W30 (Or.inr (slot_ne (Or.inr (W 201 rfl)) (Or.inl (W 203 rfl)) (by decide) (t := .int) (t' := .int) (by decide) (by decide)))
  exact oRA X30 Bd cc32 (q 14 rfl) rfl (rfl) rfl e30 ⟨rfl, N30, KK1, fa31, fa33, (Fld.same W30 F3)⟩
def Q_own_opi (Z : State) (o x : Addr) (h0 : Heap) (n0 : Nat) (v : Option Value) (h : Heap) (L : List Loc) : Prop := v = none ∧ Fr n0 L ∧ Keep h0 h [o] ∧ zF15 Z h o (.ref x)
theorem own_opi (l : Launch) (Z : State) (a0 : Array Value) (hw : oH a0 Z) (o x : Addr) (h0 : Heap) (n0 : Nat) (Z0 : n0 ≤ h0.size) (E : zE7 Z h0 o) (F : zF15 Z h0 o .null) (go : n0 ≤ o) :
    oC l yM49 (.code yM49 jdk_32_method_2_code 2 none) rM0 #[(.ref o), (.ref x)] Z h0 (Q_own_opi Z o x h0 n0) := by
  refine oO (plainFor_of_name own_pn19) hisR fun p e s m below meth c s₁ S0' Bd hS hx dB hml hown hnm hZ X0 e0 => ?_
  have N0 := Fr.nil n0
  have KK0 := Keep.refl h0 [o]
  have cc0 : oQ X0 S0' 0 #[sR o, sR x] [] := oE hS rfl
  have W := @own_w Z a0 hw
  have q := @dX _ _ c D_45 @dB
  have cc21 : oQ X0 S0' 1 #[sR o, sR x] [.ref o] := Steps.trans cc0 (by
    refine XS.aloadN X0.here hx rfl (q 0 rfl) rfl rfl ?_
    exact Steps.refl _)
  obtain ⟨T22, X22, e22, st22⟩ := initO X0 hx hZ hown (W 279 rfl) (W 16 rfl) (W 17 rfl) e0 (g := (mkF m 1 #[sR o, sR x] [.ref o])) rfl (by rw [hml]; rfl) rfl (q 1 rfl) (by decide) (W := 0) (by show 2 * 0 + _ ≤ _; exact Nat.le_of_eq rfl) (by decide)
  have cc23 : oQ X22 S0' 6 #[sR o, sR x] [.ref x, .ref o] := Steps.trans (cc21.trans (st22 _ (Steps.refl _))) (by
    refine XS.aloadN X22.here hx rfl (q 2 rfl) rfl rfl ?_
    refine XS.aloadN X22.here hx rfl (q 3 rfl) rfl rfl ?_
    exact Steps.refl _)
  obtain ⟨T24, h24, X24, e24, W24, st24⟩ := oPF X22 cc23 hx hZ hown (W 280 rfl) Via.refl e22 F E (Or.inr ⟨(W 281 rfl), rfl, hnm⟩) (W 271 rfl) (ty := (.object "java/lang/Object")) (by decide) rfl rfl (q 4 rfl)
  have K24 := Keep.of_wr W24
  have N24 := Fr.snoc X24 N0 go
  have KK1 := KK0.trans K24 (allS (Or.inl (lM 0 rfl)) all0)
  have Zs1 := Nat.le_trans Z0 K24.1
  have cc25 : oQ X24 S0' 9 #[sR o, sR x] [] := st24
  exact oRV X24 Bd cc25 (q 5 rfl) rfl e24 ⟨rfl, N24, KK1, (Fld.same W24 F)⟩
def Q_own_opo (Z : State) (x : Addr) (h0 : Heap) (n0 : Nat) (v : Option Value) (h : Heap) (L : List Loc) : Prop := ∃ o : Addr, v = some (.ref o) ∧ Fr n0 L ∧ Keep h0 h [] ∧ zE7 Z h o ∧ zF15 Z h o (.ref x)
theorem own_opo (l : Launch) (Z : State) (a0 : Array Value) (hw : oH a0 Z) (x : Addr) (h0 : Heap) (n0 : Nat) (Z0 : n0 ≤ h0.size)  :
    oC l yM50 (.code yM50 jdk_32_method_3_code 1 (some (.object "java/util/Optional"))) rM34 #[(.ref x)] Z h0 (Q_own_opo Z x h0 n0) := by
  refine oO (plainFor_of_name own_pn19) hisR fun p e s m below meth c s₁ S0' Bd hS hx dB hml hown hnm hZ X0 e0 => ?_
  have N0 := Fr.nil n0
  have KK0 := Keep.refl h0 ([] : List Addr)
  have cc0 : oQ X0 S0' 0 #[sR x] [] := oE hS rfl
  have W := @own_w Z a0 hw
  have q := @dX _ _ c D_46 @dB
  obtain ⟨T21, h21, X21, e21, E21, A21, D21, -, st21⟩ := newO X0 hx hZ hown (W 270 rfl) (W 271 rfl) (W 268 rfl) e0 (g := (mkF m 0 #[sR x] [])) rfl (q 0 rfl) (by decide) (by decide)
  obtain ⟨o, g_o⟩ : ∃ z, z = h0.size := ⟨_, rfl⟩
  rw [← g_o] at A21 D21 st21
  have K21 := (Keep.refl h0 ([] : List Addr)).ext E21
  have b_o : h0.size ≤ o := (Nat.le_of_eq g_o.symm)
  have gn_o := Nat.le_trans Z0 b_o
  have s0_o := Nat.le_trans KK0.1 b_o
  have KK1 := KK0.trans K21 all0
  have Zs1 := Nat.le_trans Z0 K21.1
  have F_value_o : zF15 Z h21 o .null := D21 (Or.inr (W 281 rfl)) (ty := (.object "java/lang/Object")) (by decide)
  have cc22 : oQ X21 S0' 5 #[sR x] [.ref x, .ref o, .ref o] := Steps.trans (cc0.trans (st21 _ (Steps.refl _))) (by
    refine XS.dup X21.here hx rfl (q 1 rfl) rfl rfl ?_
    refine XS.aloadN X21.here hx rfl (q 2 rfl) rfl rfl ?_
    exact Steps.refl _)
  obtain ⟨_, T23, L23, X23, ⟨rfl, Nq23, eq23⟩, st23⟩ := oCT (y := yM2) X21 cc22 hx hZ hown hml (q 3 rfl) e21 (W 272 rfl) (W 273 rfl) (W 67 rfl) (W 274 rfl) (by decide) [.ref x] [.ref o, .ref o] (lenOf own_pd12 rfl) (bO (own_nn1 l Z a0 hw x h21 n0 Zs1 ) hZ (W 274 rfl) (W 67 rfl))
  have N23 := Fr.app N0 Nq23
  have cc24 : oQ X23 S0' 8 #[sR x] [.ref x, .ref o, .ref o] := st23
  obtain ⟨_, T25, L25, X25, ⟨rfl, Nq25, Kq25, Fq25⟩, st25⟩ := oCN (y := yM49) X23 cc24 hx hZ hown hml (q 4 rfl) eq23 o rfl (W 275 rfl) (W 276 rfl) (W 278 rfl) (by decide) [.ref x] [.ref o] (lenOf own_pd14 rfl) (bO (own_opi l Z a0 hw o x h21 n0 Zs1 A21 F_value_o gn_o) hZ (W 278 rfl) (W 268 rfl))
  have N25 := Fr.app N23 Nq25
  have KK2 := KK1.trans Kq25 (allS (Or.inr s0_o) all0)
  have Zs2 := Nat.le_trans Zs1 Kq25.1
  have e25 : T25.heap = T25.heap := rfl
  have cc27 : oQ X25 S0' 11 #[sR x] [.ref o] := st25
  have fa26 := A21.keep Kq25
  exact oRA X25 Bd cc27 (q 5 rfl) rfl (rfl) rfl e25 ⟨o, rfl, N25, KK2, fa26, Fq25⟩
def Q_own_ope (Z : State) (oe : Addr) (h0 : Heap) (n0 : Nat) (v : Option Value) (h : Heap) (L : List Loc) : Prop := v = some (.ref oe) ∧ Fr n0 L ∧ h = h0
theorem own_ope (l : Launch) (Z : State) (a0 : Array Value) (hw : oH a0 Z) (oe : Addr) (h0 : Heap) (n0 : Nat) (Z0 : n0 ≤ h0.size) (X00 : Old Z n0 h0) (OO : Sta Z Z.heap "java/util/Optional" "EMPTY" "Ljava/util/Optional;" (.ref oe)) :
    oC l yM51 (.code yM51 jdk_32_method_1_code 1 (some (.object "java/util/Optional"))) rM1 #[] Z h0 (Q_own_ope Z oe h0 n0) := by
  refine oO (plainFor_of_name own_pn19) hisR fun p e s m below meth c s₁ S0' Bd hS hx dB hml hown hnm hZ X0 e0 => ?_
  have N0 := Fr.nil n0
  have KK0 := Keep.refl h0 ([] : List Addr)
  have cc0 : oQ X0 S0' 0 #[uN] [] := oE hS rfl
  have W := @own_w Z a0 hw
  have q := @dX _ _ c D_47 @dB
  obtain ⟨T21, X21, e21, st21⟩ := oGS X0 cc0 hx hZ hown (host := "") (Or.inl (W 460 rfl)) Via.refl e0 (OO.ext X00.2) (q 0 rfl)
  have cc22 : oQ X21 S0' 5 #[sR oe] [.ref oe] := Steps.trans st21 (by
    refine XS.astoreN X21.here hx rfl (q 1 rfl) rfl rfl rfl ?_
    refine XS.aloadN X21.here hx rfl (q 2 rfl) rfl rfl ?_
    exact Steps.refl _)
  exact oRA X21 Bd cc22 (q 3 rfl) rfl (rfl) rfl e21 ⟨rfl, N0, rfl⟩
def Q_own_opp1 (Z : State) (o x : Addr) (h0 : Heap) (n0 : Nat) (v : Option Value) (h : Heap) (L : List Loc) : Prop := v = some (.int 1) ∧ Fr n0 L ∧ h = h0
theorem own_opp1 (l : Launch) (Z : State) (a0 : Array Value) (hw : oH a0 Z) (o x : Addr) (h0 : Heap) (n0 : Nat) (Z0 : n0 ≤ h0.size) (F : zF15 Z h0 o (.ref x)) :
    oC l yM52 (.code yM52 jdk_32_method_6_code 1 (some .boolean)) rM1 #[(.ref o)] Z h0 (Q_own_opp1 Z o x h0 n0) := by
  refine oO (plainFor_of_name own_pn19) hisR fun p e s m below meth c s₁ S0' Bd hS hx dB hml hown hnm hZ X0 e0 => ?_
  have N0 := Fr.nil n0
  have KK0 := Keep.refl h0 ([] : List Addr)
  have cc0 : oQ X0 S0' 0 #[sR o] [] := oE hS rfl
  have W := @own_w Z a0 hw
  have q := @dX _ _ c D_48 @dB
  have cc21 : oQ X0 S0' 1 #[sR o] [.ref o] := Steps.trans cc0 (by
    refine XS.aloadN X0.here hx rfl (q 0 rfl) rfl rfl ?_
    exact Steps.refl _)
  obtain ⟨T22, X22, e22, st22⟩ := oGF X0 cc21 hx hZ hown (W 280 rfl) Via.refl e0 F (q 1 rfl)
  have cc23 : oQ X22 S0' 12 #[sR o] [.int 1] := Steps.trans st22 (by
    refine XS.ifnullNo X22.here hx rfl (q 2 rfl) rfl ?_
    refine iconstV X22.here hx rfl 1 (q 3 rfl) (by decide) ?_
    refine XS.goto X22.here hx rfl (pc0 := 8) rfl (q 4 rfl) (by decide) rfl ?_
    exact Steps.refl _)
  exact oRI X22 Bd cc23 (q 5 rfl) rfl (rfl) (by simp) e22 ⟨rfl, N0, rfl⟩
def Q_own_opp0 (Z : State) (o : Addr) (h0 : Heap) (n0 : Nat) (v : Option Value) (h : Heap) (L : List Loc) : Prop := v = some (.int 0) ∧ Fr n0 L ∧ h = h0
theorem own_opp0 (l : Launch) (Z : State) (a0 : Array Value) (hw : oH a0 Z) (o : Addr) (h0 : Heap) (n0 : Nat) (Z0 : n0 ≤ h0.size) (F : zF15 Z h0 o .null) :
    oC l yM52 (.code yM52 jdk_32_method_6_code 1 (some .boolean)) rM1 #[(.ref o)] Z h0 (Q_own_opp0 Z o h0 n0) := by
  refine oO (plainFor_of_name own_pn19) hisR fun p e s m below meth c s₁ S0' Bd hS hx dB hml hown hnm hZ X0 e0 => ?_
  have N0 := Fr.nil n0
  have KK0 := Keep.refl h0 ([] : List Addr)
  have cc0 : oQ X0 S0' 0 #[sR o] [] := oE hS rfl
  have W := @own_w Z a0 hw
  have q := @dX _ _ c D_48 @dB
  have cc21 : oQ X0 S0' 1 #[sR o] [.ref o] := Steps.trans cc0 (by
    refine XS.aloadN X0.here hx rfl (q 0 rfl) rfl rfl ?_
    exact Steps.refl _)
  obtain ⟨T22, X22, e22, st22⟩ := oGF X0 cc21 hx hZ hown (W 280 rfl) Via.refl e0 F (q 1 rfl)
  have cc23 : oQ X22 S0' 12 #[sR o] [.int 0] := Steps.trans st22 (by
    refine XS.ifnullYes X22.here hx rfl (pc0 := 4) rfl (q 2 rfl) rfl (by decide) rfl ?_
    refine iconstV X22.here hx rfl 0 (q 6 rfl) (by decide) ?_
    exact Steps.refl _)
  exact oRI X22 Bd cc23 (q 5 rfl) rfl (rfl) (by simp) e22 ⟨rfl, N0, rfl⟩
def Q_own_opg (Z : State) (o x : Addr) (h0 : Heap) (n0 : Nat) (v : Option Value) (h : Heap) (L : List Loc) : Prop := v = some (.ref x) ∧ Fr n0 L ∧ h = h0
theorem own_opg (l : Launch) (Z : State) (a0 : Array Value) (hw : oH a0 Z) (o x : Addr) (h0 : Heap) (n0 : Nat) (Z0 : n0 ≤ h0.size) (F : zF15 Z h0 o (.ref x)) :
    oC l yM53 (.code yM53 jdk_32_method_5_code 1 (some (.object "java/lang/Object"))) rM1 #[(.ref o)] Z h0 (Q_own_opg Z o x h0 n0) := by
  refine oO (plainFor_of_name own_pn19) hisR fun p e s m below meth c s₁ S0' Bd hS hx dB hml hown hnm hZ X0 e0 => ?_
  have N0 := Fr.nil n0
  have KK0 := Keep.refl h0 ([] : List Addr)
  have cc0 : oQ X0 S0' 0 #[sR o] [] := oE hS rfl
  have W := @own_w Z a0 hw
  have q := @dX _ _ c D_49 @dB
  have cc21 : oQ X0 S0' 1 #[sR o] [.ref o] := Steps.trans cc0 (by
    refine XS.aloadN X0.here hx rfl (q 0 rfl) rfl rfl ?_
    exact Steps.refl _)
  obtain ⟨T22, X22, e22, st22⟩ := oGF X0 cc21 hx hZ hown (W 280 rfl) Via.refl e0 F (q 1 rfl)
  have cc23 : oQ X22 S0' 18 #[sR o] [.ref o] := Steps.trans st22 (by
    refine XT.ifnonnullYes X22.here hx rfl (pc0 := 4) rfl (q 2 rfl) rfl (by decide) rfl ?_
    refine XS.aloadN X22.here hx rfl (q 3 rfl) rfl rfl ?_
    exact Steps.refl _)
  obtain ⟨T24, X24, e24, st24⟩ := oGF X22 cc23 hx hZ hown (W 280 rfl) Via.refl e22 F (q 4 rfl)
  have cc25 : oQ X24 S0' 21 #[sR o] [.ref x] := st24
  exact oRA X24 Bd cc25 (q 5 rfl) rfl (rfl) rfl e24 ⟨rfl, N0, rfl⟩
def Q_own_coder (Z : State) (x : Addr) (z : Int32) (h0 : Heap) (n0 : Nat) (v : Option Value) (h : Heap) (L : List Loc) : Prop := v = some (.int 0) ∧ Fr n0 L ∧ h = h0
theorem own_coder (l : Launch) (Z : State) (a0 : Array Value) (hw : oH a0 Z) (x : Addr) (z : Int32) (h0 : Heap) (n0 : Nat) (Z0 : n0 ≤ h0.size) (X00 : Old Z n0 h0) (O2 : Sta Z Z.heap "java/lang/String" "COMPACT_STRINGS" "Z" (.int z)) (P5 : ¬ z = 0) (C : zF11 Z h0 x (.int (0 : Int32))) :
    oC l yM54 (.code yM54 jdk_42_method_152_code 1 (some .byte)) rM1 #[(.ref x)] Z h0 (Q_own_coder Z x z h0 n0) := by
  refine oO (plainFor_of_name own_pn3) hisR fun p e s m below meth c s₁ S0' Bd hS hx dB hml hown hnm hZ X0 e0 => ?_
  have N0 := Fr.nil n0
  have KK0 := Keep.refl h0 ([] : List Addr)
  have cc0 : oQ X0 S0' 0 #[sR x] [] := oE hS rfl
  have W := @own_w Z a0 hw
  have q := @dX _ _ c D_50 @dB
  obtain ⟨T21, X21, e21, st21⟩ := oGS X0 cc0 hx hZ hown (host := "") (Or.inl (W 32 rfl)) Via.refl e0 (O2.ext X00.2) (q 0 rfl)
  have cc22 : oQ X21 S0' 7 #[sR x] [.ref x] := Steps.trans st21 (by
    refine XS.ifNo X21.here hx rfl (q 1 rfl) rfl (i0_eq_f P5) ?_
    refine XS.aloadN X21.here hx rfl (q 2 rfl) rfl rfl ?_
    exact Steps.refl _)
  obtain ⟨T23, X23, e23, st23⟩ := oGF X21 cc22 hx hZ hown (W 25 rfl) Via.refl e21 C (q 3 rfl)
  have cc24 : oQ X23 S0' 14 #[sR x] [.int (0 : Int32)] := Steps.trans st23 (by
    refine XS.goto X23.here hx rfl (pc0 := 10) rfl (q 4 rfl) (by decide) rfl ?_
    exact Steps.refl _)
  exact oRI X23 Bd cc24 (q 5 rfl) rfl (rfl) (by simp) e23 ⟨rfl, N0, rfl⟩
theorem own_shr0 (x : Int32) : x >>> ((0 : Int32) &&& 31) = x := by
  have e : ((0 : Int32) &&& 31) = 0 := by decide
  rw [e]
  apply Int32.toBitVec_inj.mp
  rw [Int32.toBitVec_shiftRight]
  have e1 : ((0 : Int32).toBitVec.smod 32) = 0#32 := by decide
  rw [e1, BitVec.sshiftRight_eq']
  exact BitVec.sshiftRight_zero
def Q_own_len (Z : State) (x : Addr) (cs : List Int32) (z : Int32) (h0 : Heap) (n0 : Nat) (v : Option Value) (h : Heap) (L : List Loc) : Prop := v = some (.int (Int32.ofNat cs.length)) ∧ Fr n0 L ∧ h = h0
theorem own_len (l : Launch) (Z : State) (a0 : Array Value) (hw : oH a0 Z) (x : Addr) (cs : List Int32) (z : Int32) (h0 : Heap) (n0 : Nat) (Z0 : n0 ≤ h0.size) (X00 : Old Z n0 h0) (O2 : Sta Z Z.heap "java/lang/String" "COMPACT_STRINGS" "Z" (.int z)) (P5 : ¬ z = 0) (Hx : own_Lat Z h0 x cs) :
    oC l yM55 (.code yM55 jdk_42_method_54_code 1 (some .int)) rM35 #[(.ref x)] Z h0 (Q_own_len Z x cs z h0 n0) := by
  refine oO (plainFor_of_name own_pn3) hisR fun p e s m below meth c s₁ S0' Bd hS hx dB hml hown hnm hZ X0 e0 => ?_
  have N0 := Fr.nil n0
  have KK0 := Keep.refl h0 ([] : List Addr)
  have cc0 : oQ X0 S0' 0 #[sR x] [] := oE hS rfl
  have W := @own_w Z a0 hw
  have q := @dX _ _ c D_51 @dB
  obtain ⟨Ex, Cx, px, lx, tx, kx, Vx, Ax⟩ := Hx
  have cc21 : oQ X0 S0' 1 #[sR x] [.ref x] := Steps.trans cc0 (by
    refine XS.aloadN X0.here hx rfl (q 0 rfl) rfl rfl ?_
    exact Steps.refl _)
  obtain ⟨T22, X22, e22, st22⟩ := oGF X0 cc21 hx hZ hown (W 24 rfl) Via.refl e0 Vx (q 1 rfl)
  have cc23 : oQ X22 S0' 4 #[sR x] [.ref tx] := st22
  obtain ⟨clu24, Aru24, -, Su24, Ngu24, -, -⟩ := id Ax
  have cl_u24 := X22.arraylength hx (by rw [e22]; exact Aru24.1) (State.isArrayOf_alike (hZ).alike Aru24.2.1) (g := (mkF m 4 #[sR x] [.ref tx])) rfl rfl (q 2 rfl) _ (Steps.refl _)
  rw [len_of Su24 Ngu24] at cl_u24
  have cc25 : oQ X22 S0' 6 #[sR x] [.ref x, .int (Int32.ofNat cs.length)] := Steps.trans (Steps.trans cc23 cl_u24) (by
    refine XS.aloadN X22.here hx rfl (q 3 rfl) rfl rfl ?_
    exact Steps.refl _)
  obtain ⟨_, T26, L26, X26, ⟨rfl, Nq26, eq26⟩, st26⟩ := oCV (y := yM54) (z := yM54) X22 cc25 hx hZ hown hml (q 4 rfl) e22 Ex (W 300 rfl) (W 301 rfl) (notFace_of_selects (args := #[]) (mvT hZ (W 303 rfl))) (W 303 rfl) (W 302 rfl) (by decide) [] [.int (Int32.ofNat cs.length)] (lenOf own_pd23 rfl) (bO (own_coder l Z a0 hw x z h0 n0 Z0 X00 O2 P5 Cx) hZ (W 304 rfl) (W 6 rfl))
  have N26 := Fr.app N0 Nq26
  have cc27 : oQ X26 S0' 10 #[sR x] [.int ((Int32.ofNat cs.length) >>> ((0 : Int32) &&& 31))] := Steps.trans st26 (by
    refine XT.ishr X26.here hx rfl (q 5 rfl) rfl ?_
    exact Steps.refl _)
  have cz28 : oQ X26 S0' 10 #[sR x] [.int (Int32.ofNat cs.length)] := by
    have := cc27
    rw [own_shr0] at this
    exact this
  exact oRI X26 Bd cz28 (q 6 rfl) rfl (rfl) (by simp) eq26 ⟨rfl, N26, rfl⟩
def Q_own_cfa (Z : State) (t : Addr) (kt : ClassId) (vs : List Value) (h0 : Heap) (n0 : Nat) (v : Option Value) (h : Heap) (L : List Loc) : Prop := v = some (.int 0) ∧ Fr n0 L ∧ h = h0
theorem own_cfa (l : Launch) (Z : State) (a0 : Array Value) (hw : oH a0 Z) (t : Addr) (kt : ClassId) (vs : List Value) (h0 : Heap) (n0 : Nat) (Z0 : n0 ≤ h0.size) (A : Arv Z h0 t kt .byte (2 : Int32) vs (.int (0 : Int32))) :
    oC l yM56 (.code yM56 jdk_52_method_15_code 2 (some .byte)) rM1 #[(.ref t), (.int 2)] Z h0 (Q_own_cfa Z t kt vs h0 n0) := by
  refine oO (plainFor_of_name own_pn20) hisR fun p e s m below meth c s₁ S0' Bd hS hx dB hml hown hnm hZ X0 e0 => ?_
  have N0 := Fr.nil n0
  have KK0 := Keep.refl h0 ([] : List Addr)
  have cc0 : oQ X0 S0' 0 #[sR t, sI 2] [] := oE hS rfl
  have W := @own_w Z a0 hw
  have q := @dX _ _ c D_52 @dB
  have cc21 : oQ X0 S0' 2 #[sR t, sI 2] [.ref t, .int 2] := Steps.trans cc0 (by
    refine XS.iloadN X0.here hx rfl (q 0 rfl) rfl ?_
    refine XS.aloadN X0.here hx rfl (q 1 rfl) rfl rfl ?_
    exact Steps.refl _)
  obtain ⟨clu22, Aru22, -, Su22, Ngu22, -, -⟩ := id A
  have cl_u22 := X0.arraylength hx (by rw [e0]; exact Aru22.1) (State.isArrayOf_alike (hZ).alike Aru22.2.1) (g := (mkF m 2 #[sR t, sI 2] [.ref t, .int 2])) rfl rfl (q 2 rfl) _ (Steps.refl _)
  rw [len_of Su22 Ngu22] at cl_u22
  have cc23 : oQ X0 S0' 8 #[sR t, sI 2] [.int ((XT.ushr ((2 : Int32) - (2 : Int32)) (31 : Int32)).toInt8.toInt32)] := Steps.trans (Steps.trans cc21 cl_u22) (by
    refine XS.isub X0.here hx rfl (q 3 rfl) rfl ?_
    refine bipushV X0.here hx rfl 31 (q 4 rfl) (by decide) ?_
    refine XT.iushr X0.here hx rfl (q 5 rfl) rfl ?_
    refine XT.i2b X0.here hx rfl (q 6 rfl) rfl ?_
    exact Steps.refl _)
  have cz24 : oQ X0 S0' 8 #[sR t, sI 2] [.int 0] := cc23
  exact oRI X0 Bd cz24 (q 7 rfl) rfl (rfl) (by simp) e0 ⟨rfl, N0, rfl⟩
def Q_own_cm5 (Z : State) (b : Addr) (kc : ClassId) (ca cb : Int32) (t : Addr) (kt : ClassId) (h0 : Heap) (n0 : Nat) (v : Option Value) (h : Heap) (L : List Loc) : Prop := v = some (.int 2) ∧ Fr n0 L ∧ Keep h0 h [t] ∧ Arv Z h t kt .byte (2 : Int32) (own_by [ca, cb]) (.int (0 : Int32))
theorem own_cm5 (l : Launch) (Z : State) (a0 : Array Value) (hw : oH a0 Z) (b : Addr) (kc : ClassId) (ca cb : Int32) (t : Addr) (kt : ClassId) (h0 : Heap) (n0 : Nat) (Z0 : n0 ≤ h0.size) (A : Arv Z h0 b kc .char (2 : Int32) [(.int ca), (.int cb)] (.int (0 : Int32))) (ga : ¬ ca < 0 ∧ ¬ (255 : Int32) < ca) (gb : ¬ cb < 0 ∧ ¬ (255 : Int32) < cb) (At : Arv Z h0 t kt .byte (2 : Int32) [(.int (0 : Int32)), (.int (0 : Int32))] (.int (0 : Int32))) (gt : n0 ≤ t) (ne_b_t : b ≠ t) :
    oC l yM57 (.code yM57 jdk_52_method_21_code 7 (some .int)) rM1 #[(.ref b), (.int 0), (.ref t), (.int 0), (.int 2)] Z h0 (Q_own_cm5 Z b kc ca cb t kt h0 n0) := by
  refine oO (plainFor_of_name own_pn20) hisR fun p e s m below meth c s₁ S0' Bd hS hx dB hml hown hnm hZ X0 e0 => ?_
  have N0 := Fr.nil n0
  have KK0 := Keep.refl h0 [t]
  have cc0 : oQ X0 S0' 0 #[sR b, sI 0, sR t, sI 0, sI 2, uN, uN] [] := oE hS rfl
  have W := @own_w Z a0 hw
  have q := @dX _ _ c D_53 @dB
  have cc21 : oQ X0 S0' 12 #[sR b, sI 0, sR t, sI 0, sI 2, sI 0, uN] [.int 0, .ref b] := Steps.trans cc0 (by
    refine iconstV X0.here hx rfl 0 (q 0 rfl) (by decide) ?_
    refine XS.istore X0.here hx rfl (q 1 rfl) rfl rfl ?_
    refine XS.iload X0.here hx rfl (q 2 rfl) rfl ?_
    refine XS.iload X0.here hx rfl (q 3 rfl) rfl ?_
    refine XS.icmpNo X0.here hx rfl (q 4 rfl) rfl (ii_ge_f (by decide)) ?_
    refine XS.aloadN X0.here hx rfl (q 5 rfl) rfl rfl ?_
    refine XS.iloadN X0.here hx rfl (q 6 rfl) rfl ?_
    exact Steps.refl _)
  obtain ⟨clu22, Aru22, qu22, Su22, Ngu22, Hsu22, Gsu22⟩ := id A
  have inu22 : ¬ ((0 : Int32) < 0 ∨ clu22.slots.size ≤ ((0 : Int32)).toNatClampNeg) := inb_of Su22 ⟨by decide, by decide⟩
  have atu22 : clu22.slots[((0 : Int32)).toNatClampNeg]? = some (.int ca) := Hsu22.at inu22 rfl
  have cc23 : oQ X0 S0' 31 #[sR b, sI 0, sR t, sI 0, sI 2, sI 0, sI ca] [.int ca.toInt8.toInt32, .int 0, .ref t] := Steps.trans cc21 (by
    refine X0.caload hx (j := (0 : Int32)) (v := (.int ca)) (by rw [e0]; exact Aru22.1) (State.isArrayOf_alike (hZ).alike Aru22.2.1) Aru22.2.2 inu22 atu22 (g := (mkF m 12 #[sR b, sI 0, sR t, sI 0, sI 2, sI 0, uN] [.int 0, .ref b])) rfl rfl (q 7 rfl) _ ?_
    refine XS.istore X0.here hx rfl (q 8 rfl) rfl rfl ?_
    refine XS.iload X0.here hx rfl (q 9 rfl) rfl ?_
    refine sipushV X0.here hx rfl 255 (q 10 rfl) (by decide) ?_
    refine XS.icmpYes X0.here hx rfl (pc0 := 20) rfl (q 11 rfl) rfl (ii_le_t ga.2) (by decide) rfl ?_
    refine XS.aloadN X0.here hx rfl (q 12 rfl) rfl rfl ?_
    refine XS.iloadN X0.here hx rfl (q 13 rfl) rfl ?_
    refine XS.iload X0.here hx rfl (q 14 rfl) rfl ?_
    refine XT.i2b X0.here hx rfl (q 15 rfl) rfl ?_
    exact Steps.refl _)
  obtain ⟨clu24, Aru24, qu24, Su24, Ngu24, Hsu24, Gsu24⟩ := id At
  have inu24 : ¬ ((0 : Int32) < 0 ∨ clu24.slots.size ≤ (0 : Int32).toNatClampNeg) := inb_of Su24 ⟨by decide, by decide⟩
  obtain ⟨T25, h25, X25, e25, W25, st25⟩ := stB X0 hx hZ e0 Aru24 (j := (0 : Int32)) inu24 (g := (mkF m 31 #[sR b, sI 0, sR t, sI 0, sI 2, sI 0, sI ca] [.int ca.toInt8.toInt32, .int 0, .ref t])) rfl rfl (q 16 rfl)
  have K25 := Keep.of_wr W25
  have N25 := Fr.snoc X25 N0 gt
  have KK1 := KK0.trans K25 (allS (Or.inl (lM 0 rfl)) all0)
  have Zs1 := Nat.le_trans Z0 K25.1
  have V25 : Arv Z h25 t kt .byte (2 : Int32) ([(.int (nar .byte ca.toInt8.toInt32)), (.int (0 : Int32))]) (.int (0 : Int32)) := Arv.set Aru24 qu24 Su24 Ngu24 Hsu24 Gsu24 (fits_nar_byte _) W25 0 rfl (Nat.le_of_ble_eq_true rfl)
  have cc26 : oQ X25 S0' 3 #[sR b, sI (0 + 1), sR t, sI (0 + 1), sI 2, sI (0 + 1), sI ca] [] := Steps.trans (cc23.trans (st25 _ (Steps.refl _))) (by
    refine iincV X25.here hx rfl 1 (q 17 rfl) (by decide) rfl rfl ?_
    refine iincV X25.here hx rfl 1 (q 18 rfl) (by decide) rfl rfl ?_
    refine iincV X25.here hx rfl 1 (q 19 rfl) (by decide) rfl rfl ?_
    refine XS.goto X25.here hx rfl (pc0 := 41) rfl (q 20 rfl) (by decide) rfl ?_
    exact Steps.refl _)
  have cz27 : oQ X25 S0' 3 #[sR b, sI 1, sR t, sI 1, sI 2, sI 1, sI ca] [] := cc26
  have cc29 : oQ X25 S0' 12 #[sR b, sI 1, sR t, sI 1, sI 2, sI 1, sI ca] [.int 1, .ref b] := Steps.trans cz27 (by
    refine XS.iload X25.here hx rfl (q 2 rfl) rfl ?_
    refine XS.iload X25.here hx rfl (q 3 rfl) rfl ?_
    refine XS.icmpNo X25.here hx rfl (q 4 rfl) rfl (ii_ge_f (by decide)) ?_
    refine XS.aloadN X25.here hx rfl (q 5 rfl) rfl rfl ?_
    refine XS.iloadN X25.here hx rfl (q 6 rfl) rfl ?_
    exact Steps.refl _)
  have fa28 := A.keep K25 (ninS ne_b_t nin0)
  obtain ⟨clu30, Aru30, qu30, Su30, Ngu30, Hsu30, Gsu30⟩ := id fa28
  have inu30 : ¬ ((1 : Int32) < 0 ∨ clu30.slots.size ≤ ((1 : Int32)).toNatClampNeg) := inb_of Su30 ⟨by decide, by decide⟩
  have atu30 : clu30.slots[((1 : Int32)).toNatClampNeg]? = some (.int cb) := Hsu30.at inu30 rfl
  have cc31 : oQ X25 S0' 31 #[sR b, sI 1, sR t, sI 1, sI 2, sI 1, sI cb] [.int cb.toInt8.toInt32, .int 1, .ref t] := Steps.trans cc29 (by
    refine X25.caload hx (j := (1 : Int32)) (v := (.int cb)) (by rw [e25]; exact Aru30.1) (State.isArrayOf_alike (hZ).alike Aru30.2.1) Aru30.2.2 inu30 atu30 (g := (mkF m 12 #[sR b, sI 1, sR t, sI 1, sI 2, sI 1, sI ca] [.int 1, .ref b])) rfl rfl (q 7 rfl) _ ?_
    refine XS.istore X25.here hx rfl (q 8 rfl) rfl rfl ?_
    refine XS.iload X25.here hx rfl (q 9 rfl) rfl ?_
    refine sipushV X25.here hx rfl 255 (q 10 rfl) (by decide) ?_
    refine XS.icmpYes X25.here hx rfl (pc0 := 20) rfl (q 11 rfl) rfl (ii_le_t gb.2) (by decide) rfl ?_
    refine XS.aloadN X25.here hx rfl (q 12 rfl) rfl rfl ?_
    refine XS.iloadN X25.here hx rfl (q 13 rfl) rfl ?_
    refine XS.iload X25.here hx rfl (q 14 rfl) rfl ?_
    refine XT.i2b X25.here hx rfl (q 15 rfl) rfl ?_
    exact Steps.refl _)
  obtain ⟨clu32, Aru32, qu32, Su32, Ngu32, Hsu32, Gsu32⟩ := id V25
  have inu32 : ¬ ((1 : Int32) < 0 ∨ clu32.slots.size ≤ (1 : Int32).toNatClampNeg) := inb_of Su32 ⟨by decide, by decide⟩
  obtain ⟨T33, h33, X33, e33, W33, st33⟩ := stB X25 hx hZ e25 Aru32 (j := (1 : Int32)) inu32 (g := (mkF m 31 #[sR b, sI 1, sR t, sI 1, sI 2, sI 1, sI cb] [.int cb.toInt8.toInt32, .int 1, .ref t])) rfl rfl (q 16 rfl)
  have K33 := Keep.of_wr W33
  have N33 := Fr.snoc X33 N25 gt
  have KK2 := KK1.trans K33 (allS (Or.inl (lM 0 rfl)) all0)
  have Zs2 := Nat.le_trans Zs1 K33.1
  have V33 : Arv Z h33 t kt .byte (2 : Int32) ([(.int (nar .byte ca.toInt8.toInt32)), (.int (nar .byte cb.toInt8.toInt32))]) (.int (0 : Int32)) := Arv.set Aru32 qu32 Su32 Ngu32 Hsu32 Gsu32 (fits_nar_byte _) W33 1 rfl (Nat.le_of_ble_eq_true rfl)
  have cc34 : oQ X33 S0' 3 #[sR b, sI (1 + 1), sR t, sI (1 + 1), sI 2, sI (1 + 1), sI cb] [] := Steps.trans (cc31.trans (st33 _ (Steps.refl _))) (by
    refine iincV X33.here hx rfl 1 (q 17 rfl) (by decide) rfl rfl ?_
    refine iincV X33.here hx rfl 1 (q 18 rfl) (by decide) rfl rfl ?_
    refine iincV X33.here hx rfl 1 (q 19 rfl) (by decide) rfl rfl ?_
    refine XS.goto X33.here hx rfl (pc0 := 41) rfl (q 20 rfl) (by decide) rfl ?_
    exact Steps.refl _)
  have cz35 : oQ X33 S0' 3 #[sR b, sI 2, sR t, sI 2, sI 2, sI 2, sI cb] [] := cc34
  have cc36 : oQ X33 S0' 46 #[sR b, sI 2, sR t, sI 2, sI 2, sI 2, sI cb] [.int 2] := Steps.trans cz35 (by
    refine XS.iload X33.here hx rfl (q 2 rfl) rfl ?_
    refine XS.iload X33.here hx rfl (q 3 rfl) rfl ?_
    refine XS.icmpYes X33.here hx rfl (pc0 := 7) rfl (q 4 rfl) rfl (ii_ge_t (by decide)) (by decide) rfl ?_
    refine XS.iload X33.here hx rfl (q 21 rfl) rfl ?_
    exact Steps.refl _)
  exact oRI X33 Bd cc36 (q 22 rfl) rfl (rfl) (by simp) e33 ⟨rfl, N33, KK2, own_arv_eq V33 (by simp [nar, own_by])⟩
def Q_own_cm3 (Z : State) (b : Addr) (kc : ClassId) (ca cb : Int32) (h0 : Heap) (n0 : Nat) (v : Option Value) (h : Heap) (L : List Loc) : Prop := ∃ (t : Addr) (kt : ClassId), v = some (.ref t) ∧ Fr n0 L ∧ Keep h0 h [] ∧ h0.size ≤ t ∧ Arv Z h t kt .byte (2 : Int32) (own_by [ca, cb]) (.int (0 : Int32))
theorem own_cm3 (l : Launch) (Z : State) (a0 : Array Value) (hw : oH a0 Z) (b : Addr) (kc : ClassId) (ca cb : Int32) (h0 : Heap) (n0 : Nat) (Z0 : n0 ≤ h0.size) (A : Arv Z h0 b kc .char (2 : Int32) [(.int ca), (.int cb)] (.int (0 : Int32))) (ga : ¬ ca < 0 ∧ ¬ (255 : Int32) < ca) (gb : ¬ cb < 0 ∧ ¬ (255 : Int32) < cb) :
    oC l yM58 (.code yM58 jdk_52_method_16_code 6 (some (.array .byte))) rM36 #[(.ref b), (.int 0), (.int 2)] Z h0 (Q_own_cm3 Z b kc ca cb h0 n0) := by
  refine oO (plainFor_of_name own_pn20) hisR fun p e s m below meth c s₁ S0' Bd hS hx dB hml hown hnm hZ X0 e0 => ?_
  have N0 := Fr.nil n0
  have KK0 := Keep.refl h0 ([] : List Addr)
  have cc0 : oQ X0 S0' 0 #[sR b, sI 0, sI 2, uN, uN, uN] [] := oE hS rfl
  have W := @own_w Z a0 hw
  have q := @dX _ _ c D_54 @dB
  have cc21 : oQ X0 S0' 1 #[sR b, sI 0, sI 2, uN, uN, uN] [.int 2] := Steps.trans cc0 (by
    refine XS.iloadN X0.here hx rfl (q 0 rfl) rfl ?_
    exact Steps.refl _)
  obtain ⟨T22, h22, k22, X22, e22, E22, A22, st22⟩ := newP X0 hx hZ (aty := .byte) (W 19 rfl) e0 (g := (mkF m 1 #[sR b, sI 0, sI 2, uN, uN, uN] [.int 2])) rfl (q 1 rfl) rfl (by decide) (cap := 2) (by decide) (by decide) (by decide) (by decide)
  obtain ⟨t, g_t⟩ : ∃ z, z = h0.size := ⟨_, rfl⟩
  rw [← g_t] at A22 st22
  have K22 := (Keep.refl h0 ([] : List Addr)).ext E22
  have b_t : h0.size ≤ t := (Nat.le_of_eq g_t.symm)
  have gn_t := Nat.le_trans Z0 b_t
  have s0_t := Nat.le_trans KK0.1 b_t
  have ne_b_t := oN A.lt b_t
  have KK1 := KK0.trans K22 all0
  have Zs1 := Nat.le_trans Z0 K22.1
  have V_t : Arv Z h22 t k22 .byte (2 : Int32) [(.int (0 : Int32)), (.int (0 : Int32))] (.int (0 : Int32)) := (Arv.new A22 (by decide)).pad (pad_rep [] (.int (0 : Int32)) 2)
  have cc24 : oQ X22 S0' 9 #[sR b, sI 0, sI 2, sR t, uN, uN] [.int 2, .int 0, .ref t, .int 0, .ref b] := Steps.trans (cc21.trans (st22 _ (Steps.refl _))) (by
    refine XS.astoreN X22.here hx rfl (q 2 rfl) rfl rfl rfl ?_
    refine XS.aloadN X22.here hx rfl (q 3 rfl) rfl rfl ?_
    refine XS.iloadN X22.here hx rfl (q 4 rfl) rfl ?_
    refine XS.aloadN X22.here hx rfl (q 5 rfl) rfl rfl ?_
    refine iconstV X22.here hx rfl 0 (q 6 rfl) (by decide) ?_
    refine XS.iloadN X22.here hx rfl (q 7 rfl) rfl ?_
    exact Steps.refl _)
  have fa23 := A.keep K22 nin0
  obtain ⟨_, T25, L25, X25, ⟨rfl, Nq25, Kq25, Aq25⟩, st25⟩ := oCT (y := yM57) X22 cc24 hx hZ hown hml (q 8 rfl) e22 (W 447 rfl) (W 448 rfl) (W 445 rfl) (W 449 rfl) (by decide) [.ref b, .int 0, .ref t, .int 0, .int 2] [] (lenOf own_pd24 rfl) (bO (own_cm5 l Z a0 hw b kc ca cb t k22 h22 n0 Zs1 fa23 ga gb V_t gn_t ne_b_t) hZ (W 449 rfl) (W 445 rfl))
  have N25 := Fr.app N0 Nq25
  have KK2 := KK1.trans Kq25 (allS (Or.inr s0_t) all0)
  have Zs2 := Nat.le_trans Zs1 Kq25.1
  have e25 : T25.heap = T25.heap := rfl
  have cc26 : oQ X25 S0' 58 #[sR b, sI 0, sI 2, sR t, sI 2, uN] [.ref t] := Steps.trans st25 (by
    refine XS.istore X25.here hx rfl (q 9 rfl) rfl rfl ?_
    refine XS.iload X25.here hx rfl (q 10 rfl) rfl ?_
    refine XS.iloadN X25.here hx rfl (q 11 rfl) rfl ?_
    refine XS.icmpYes X25.here hx rfl (pc0 := 17) rfl (q 12 rfl) rfl (ii_eq_t rfl) (by decide) rfl ?_
    refine XS.aloadN X25.here hx rfl (q 13 rfl) rfl rfl ?_
    exact Steps.refl _)
  exact oRA X25 Bd cc26 (q 14 rfl) rfl (rfl) rfl e25 ⟨t, _, rfl, N25, KK2, s0_t, Aq25⟩
def Q_own_new4b (Z : State) (x b : Addr) (kc : ClassId) (ca cb z : Int32) (h0 : Heap) (n0 : Nat) (v : Option Value) (h : Heap) (L : List Loc) : Prop := v = none ∧ Fr n0 L ∧ Keep h0 h [x] ∧ own_Lat Z h x [ca, cb]
theorem own_new4b (l : Launch) (Z : State) (a0 : Array Value) (hw : oH a0 Z) (x b : Addr) (kc : ClassId) (ca cb z : Int32) (h0 : Heap) (n0 : Nat) (Z0 : n0 ≤ h0.size) (X00 : Old Z n0 h0) (O2 : Sta Z Z.heap "java/lang/String" "COMPACT_STRINGS" "Z" (.int z)) (P5 : ¬ z = 0) (E : zE4 Z h0 x) (V : zF13 Z h0 x .null) (C : zF11 Z h0 x (.int (0 : Int32))) (gx : n0 ≤ x) (A : Arv Z h0 b kc .char (2 : Int32) [(.int ca), (.int cb)] (.int (0 : Int32))) (ga : ¬ ca < 0 ∧ ¬ (255 : Int32) < ca) (gb : ¬ cb < 0 ∧ ¬ (255 : Int32) < cb) :
    oC l yM6 (.code yM6 jdk_42_method_149_code 6 none) rM37 #[(.ref x), (.ref b), (.int 0), (.int 2), .null] Z h0 (Q_own_new4b Z x b kc ca cb z h0 n0) := by
  refine oO (plainFor_of_name own_pn3) hisR fun p e s m below meth c s₁ S0' Bd hS hx dB hml hown hnm hZ X0 e0 => ?_
  have N0 := Fr.nil n0
  have KK0 := Keep.refl h0 [x]
  have cc0 : oQ X0 S0' 0 #[sR x, sR b, sI 0, sI 2, .val .null, uN] [] := oE hS rfl
  have W := @own_w Z a0 hw
  have q := @dX _ _ c D_6 @dB
  have w_445 := W 445 rfl
  have cc21 : oQ X0 S0' 1 #[sR x, sR b, sI 0, sI 2, .val .null, uN] [.ref x] := Steps.trans cc0 (by
    refine XS.aloadN X0.here hx rfl (q 0 rfl) rfl rfl ?_
    exact Steps.refl _)
  obtain ⟨T22, X22, e22, st22⟩ := initO X0 hx hZ hown (W 15 rfl) (W 16 rfl) (W 17 rfl) e0 (g := (mkF m 1 #[sR x, sR b, sI 0, sI 2, .val .null, uN] [.ref x])) rfl (by rw [hml]; rfl) rfl (q 1 rfl) (by decide) (W := 0) (by show 2 * 0 + _ ≤ _; exact Nat.le_of_eq rfl) (by decide)
  have cc23 : oQ X22 S0' 27 #[sR x, sR b, sI 0, sI 2, .val .null, uN] [] := Steps.trans (cc21.trans (st22 _ (Steps.refl _))) (by
    refine XS.iloadN X22.here hx rfl (q 2 rfl) rfl ?_
    refine XS.ifYes X22.here hx rfl (pc0 := 5) rfl (q 3 rfl) rfl (i0_ne_t (by decide)) (by decide) rfl ?_
    exact Steps.refl _)
  obtain ⟨T24, X24, e24, st24⟩ := oGS X22 cc23 hx hZ hown (host := "") (Or.inl (W 32 rfl)) Via.refl e22 (O2.ext X00.2) (q 13 rfl)
  have cc25 : oQ X24 S0' 36 #[sR x, sR b, sI 0, sI 2, .val .null, uN] [.int 2, .int 0, .ref b] := Steps.trans st24 (by
    refine XS.ifNo X24.here hx rfl (q 14 rfl) rfl (i0_eq_f P5) ?_
    refine XS.aloadN X24.here hx rfl (q 15 rfl) rfl rfl ?_
    refine XS.iloadN X24.here hx rfl (q 16 rfl) rfl ?_
    refine XS.iloadN X24.here hx rfl (q 17 rfl) rfl ?_
    exact Steps.refl _)
  obtain ⟨_, T26, L26, X26, ⟨t, kt, rfl, Nq26, Kq26, sq26, Aq26⟩, st26⟩ := oCT (y := yM58) X24 cc25 hx hZ hown hml (q 18 rfl) e24 (W 443 rfl) (W 444 rfl) w_445 (W 446 rfl) (by decide) [.ref b, .int 0, .int 2] [] (lenOf own_pd25 rfl) (bO (own_cm3 l Z a0 hw b kc ca cb h0 n0 Z0 A ga gb) hZ (W 446 rfl) w_445)
  have N26 := Fr.app N0 Nq26
  have b_t : h0.size ≤ t := sq26
  have gn_t := Nat.le_trans Z0 b_t
  have s0_t := Nat.le_trans KK0.1 b_t
  have ne_x_t := oN E.lt b_t
  have ne_b_t := oN A.lt b_t
  have KK1 := KK0.trans Kq26 all0
  have Zs1 := Nat.le_trans Z0 Kq26.1
  have e26 : T26.heap = T26.heap := rfl
  have cc27 : oQ X26 S0' 45 #[sR x, sR b, sI 0, sI 2, .val .null, sR t] [.int 2, .ref t, .ref x] := Steps.trans st26 (by
    refine XS.astore X26.here hx rfl (q 19 rfl) rfl rfl rfl ?_
    refine XS.aloadN X26.here hx rfl (q 20 rfl) rfl rfl ?_
    refine XS.aload X26.here hx rfl (q 21 rfl) rfl rfl ?_
    refine XS.iloadN X26.here hx rfl (q 22 rfl) rfl ?_
    exact Steps.refl _)
  obtain ⟨_, T28, L28, X28, ⟨rfl, Nq28, eq28⟩, st28⟩ := oCT (y := yM56) X26 cc27 hx hZ hown hml (q 23 rfl) e26 (W 450 rfl) (W 451 rfl) w_445 (W 452 rfl) (by decide) [.ref t, .int 2] [.ref x] (lenOf own_pd26 rfl) (bO (own_cfa l Z a0 hw t kt _ T26.heap n0 Zs1 Aq26) hZ (W 452 rfl) w_445)
  have N28 := Fr.app N26 Nq28
  have cc30 : oQ X28 S0' 48 #[sR x, sR b, sI 0, sI 2, .val .null, sR t] [.int 0, .ref x] := st28
  have fa29 := C.keep Kq26 nin0
  have fa31 := E.keep Kq26
  obtain ⟨T32, h32, X32, e32, W32, st32⟩ := oPF X28 cc30 hx hZ hown (W 25 rfl) Via.refl eq28 fa29 fa31 (Or.inr ⟨(W 21 rfl), rfl, hnm⟩) (W 5 rfl) (ty := .byte) (v := (.int 0)) (v' := (.int (0 : Int32))) (by decide) rfl rfl (q 24 rfl)
  have K32 := Keep.of_wr W32
  have N32 := Fr.snoc X32 N28 gx
  have KK2 := KK1.trans K32 (allS (Or.inl (lM 0 rfl)) all0)
  have Zs2 := Nat.le_trans Zs1 K32.1
  have cc34 : oQ X32 S0' 54 #[sR x, sR b, sI 0, sI 2, .val .null, sR t] [.ref t, .ref x] := Steps.trans st32 (by
    refine XS.aloadN X32.here hx rfl (q 25 rfl) rfl rfl ?_
    refine XS.aload X32.here hx rfl (q 26 rfl) rfl rfl ?_
    exact Steps.refl _)
  have fa33 := (V.keep Kq26 nin0).other W32 (Or.inr (slot_ne (Or.inr (W 20 rfl)) (Or.inr (W 21 rfl)) (by decide) (t := (.array .byte)) (t' := .byte) (by decide) (by decide)))
  have fa35 := fa31.keep K32
  obtain ⟨T36, h36, X36, e36, W36, st36⟩ := oPF X32 cc34 hx hZ hown (W 24 rfl) Via.refl e32 fa33 fa35 (Or.inr ⟨(W 20 rfl), rfl, hnm⟩) (W 5 rfl) (ty := (.array .byte)) (by decide) rfl rfl (q 27 rfl)
  have K36 := Keep.of_wr W36
  have N36 := Fr.snoc X36 N32 gx
  have KK3 := KK2.trans K36 (allS (Or.inl (lM 0 rfl)) all0)
  have Zs3 := Nat.le_trans Zs2 K36.1
  have hp : ∀ w' ∈ ([ca, cb] : List Int32), ¬ w' < 0 ∧ ¬ (255 : Int32) < w' := by
    intro w' hw'
    simp only [List.mem_cons, List.not_mem_nil, or_false] at hw'
    rcases hw' with rfl | rfl
    · exact ga
    · exact gb
  have cc38 : oQ X36 S0' 57 #[sR x, sR b, sI 0, sI 2, .val .null, sR t] [] := st36
  have fa37 := fa35.keep K36
  have fa39 := (Fld.same W32 fa29).other W36 (Or.inr (slot_ne (Or.inr (W 21 rfl)) (Or.inr (W 20 rfl)) (by decide) (t := .byte) (t' := (.array .byte)) (by decide) (by decide)))
  have fa40 := (Aq26.keep K32 (ninS (Ne.symm ne_x_t) nin0)).keep K36 (ninS (Ne.symm ne_x_t) nin0)
  exact oRV X36 Bd cc38 (q 28 rfl) rfl e36 ⟨rfl, N36, KK3, fa37, fa39, hp, by simp, t, kt, (Fld.same W36 fa33), fa40⟩
def Q_own_new1b (Z : State) (x b : Addr) (kc : ClassId) (ca cb z : Int32) (h0 : Heap) (n0 : Nat) (v : Option Value) (h : Heap) (L : List Loc) : Prop := v = none ∧ Fr n0 L ∧ Keep h0 h [x] ∧ own_Lat Z h x [ca, cb]
theorem own_new1b (l : Launch) (Z : State) (a0 : Array Value) (hw : oH a0 Z) (x b : Addr) (kc : ClassId) (ca cb z : Int32) (h0 : Heap) (n0 : Nat) (Z0 : n0 ≤ h0.size) (X00 : Old Z n0 h0) (O2 : Sta Z Z.heap "java/lang/String" "COMPACT_STRINGS" "Z" (.int z)) (P5 : ¬ z = 0) (E : zE4 Z h0 x) (V : zF13 Z h0 x .null) (C : zF11 Z h0 x (.int (0 : Int32))) (gx : n0 ≤ x) (A : Arv Z h0 b kc .char (2 : Int32) [(.int ca), (.int cb)] (.int (0 : Int32))) (ga : ¬ ca < 0 ∧ ¬ (255 : Int32) < ca) (gb : ¬ cb < 0 ∧ ¬ (255 : Int32) < cb) :
    oC l yM7 (.code yM7 jdk_42_method_3_code 2 none) rM38 #[(.ref x), (.ref b)] Z h0 (Q_own_new1b Z x b kc ca cb z h0 n0) := by
  refine oO (plainFor_of_name own_pn3) hisR fun p e s m below meth c s₁ S0' Bd hS hx dB hml hown hnm hZ X0 e0 => ?_
  have N0 := Fr.nil n0
  have KK0 := Keep.refl h0 [x]
  have cc0 : oQ X0 S0' 0 #[sR x, sR b] [] := oE hS rfl
  have W := @own_w Z a0 hw
  have q := @dX _ _ c D_7 @dB
  have cc21 : oQ X0 S0' 4 #[sR x, sR b] [.ref b, .int 0, .ref b, .ref x] := Steps.trans cc0 (by
    refine XS.aloadN X0.here hx rfl (q 0 rfl) rfl rfl ?_
    refine XS.aloadN X0.here hx rfl (q 1 rfl) rfl rfl ?_
    refine iconstV X0.here hx rfl 0 (q 2 rfl) (by decide) ?_
    refine XS.aloadN X0.here hx rfl (q 3 rfl) rfl rfl ?_
    exact Steps.refl _)
  obtain ⟨clu22, Aru22, -, Su22, Ngu22, -, -⟩ := id A
  have cl_u22 := X0.arraylength hx (by rw [e0]; exact Aru22.1) (State.isArrayOf_alike (hZ).alike Aru22.2.1) (g := (mkF m 4 #[sR x, sR b] [.ref b, .int 0, .ref b, .ref x])) rfl rfl (q 4 rfl) _ (Steps.refl _)
  rw [len_of Su22 Ngu22] at cl_u22
  have cc23 : oQ X0 S0' 6 #[sR x, sR b] [.null, .int (2 : Int32), .int 0, .ref b, .ref x] := Steps.trans (Steps.trans cc21 cl_u22) (by
    refine XS.aconstNull X0.here hx rfl (q 5 rfl) ?_
    exact Steps.refl _)
  have cz24 : oQ X0 S0' 6 #[sR x, sR b] [.null, .int 2, .int 0, .ref b, .ref x] := cc23
  obtain ⟨_, T25, L25, X25, ⟨rfl, Nq25, Kq25, Hq25⟩, st25⟩ := oCN (y := yM6) X0 cz24 hx hZ hown hml (q 6 rfl) e0 x rfl (W 11 rfl) (W 12 rfl) (W 14 rfl) (by decide) [.ref b, .int 0, .int 2, .null] [] (lenOf own_pd0 rfl) (bO (own_new4b l Z a0 hw x b kc ca cb z h0 n0 Z0 X00 O2 P5 E V C gx A ga gb) hZ (W 14 rfl) (W 6 rfl))
  have N25 := Fr.app N0 Nq25
  have KK1 := KK0.trans Kq25 (allS (Or.inl (lM 0 rfl)) all0)
  have Zs1 := Nat.le_trans Z0 Kq25.1
  have e25 : T25.heap = T25.heap := rfl
  have cc26 : oQ X25 S0' 9 #[sR x, sR b] [] := st25
  exact oRV X25 Bd cc26 (q 7 rfl) rfl e25 ⟨rfl, N25, KK1, Hq25⟩
theorem own_ne_arv {Z : State} {h : Heap} {a t : Addr} {C : String} {k : ClassId} {ty : FieldType} {n : Int32} {vs : List Value} {dv : Value} {a0 : Array Value} {kk : Nat} (E : Exa Z h a C) (wi : (Jvm.Cond.instantiable C kk).before a0 Z = true) (A : Arv Z h t k ty n vs dv) : a ≠ t := by
  obtain ⟨c, A1, -⟩ := A
  exact ne_arr E wi A1
theorem own_take (bs : List Int32) : (List.range bs.length).map (fun i => (own_by bs).getD (0 + i) (.int (0 : Int32))) = own_by bs := by
  apply List.ext_getElem
  · simp
  · intro i h1 h2
    simp at h1
    simp [List.getD_eq_getElem?_getD, h1]
theorem own_by_app (bs cs : List Int32) : own_by (bs ++ cs) = own_by bs ++ own_by cs := by simp
theorem own_by_len (bs : List Int32) : (own_by bs).length = bs.length := by simp
def Q_own_asb0 (Z : State) (b : Addr) (z : Int32) (h0 : Heap) (n0 : Nat) (v : Option Value) (h : Heap) (L : List Loc) : Prop := ∃ (t : Addr) (kt : ClassId), v = none ∧ Fr n0 L ∧ Keep h0 h [b] ∧ h0.size ≤ t ∧ zF9 Z h b (.int (0 : Int32)) ∧ zF10 Z h b (.int (Int32.ofNat ([] : List Int32).length)) ∧ zF12 Z h b (.ref t) ∧ Arv Z h t kt .byte (16 : Int32) (own_by ([] : List Int32)) (.int (0 : Int32))
theorem own_asb0 (l : Launch) (Z : State) (a0 : Array Value) (hw : oH a0 Z) (b : Addr) (z : Int32) (h0 : Heap) (n0 : Nat) (Z0 : n0 ≤ h0.size) (X00 : Old Z n0 h0) (O2 : Sta Z Z.heap "java/lang/String" "COMPACT_STRINGS" "Z" (.int z)) (P5 : ¬ z = 0) (E : zE6 Z h0 b) (V : zF12 Z h0 b .null) (C : zF9 Z h0 b (.int (0 : Int32))) (N : zF10 Z h0 b (.int (0 : Int32))) (gb : n0 ≤ b) :
    oC l yM59 (.code yM59 jdk_68_method_2_code 2 none) rM39 #[(.ref b), (.int 16)] Z h0 (Q_own_asb0 Z b z h0 n0) := by
  refine oO (plainFor_of_name own_pn21) hisR fun p e s m below meth c s₁ S0' Bd hS hx dB hml hown hnm hZ X0 e0 => ?_
  have N0 := Fr.nil n0
  have KK0 := Keep.refl h0 [b]
  have cc0 : oQ X0 S0' 0 #[sR b, sI 16] [] := oE hS rfl
  have W := @own_w Z a0 hw
  have q := @dX _ _ c D_55 @dB
  have w_168 := W 168 rfl
  have w_170 := W 170 rfl
  have cc21 : oQ X0 S0' 1 #[sR b, sI 16] [.ref b] := Steps.trans cc0 (by
    refine XS.aloadN X0.here hx rfl (q 0 rfl) rfl rfl ?_
    exact Steps.refl _)
  obtain ⟨T22, X22, e22, st22⟩ := initO X0 hx hZ hown (W 165 rfl) (W 16 rfl) (W 17 rfl) e0 (g := (mkF m 1 #[sR b, sI 16] [.ref b])) rfl (by rw [hml]; rfl) rfl (q 1 rfl) (by decide) (W := 0) (by show 2 * 0 + _ ≤ _; exact Nat.le_of_eq rfl) (by decide)
  have cc23 : oQ X22 S0' 4 #[sR b, sI 16] [] := (cc21.trans (st22 _ (Steps.refl _)))
  obtain ⟨T24, X24, e24, st24⟩ := oGS X22 cc23 hx hZ hown (host := "") (Or.inl (W 166 rfl)) Via.refl e22 (O2.ext X00.2) (q 2 rfl)
  have cc25 : oQ X24 S0' 12 #[sR b, sI 16] [.int 16, .ref b] := Steps.trans st24 (by
    refine XS.ifNo X24.here hx rfl (q 3 rfl) rfl (i0_eq_f P5) ?_
    refine XS.aloadN X24.here hx rfl (q 4 rfl) rfl rfl ?_
    refine XS.iloadN X24.here hx rfl (q 5 rfl) rfl ?_
    exact Steps.refl _)
  obtain ⟨T26, h26, k26, X26, e26, E26, A26, st26⟩ := newP X24 hx hZ (aty := .byte) (W 19 rfl) e24 (g := (mkF m 12 #[sR b, sI 16] [.int 16, .ref b])) rfl (q 6 rfl) rfl (by decide) (cap := 16) (by decide) (by decide) (by decide) (by decide)
  obtain ⟨t, g_t⟩ : ∃ z, z = h0.size := ⟨_, rfl⟩
  rw [← g_t] at A26 st26
  have K26 := (Keep.refl h0 ([] : List Addr)).ext E26
  have b_t : h0.size ≤ t := (Nat.le_of_eq g_t.symm)
  have gn_t := Nat.le_trans Z0 b_t
  have s0_t := Nat.le_trans KK0.1 b_t
  have ne_b_t := oN E.lt b_t
  have KK1 := KK0.trans K26 all0
  have Zs1 := Nat.le_trans Z0 K26.1
  have cc28 : oQ X26 S0' 14 #[sR b, sI 16] [.ref t, .ref b] := (cc25.trans (st26 _ (Steps.refl _)))
  have fa27 := V.keep K26 nin0
  have fa29 := E.keep K26
  obtain ⟨T30, h30, X30, e30, W30, st30⟩ := oPF X26 cc28 hx hZ hown (W 167 rfl) Via.refl e26 fa27 fa29 (Or.inl w_168) (W 154 rfl) (ty := (.array .byte)) (by decide) rfl rfl (q 7 rfl)
  have K30 := Keep.of_wr W30
  have N30 := Fr.snoc X30 N0 gb
  have KK2 := KK1.trans K30 (allS (Or.inl (lM 0 rfl)) all0)
  have Zs2 := Nat.le_trans Zs1 K30.1
  have cc32 : oQ X30 S0' 19 #[sR b, sI 16] [.int 0, .ref b] := Steps.trans st30 (by
    refine XS.aloadN X30.here hx rfl (q 8 rfl) rfl rfl ?_
    refine iconstV X30.here hx rfl 0 (q 9 rfl) (by decide) ?_
    exact Steps.refl _)
  have fa31 := (C.keep K26 nin0).other W30 (Or.inr (slot_ne (Or.inl w_170) (Or.inl w_168) (by decide) (t := .byte) (t' := (.array .byte)) (by decide) (by decide)))
  have fa33 := fa29.keep K30
  obtain ⟨T34, h34, X34, e34, W34, st34⟩ := oPF X30 cc32 hx hZ hown (W 169 rfl) Via.refl e30 fa31 fa33 (Or.inl w_170) (W 154 rfl) (ty := .byte) (v := (.int 0)) (v' := (.int (0 : Int32))) (by decide) rfl rfl (q 10 rfl)
  have K34 := Keep.of_wr W34
  have N34 := Fr.snoc X34 N30 gb
  have KK3 := KK2.trans K34 (allS (Or.inl (lM 0 rfl)) all0)
  have Zs3 := Nat.le_trans Zs2 K34.1
  have cc36 : oQ X34 S0' 38 #[sR b, sI 16] [] := Steps.trans st34 (by
    refine XS.goto X34.here hx rfl (pc0 := 22) rfl (q 11 rfl) (by decide) rfl ?_
    exact Steps.refl _)
  have fa35 := ((N.keep K26 nin0).other W30 (Or.inr (slot_ne (Or.inl (W 242 rfl)) (Or.inl w_168) (by decide) (t := .int) (t' := (.array .byte)) (by decide) (by decide)))).other W34 (Or.inr (slot_ne (Or.inl (W 242 rfl)) (Or.inl w_170) (by decide) (t := .int) (t' := .byte) (by decide) (by decide)))
  have fa37 := (Fld.same W30 fa27).other W34 (Or.inr (slot_ne (Or.inl w_168) (Or.inl w_170) (by decide) (t := (.array .byte)) (t' := .byte) (by decide) (by decide)))
  have fa38 := ((Arv.new A26 (by decide)).keep K30 (ninS (Ne.symm ne_b_t) nin0)).keep K34 (ninS (Ne.symm ne_b_t) nin0)
  exact oRV X34 Bd cc36 (q 12 rfl) rfl e34 ⟨t, _, rfl, N34, KK3, s0_t, (Fld.same W34 fa31), fa35, fa37, fa38⟩
def Q_own_sb0 (Z : State) (b : Addr) (z : Int32) (h0 : Heap) (n0 : Nat) (v : Option Value) (h : Heap) (L : List Loc) : Prop := ∃ (t : Addr) (kt : ClassId), v = none ∧ Fr n0 L ∧ Keep h0 h [b] ∧ h0.size ≤ t ∧ zF9 Z h b (.int (0 : Int32)) ∧ zF10 Z h b (.int (Int32.ofNat ([] : List Int32).length)) ∧ zF12 Z h b (.ref t) ∧ Arv Z h t kt .byte (16 : Int32) (own_by ([] : List Int32)) (.int (0 : Int32))
theorem own_sb0 (l : Launch) (Z : State) (a0 : Array Value) (hw : oH a0 Z) (b : Addr) (z : Int32) (h0 : Heap) (n0 : Nat) (Z0 : n0 ≤ h0.size) (X00 : Old Z n0 h0) (O2 : Sta Z Z.heap "java/lang/String" "COMPACT_STRINGS" "Z" (.int z)) (P5 : ¬ z = 0) (E : zE6 Z h0 b) (V : zF12 Z h0 b .null) (C : zF9 Z h0 b (.int (0 : Int32))) (N : zF10 Z h0 b (.int (0 : Int32))) (gb : n0 ≤ b) :
    oC l yM60 (.code yM60 jdk_67_method_1_code 1 none) rM40 #[(.ref b)] Z h0 (Q_own_sb0 Z b z h0 n0) := by
  refine oO (plainFor_of_name own_pn22) hisR fun p e s m below meth c s₁ S0' Bd hS hx dB hml hown hnm hZ X0 e0 => ?_
  have N0 := Fr.nil n0
  have KK0 := Keep.refl h0 [b]
  have cc0 : oQ X0 S0' 0 #[sR b] [] := oE hS rfl
  have W := @own_w Z a0 hw
  have q := @dX _ _ c D_56 @dB
  have cc21 : oQ X0 S0' 3 #[sR b] [.int 16, .ref b] := Steps.trans cc0 (by
    refine XS.aloadN X0.here hx rfl (q 0 rfl) rfl rfl ?_
    refine bipushV X0.here hx rfl 16 (q 1 rfl) (by decide) ?_
    exact Steps.refl _)
  obtain ⟨_, T22, L22, X22, ⟨t, kt, rfl, Nq22, Kq22, s0q22, f122, f222, f322, f422⟩, st22⟩ := oCN (y := yM59) X0 cc21 hx hZ hown hml (q 2 rfl) e0 b rfl (W 159 rfl) (W 160 rfl) (W 164 rfl) (by decide) [.int 16] [] (lenOf own_pd27 rfl) (bO (own_asb0 l Z a0 hw b z h0 n0 Z0 X00 O2 P5 E V C N gb) hZ (W 164 rfl) (W 163 rfl))
  have N22 := Fr.app N0 Nq22
  have KK1 := KK0.trans Kq22 (allS (Or.inl (lM 0 rfl)) all0)
  have Zs1 := Nat.le_trans Z0 Kq22.1
  have e22 : T22.heap = T22.heap := rfl
  have cc23 : oQ X22 S0' 6 #[sR b] [] := st22
  exact oRV X22 Bd cc23 (q 3 rfl) rfl e22 ⟨t, kt, rfl, N22, KK1, s0q22, f122, f222, f322, f422⟩
theorem own_cap {n : Nat} (h : n ≤ 16) : ¬ (0 : Int32) < Int32.ofNat n - ((16 : Int32) >>> ((0 : Int32) &&& 31)) := by
  have t : ∀ k : Fin 17, ¬ (0 : Int32) < Int32.ofNat k.val - ((16 : Int32) >>> ((0 : Int32) &&& 31)) := by decide +kernel
  exact t ⟨n, by omega⟩
def Q_own_eci (Z : State) (b t : Addr) (kt : ClassId) (bs : List Int32) (n : Nat) (h0 : Heap) (n0 : Nat) (v : Option Value) (h : Heap) (L : List Loc) : Prop := v = none ∧ Fr n0 L ∧ h = h0
theorem own_eci (l : Launch) (Z : State) (a0 : Array Value) (hw : oH a0 Z) (b t : Addr) (kt : ClassId) (bs : List Int32) (n : Nat) (h0 : Heap) (n0 : Nat) (Z0 : n0 ≤ h0.size) (E : zE6 Z h0 b) (C : zF9 Z h0 b (.int (0 : Int32))) (N : zF10 Z h0 b (.int (Int32.ofNat bs.length))) (V : zF12 Z h0 b (.ref t)) (A : Arv Z h0 t kt .byte (16 : Int32) (own_by bs) (.int (0 : Int32))) (hn : n ≤ 16) :
    oC l yM61 (.code yM61 jdk_68_method_9_code 3 none) rM1 #[(.ref b), (.int (Int32.ofNat n))] Z h0 (Q_own_eci Z b t kt bs n h0 n0) := by
  refine oO (plainFor_of_name own_pn21) hisR fun p e s m below meth c s₁ S0' Bd hS hx dB hml hown hnm hZ X0 e0 => ?_
  have N0 := Fr.nil n0
  have KK0 := Keep.refl h0 ([] : List Addr)
  have cc0 : oQ X0 S0' 0 #[sR b, sI (Int32.ofNat n), uN] [] := oE hS rfl
  have W := @own_w Z a0 hw
  have q := @dX _ _ c D_57 @dB
  have cc21 : oQ X0 S0' 1 #[sR b, sI (Int32.ofNat n), uN] [.ref b] := Steps.trans cc0 (by
    refine XS.aloadN X0.here hx rfl (q 0 rfl) rfl rfl ?_
    exact Steps.refl _)
  obtain ⟨T22, X22, e22, st22⟩ := oGF X0 cc21 hx hZ hown (W 167 rfl) Via.refl e0 V (q 1 rfl)
  have cc23 : oQ X22 S0' 4 #[sR b, sI (Int32.ofNat n), uN] [.ref t] := st22
  obtain ⟨clu24, Aru24, -, Su24, Ngu24, -, -⟩ := id A
  have cl_u24 := X22.arraylength hx (by rw [e22]; exact Aru24.1) (State.isArrayOf_alike (hZ).alike Aru24.2.1) (g := (mkF m 4 #[sR b, sI (Int32.ofNat n), uN] [.ref t])) rfl rfl (q 2 rfl) _ (Steps.refl _)
  rw [len_of Su24 Ngu24] at cl_u24
  have cc25 : oQ X22 S0' 6 #[sR b, sI (Int32.ofNat n), uN] [.ref b, .int (16 : Int32)] := Steps.trans (Steps.trans cc23 cl_u24) (by
    refine XS.aloadN X22.here hx rfl (q 3 rfl) rfl rfl ?_
    exact Steps.refl _)
  obtain ⟨T26, X26, e26, st26⟩ := oGF X22 cc25 hx hZ hown (W 169 rfl) Via.refl e22 C (q 4 rfl)
  have cc27 : oQ X26 S0' 38 #[sR b, sI (Int32.ofNat n), sI ((16 : Int32) >>> ((0 : Int32) &&& 31))] [] := Steps.trans st26 (by
    refine XT.ishr X26.here hx rfl (q 5 rfl) rfl ?_
    refine XS.istoreN X26.here hx rfl (q 6 rfl) rfl rfl ?_
    refine XS.iloadN X26.here hx rfl (q 7 rfl) rfl ?_
    refine XS.iloadN X26.here hx rfl (q 8 rfl) rfl ?_
    refine XS.isub X26.here hx rfl (q 9 rfl) rfl ?_
    refine XS.ifYes X26.here hx rfl (pc0 := 14) rfl (q 10 rfl) rfl (i0_le_t (own_cap hn)) (by decide) rfl ?_
    exact Steps.refl _)
  exact oRV X26 Bd cc27 (q 11 rfl) rfl e26 ⟨rfl, N0, rfl⟩
def Q_own_ifn (Z : State) (b s1 : Addr) (z : Int32) (h0 : Heap) (n0 : Nat) (v : Option Value) (h : Heap) (L : List Loc) : Prop := v = none ∧ Fr n0 L ∧ h = h0
theorem own_ifn (l : Launch) (Z : State) (a0 : Array Value) (hw : oH a0 Z) (b s1 : Addr) (z : Int32) (h0 : Heap) (n0 : Nat) (Z0 : n0 ≤ h0.size) (X00 : Old Z n0 h0) (O2 : Sta Z Z.heap "java/lang/String" "COMPACT_STRINGS" "Z" (.int z)) (P5 : ¬ z = 0) (C : zF9 Z h0 b (.int (0 : Int32))) (Es : zE4 Z h0 s1) (Cs : zF11 Z h0 s1 (.int (0 : Int32))) :
    oC l yM62 (.code yM62 jdk_68_method_71_code 2 none) rM35 #[(.ref b), (.ref s1)] Z h0 (Q_own_ifn Z b s1 z h0 n0) := by
  refine oO (plainFor_of_name own_pn21) hisR fun p e s m below meth c s₁ S0' Bd hS hx dB hml hown hnm hZ X0 e0 => ?_
  have N0 := Fr.nil n0
  have KK0 := Keep.refl h0 ([] : List Addr)
  have cc0 : oQ X0 S0' 0 #[sR b, sR s1] [] := oE hS rfl
  have W := @own_w Z a0 hw
  have q := @dX _ _ c D_58 @dB
  obtain ⟨T21, X21, e21, st21⟩ := oGS X0 cc0 hx hZ hown (host := "") (Or.inl (W 166 rfl)) Via.refl e0 (O2.ext X00.2) (q 0 rfl)
  have cc22 : oQ X21 S0' 7 #[sR b, sR s1] [.ref b] := Steps.trans st21 (by
    refine XS.ifNo X21.here hx rfl (q 1 rfl) rfl (i0_eq_f P5) ?_
    refine XS.aloadN X21.here hx rfl (q 2 rfl) rfl rfl ?_
    exact Steps.refl _)
  obtain ⟨T23, X23, e23, st23⟩ := oGF X21 cc22 hx hZ hown (W 169 rfl) Via.refl e21 C (q 3 rfl)
  have cc24 : oQ X23 S0' 11 #[sR b, sR s1] [.ref s1, .int (0 : Int32)] := Steps.trans st23 (by
    refine XS.aloadN X23.here hx rfl (q 4 rfl) rfl rfl ?_
    exact Steps.refl _)
  obtain ⟨_, T25, L25, X25, ⟨rfl, Nq25, eq25⟩, st25⟩ := oCV (y := yM54) (z := yM54) X23 cc24 hx hZ hown hml (q 5 rfl) e23 Es (W 433 rfl) (W 301 rfl) (notFace_of_selects (args := #[]) (mvT hZ (W 303 rfl))) (W 303 rfl) (W 302 rfl) (by decide) [] [.int (0 : Int32)] (lenOf own_pd23 rfl) (bO (own_coder l Z a0 hw s1 z h0 n0 Z0 X00 O2 P5 Cs) hZ (W 304 rfl) (W 6 rfl))
  have N25 := Fr.app N0 Nq25
  have cc26 : oQ X25 S0' 21 #[sR b, sR s1] [] := Steps.trans st25 (by
    refine XS.icmpYes X25.here hx rfl (pc0 := 14) rfl (q 6 rfl) rfl (ii_eq_t rfl) (by decide) rfl ?_
    exact Steps.refl _)
  exact oRV X25 Bd cc26 (q 7 rfl) rfl eq25 ⟨rfl, N25, rfl⟩
theorem own_shl0 (x : Int32) : x <<< ((0 : Int32) &&& 31) = x := by
  have e : ((0 : Int32) &&& 31) = 0 := by decide
  rw [e]
  apply Int32.toBitVec_inj.mp
  rw [Int32.toBitVec_shiftLeft]
  have e1 : ((0 : Int32).toBitVec.smod 32) = 0#32 := by decide
  rw [e1, BitVec.shiftLeft_eq']
  exact BitVec.shiftLeft_zero _
theorem own_copy (bs cs : List Int32) (hl : bs.length + cs.length ≤ 16) : List.take bs.length (own_by bs ++ List.replicate (16 - bs.length) (.int (0 : Int32))) ++ own_by cs ++ List.drop (bs.length + cs.length) (own_by bs ++ List.replicate (16 - bs.length) (.int (0 : Int32))) = own_by (bs ++ cs) ++ List.replicate (16 - bs.length - cs.length) (.int (0 : Int32)) := by
  have h1 : List.take bs.length (own_by bs ++ List.replicate (16 - bs.length) (Value.int (0 : Int32))) = own_by bs := by
    rw [List.take_append_of_le_length (by simp), List.take_of_length_le (by simp)]
  have h2 : List.drop (bs.length + cs.length) (own_by bs ++ List.replicate (16 - bs.length) (Value.int (0 : Int32))) = List.replicate (16 - bs.length - cs.length) (Value.int (0 : Int32)) := by
    rw [List.drop_append, List.drop_of_length_le (by simp), own_by_len, List.drop_replicate]
    simp
  rw [h1, h2, own_by_app]
def Q_own_gb (Z : State) (s1 : Addr) (cs : List Int32) (t : Addr) (kt : ClassId) (bs : List Int32) (z : Int32) (h0 : Heap) (n0 : Nat) (v : Option Value) (h : Heap) (L : List Loc) : Prop := v = none ∧ Fr n0 L ∧ Keep h0 h [t] ∧ Arv Z h t kt .byte (16 : Int32) (own_by (bs ++ cs)) (.int (0 : Int32))
theorem own_gb (l : Launch) (Z : State) (a0 : Array Value) (hw : oH a0 Z) (s1 : Addr) (cs : List Int32) (t : Addr) (kt : ClassId) (bs : List Int32) (z : Int32) (h0 : Heap) (n0 : Nat) (Z0 : n0 ≤ h0.size) (X00 : Old Z n0 h0) (O2 : Sta Z Z.heap "java/lang/String" "COMPACT_STRINGS" "Z" (.int z)) (P5 : ¬ z = 0) (Hs : own_Lat Z h0 s1 cs) (A : Arv Z h0 t kt .byte (16 : Int32) (own_by bs) (.int (0 : Int32))) (gt : n0 ≤ t) (hl : bs.length + cs.length ≤ 16) :
    oC l yM63 (.code yM63 jdk_42_method_147_code 4 none) rM41 #[(.ref s1), (.ref t), (.int (Int32.ofNat bs.length)), (.int 0)] Z h0 (Q_own_gb Z s1 cs t kt bs z h0 n0) := by
  refine oO (plainFor_of_name own_pn3) hisR fun p e s m below meth c s₁ S0' Bd hS hx dB hml hown hnm hZ X0 e0 => ?_
  have N0 := Fr.nil n0
  have KK0 := Keep.refl h0 [t]
  have cc0 : oQ X0 S0' 0 #[sR s1, sR t, sI (Int32.ofNat bs.length), sI 0] [] := oE hS rfl
  have W := @own_w Z a0 hw
  have q := @dX _ _ c D_59 @dB
  obtain ⟨Es1, Cs1, ps1, ls1, ts1, ks1, Vs1, As1⟩ := Hs
  have Ap : Arv Z h0 t kt .byte (16 : Int32) (own_by bs ++ List.replicate (16 - bs.length) (.int (0 : Int32))) (.int (0 : Int32)) := A.pad (pad_rep _ _ _)
  have cc21 : oQ X0 S0' 1 #[sR s1, sR t, sI (Int32.ofNat bs.length), sI 0] [.ref s1] := Steps.trans cc0 (by
    refine XS.aloadN X0.here hx rfl (q 0 rfl) rfl rfl ?_
    exact Steps.refl _)
  obtain ⟨_, T22, L22, X22, ⟨rfl, Nq22, eq22⟩, st22⟩ := oCV (y := yM54) (z := yM54) X0 cc21 hx hZ hown hml (q 1 rfl) e0 Es1 (W 300 rfl) (W 301 rfl) (notFace_of_selects (args := #[]) (mvT hZ (W 303 rfl))) (W 303 rfl) (W 302 rfl) (by decide) [] [] (lenOf own_pd23 rfl) (bO (own_coder l Z a0 hw s1 z h0 n0 Z0 X00 O2 P5 Cs1) hZ (W 304 rfl) (W 6 rfl))
  have N22 := Fr.app N0 Nq22
  have cc23 : oQ X22 S0' 9 #[sR s1, sR t, sI (Int32.ofNat bs.length), sI 0] [.ref s1] := Steps.trans st22 (by
    refine XS.iloadN X22.here hx rfl (q 2 rfl) rfl ?_
    refine XS.icmpNo X22.here hx rfl (q 3 rfl) rfl (ii_ne_f rfl) ?_
    refine XS.aloadN X22.here hx rfl (q 4 rfl) rfl rfl ?_
    exact Steps.refl _)
  obtain ⟨T24, X24, e24, st24⟩ := oGF X22 cc23 hx hZ hown (W 24 rfl) Via.refl eq22 Vs1 (q 5 rfl)
  have cc25 : oQ X24 S0' 18 #[sR s1, sR t, sI (Int32.ofNat bs.length), sI 0] [.ref s1, .int ((Int32.ofNat bs.length) <<< ((0 : Int32) &&& 31)), .ref t, .int 0, .ref ts1] := Steps.trans st24 (by
    refine iconstV X24.here hx rfl 0 (q 6 rfl) (by decide) ?_
    refine XS.aloadN X24.here hx rfl (q 7 rfl) rfl rfl ?_
    refine XS.iloadN X24.here hx rfl (q 8 rfl) rfl ?_
    refine XS.iloadN X24.here hx rfl (q 9 rfl) rfl ?_
    refine XT.ishl X24.here hx rfl (q 10 rfl) rfl ?_
    refine XS.aloadN X24.here hx rfl (q 11 rfl) rfl rfl ?_
    exact Steps.refl _)
  obtain ⟨T26, X26, e26, st26⟩ := oGF X24 cc25 hx hZ hown (W 24 rfl) Via.refl e24 Vs1 (q 12 rfl)
  have cc27 : oQ X26 S0' 21 #[sR s1, sR t, sI (Int32.ofNat bs.length), sI 0] [.ref ts1, .int ((Int32.ofNat bs.length) <<< ((0 : Int32) &&& 31)), .ref t, .int 0, .ref ts1] := st26
  obtain ⟨clu28, Aru28, -, Su28, Ngu28, -, -⟩ := id As1
  have cl_u28 := X26.arraylength hx (by rw [e26]; exact Aru28.1) (State.isArrayOf_alike (hZ).alike Aru28.2.1) (g := (mkF m 21 #[sR s1, sR t, sI (Int32.ofNat bs.length), sI 0] [.ref ts1, .int ((Int32.ofNat bs.length) <<< ((0 : Int32) &&& 31)), .ref t, .int 0, .ref ts1])) rfl rfl (q 13 rfl) _ (Steps.refl _)
  rw [len_of Su28 Ngu28] at cl_u28
  have cc29 : oQ X26 S0' 22 #[sR s1, sR t, sI (Int32.ofNat bs.length), sI 0] [.int (Int32.ofNat cs.length), .int ((Int32.ofNat bs.length) <<< ((0 : Int32) &&& 31)), .ref t, .int 0, .ref ts1] := (Steps.trans cc27 cl_u28)
  have cz : oQ X26 S0' 22 #[sR s1, sR t, sI (Int32.ofNat bs.length), sI 0] [.int (Int32.ofNat cs.length), .int (Int32.ofNat bs.length), .ref t, .int 0, .ref ts1] := by
    have := cc29
    rw [show Int32.ofNat bs.length <<< ((0 : Int32) &&& 31) = Int32.ofNat bs.length from own_shl0 _] at this
    exact this
  have e1 : (Int32.ofNat cs.length).toNatClampNeg = cs.length := n32 (by omega)
  have e2 : (Int32.ofNat bs.length).toNatClampNeg = bs.length := n32 (by omega)
  obtain ⟨T30, h30, L30, X30, e30, N30, K30, V30, st30⟩ := cpA X26 hx hZ hown (W 439 rfl) (W 265 rfl) (W 263 rfl) (W 264 rfl) e26 As1 Ap (Or.inl ⟨rfl, rfl⟩) (by decide) (Int32.ofNat_not_neg (by omega)) (Int32.ofNat_not_neg (by omega)) (us := (own_by cs)) (by rw [e1]; show 0 + _ ≤ _; omega) (by rw [e1, e2]; show _ ≤ 16; omega) (by rw [e1]; exact (own_take cs).symm) (by rw [e1, e2]; simp; omega) N22 gt (g := (mkF m 22 #[sR s1, sR t, sI (Int32.ofNat bs.length), sI 0] [.int (Int32.ofNat cs.length), .int (Int32.ofNat bs.length), .ref t, .int 0, .ref ts1])) rfl (by rw [hml]; rfl) rfl (q 14 rfl) (by decide) (W := 0) (by show 2 * 0 + _ ≤ _; exact Nat.le_of_eq rfl) (by decide)
  have KK1 := KK0.trans K30 (allS (Or.inl (lM 0 rfl)) all0)
  have Zs1 := Nat.le_trans Z0 K30.1
  have V30' : Arv Z h30 t kt .byte (16 : Int32) (own_by (bs ++ cs) ++ List.replicate (16 - bs.length - cs.length) (.int (0 : Int32))) (.int (0 : Int32)) := own_arv_eq V30 (by rw [e1, e2]; exact own_copy bs cs hl)
  have cc31 : oQ X30 S0' 43 #[sR s1, sR t, sI (Int32.ofNat bs.length), sI 0] [] := Steps.trans (cz.trans (st30 _ (Steps.refl _))) (by
    refine XS.goto X30.here hx rfl (pc0 := 25) rfl (q 15 rfl) (by decide) rfl ?_
    exact Steps.refl _)
  exact oRV X30 Bd cc31 (q 16 rfl) rfl e30 ⟨rfl, N30, KK1, (V30').pad (fun i => (pad_rep _ _ _ i).symm)⟩
def Q_own_psa (Z : State) (b t : Addr) (kt : ClassId) (bs : List Int32) (s1 : Addr) (cs : List Int32) (z : Int32) (h0 : Heap) (n0 : Nat) (v : Option Value) (h : Heap) (L : List Loc) : Prop := v = none ∧ Fr n0 L ∧ Keep h0 h [t] ∧ Arv Z h t kt .byte (16 : Int32) (own_by (bs ++ cs)) (.int (0 : Int32))
theorem own_psa (l : Launch) (Z : State) (a0 : Array Value) (hw : oH a0 Z) (b t : Addr) (kt : ClassId) (bs : List Int32) (s1 : Addr) (cs : List Int32) (z : Int32) (h0 : Heap) (n0 : Nat) (Z0 : n0 ≤ h0.size) (X00 : Old Z n0 h0) (O2 : Sta Z Z.heap "java/lang/String" "COMPACT_STRINGS" "Z" (.int z)) (P5 : ¬ z = 0) (E : zE6 Z h0 b) (C : zF9 Z h0 b (.int (0 : Int32))) (N : zF10 Z h0 b (.int (Int32.ofNat bs.length))) (V : zF12 Z h0 b (.ref t)) (A : Arv Z h0 t kt .byte (16 : Int32) (own_by bs) (.int (0 : Int32))) (Hs : own_Lat Z h0 s1 cs) (gt : n0 ≤ t) (hl : bs.length + cs.length ≤ 16) :
    oC l yM64 (.code yM64 jdk_68_method_73_code 3 none) rM42 #[(.ref b), (.int (Int32.ofNat bs.length)), (.ref s1)] Z h0 (Q_own_psa Z b t kt bs s1 cs z h0 n0) := by
  refine oO (plainFor_of_name own_pn21) hisR fun p e s m below meth c s₁ S0' Bd hS hx dB hml hown hnm hZ X0 e0 => ?_
  have N0 := Fr.nil n0
  have KK0 := Keep.refl h0 [t]
  have cc0 : oQ X0 S0' 0 #[sR b, sI (Int32.ofNat bs.length), sR s1] [] := oE hS rfl
  have W := @own_w Z a0 hw
  have q := @dX _ _ c D_60 @dB
  have Hs' := Hs
  obtain ⟨Es1, Cs1, ps1, ls1, ts1, ks1, Vs1, As1⟩ := Hs'
  have cc21 : oQ X0 S0' 2 #[sR b, sI (Int32.ofNat bs.length), sR s1] [.ref s1, .ref b] := Steps.trans cc0 (by
    refine XS.aloadN X0.here hx rfl (q 0 rfl) rfl rfl ?_
    refine XS.aloadN X0.here hx rfl (q 1 rfl) rfl rfl ?_
    exact Steps.refl _)
  obtain ⟨_, T22, L22, X22, ⟨rfl, Nq22, eq22⟩, st22⟩ := oCP (y := yM62) X0 cc21 hx hZ hown hml (q 2 rfl) e0 E (W 428 rfl) (W 429 rfl) (own_selP hZ (W 431 rfl) (W 430 rfl) (W 429 rfl) (by decide)) (W 430 rfl) (W 432 rfl) (by decide) [.ref s1] [] (lenOf own_pd28 rfl) (bO (own_ifn l Z a0 hw b s1 z h0 n0 Z0 X00 O2 P5 C Es1 Cs1) hZ (W 432 rfl) (W 163 rfl))
  have N22 := Fr.app N0 Nq22
  have cc23 : oQ X22 S0' 7 #[sR b, sI (Int32.ofNat bs.length), sR s1] [.ref b, .ref s1] := Steps.trans st22 (by
    refine XS.aloadN X22.here hx rfl (q 3 rfl) rfl rfl ?_
    refine XS.aloadN X22.here hx rfl (q 4 rfl) rfl rfl ?_
    exact Steps.refl _)
  obtain ⟨T24, X24, e24, st24⟩ := oGF X22 cc23 hx hZ hown (W 167 rfl) Via.refl eq22 V (q 5 rfl)
  have cc25 : oQ X24 S0' 12 #[sR b, sI (Int32.ofNat bs.length), sR s1] [.ref b, .int (Int32.ofNat bs.length), .ref t, .ref s1] := Steps.trans st24 (by
    refine XS.iloadN X24.here hx rfl (q 6 rfl) rfl ?_
    refine XS.aloadN X24.here hx rfl (q 7 rfl) rfl rfl ?_
    exact Steps.refl _)
  obtain ⟨T26, X26, e26, st26⟩ := oGF X24 cc25 hx hZ hown (W 169 rfl) Via.refl e24 C (q 8 rfl)
  have cc27 : oQ X26 S0' 15 #[sR b, sI (Int32.ofNat bs.length), sR s1] [.int (0 : Int32), .int (Int32.ofNat bs.length), .ref t, .ref s1] := st26
  obtain ⟨_, T28, L28, X28, ⟨rfl, Nq28, Kq28, Aq28⟩, st28⟩ := oCV (y := yM63) (z := yM63) X26 cc27 hx hZ hown hml (q 9 rfl) e26 Es1 (W 434 rfl) (W 435 rfl) (notFace_of_selects (args := #[]) (mvT hZ (W 437 rfl))) (W 437 rfl) (W 436 rfl) (by decide) [.ref t, .int (Int32.ofNat bs.length), .int (0 : Int32)] [] (lenOf own_pd29 rfl) (bO (own_gb l Z a0 hw s1 cs t kt bs z h0 n0 Z0 X00 O2 P5 Hs A gt hl) hZ (W 438 rfl) (W 6 rfl))
  have N28 := Fr.app N22 Nq28
  have KK1 := KK0.trans Kq28 (allS (Or.inl (lM 0 rfl)) all0)
  have Zs1 := Nat.le_trans Z0 Kq28.1
  have e28 : T28.heap = T28.heap := rfl
  have cc29 : oQ X28 S0' 18 #[sR b, sI (Int32.ofNat bs.length), sR s1] [] := st28
  exact oRV X28 Bd cc29 (q 10 rfl) rfl e28 ⟨rfl, N28, KK1, Aq28⟩
def Q_own_aap (Z : State) (b t : Addr) (kt : ClassId) (bs : List Int32) (s1 : Addr) (cs : List Int32) (z : Int32) (h0 : Heap) (n0 : Nat) (v : Option Value) (h : Heap) (L : List Loc) : Prop := v = some (.ref b) ∧ Fr n0 L ∧ Keep h0 h [b, t] ∧ zF9 Z h b (.int (0 : Int32)) ∧ zF10 Z h b (.int (Int32.ofNat (bs ++ cs).length)) ∧ zF12 Z h b (.ref t) ∧ Arv Z h t kt .byte (16 : Int32) (own_by (bs ++ cs)) (.int (0 : Int32))
theorem own_aap (l : Launch) (Z : State) (a0 : Array Value) (hw : oH a0 Z) (b t : Addr) (kt : ClassId) (bs : List Int32) (s1 : Addr) (cs : List Int32) (z : Int32) (h0 : Heap) (n0 : Nat) (Z0 : n0 ≤ h0.size) (X00 : Old Z n0 h0) (O2 : Sta Z Z.heap "java/lang/String" "COMPACT_STRINGS" "Z" (.int z)) (P5 : ¬ z = 0) (E : zE6 Z h0 b) (C : zF9 Z h0 b (.int (0 : Int32))) (N : zF10 Z h0 b (.int (Int32.ofNat bs.length))) (V : zF12 Z h0 b (.ref t)) (A : Arv Z h0 t kt .byte (16 : Int32) (own_by bs) (.int (0 : Int32))) (Hs : own_Lat Z h0 s1 cs) (gb : n0 ≤ b) (gt : n0 ≤ t) (hl : bs.length + cs.length ≤ 16) :
    oC l yM65 (.code yM65 jdk_68_method_22_code 3 (some (.object "java/lang/AbstractStringBuilder"))) rM43 #[(.ref b), (.ref s1)] Z h0 (Q_own_aap Z b t kt bs s1 cs z h0 n0) := by
  refine oO (plainFor_of_name own_pn21) hisR fun p e s m below meth c s₁ S0' Bd hS hx dB hml hown hnm hZ X0 e0 => ?_
  have N0 := Fr.nil n0
  have KK0 := Keep.refl h0 [b, t]
  have cc0 : oQ X0 S0' 0 #[sR b, sR s1, uN] [] := oE hS rfl
  have W := @own_w Z a0 hw
  have q := @dX _ _ c D_61 @dB
  have w_241 := W 241 rfl
  have Hs' := Hs
  obtain ⟨Es1, Cs1, ps1, ls1, ts1, ks1, Vs1, As1⟩ := Hs'
  have ne_b_t : b ≠ t := own_ne_arv E (W 154 rfl) A
  have cc21 : oQ X0 S0' 10 #[sR b, sR s1, uN] [.ref s1] := Steps.trans cc0 (by
    refine XS.aloadN X0.here hx rfl (q 0 rfl) rfl rfl ?_
    refine XT.ifnonnullYes X0.here hx rfl (pc0 := 1) rfl (q 1 rfl) rfl (by decide) rfl ?_
    refine XS.aloadN X0.here hx rfl (q 2 rfl) rfl rfl ?_
    exact Steps.refl _)
  obtain ⟨_, T22, L22, X22, ⟨rfl, Nq22, eq22⟩, st22⟩ := oCV (y := yM55) (z := yM55) X0 cc21 hx hZ hown hml (q 3 rfl) e0 Es1 (W 417 rfl) (W 296 rfl) (notFace_of_selects (args := #[]) (mvT hZ (W 298 rfl))) (W 298 rfl) (W 297 rfl) (by decide) [] [] (lenOf own_pd20 rfl) (bO (own_len l Z a0 hw s1 cs z h0 n0 Z0 X00 O2 P5 ⟨Es1, Cs1, ps1, ls1, ts1, ks1, Vs1, As1⟩) hZ (W 299 rfl) (W 6 rfl))
  have N22 := Fr.app N0 Nq22
  have cc23 : oQ X22 S0' 16 #[sR b, sR s1, sI (Int32.ofNat cs.length)] [.ref b, .ref b] := Steps.trans st22 (by
    refine XS.istoreN X22.here hx rfl (q 4 rfl) rfl rfl ?_
    refine XS.aloadN X22.here hx rfl (q 5 rfl) rfl rfl ?_
    refine XS.aloadN X22.here hx rfl (q 6 rfl) rfl rfl ?_
    exact Steps.refl _)
  obtain ⟨T24, X24, e24, st24⟩ := oGF X22 cc23 hx hZ hown w_241 Via.refl eq22 N (q 7 rfl)
  have cc25 : oQ X24 S0' 21 #[sR b, sR s1, sI (Int32.ofNat cs.length)] [.int ((Int32.ofNat bs.length) + (Int32.ofNat cs.length)), .ref b] := Steps.trans st24 (by
    refine XS.iloadN X24.here hx rfl (q 8 rfl) rfl ?_
    refine XS.iadd X24.here hx rfl (q 9 rfl) rfl ?_
    exact Steps.refl _)
  have cz : oQ X24 S0' 21 #[sR b, sR s1, sI (Int32.ofNat cs.length)] [.int (Int32.ofNat (bs.length + cs.length)), .ref b] := by
    have := cc25
    rw [add32n] at this
    exact this
  obtain ⟨_, T26, L26, X26, ⟨rfl, Nq26, eq26⟩, st26⟩ := oCP (y := yM61) X24 cz hx hZ hown hml (q 10 rfl) e24 E (W 418 rfl) (W 419 rfl) (own_selP hZ (W 421 rfl) (W 420 rfl) (W 419 rfl) (by decide)) (W 420 rfl) (W 422 rfl) (by decide) [.int (Int32.ofNat (bs.length + cs.length))] [] (lenOf own_pd27 rfl) (bO (own_eci l Z a0 hw b t kt bs (bs.length + cs.length) h0 n0 Z0 E C N V A hl) hZ (W 422 rfl) (W 163 rfl))
  have N26 := Fr.app N22 Nq26
  have cc27 : oQ X26 S0' 26 #[sR b, sR s1, sI (Int32.ofNat cs.length)] [.ref b, .ref b] := Steps.trans st26 (by
    refine XS.aloadN X26.here hx rfl (q 11 rfl) rfl rfl ?_
    refine XS.aloadN X26.here hx rfl (q 12 rfl) rfl rfl ?_
    exact Steps.refl _)
  obtain ⟨T28, X28, e28, st28⟩ := oGF X26 cc27 hx hZ hown w_241 Via.refl eq26 N (q 13 rfl)
  have cc29 : oQ X28 S0' 30 #[sR b, sR s1, sI (Int32.ofNat cs.length)] [.ref s1, .int (Int32.ofNat bs.length), .ref b] := Steps.trans st28 (by
    refine XS.aloadN X28.here hx rfl (q 14 rfl) rfl rfl ?_
    exact Steps.refl _)
  obtain ⟨_, T30, L30, X30, ⟨rfl, Nq30, Kq30, Aq30⟩, st30⟩ := oCP (y := yM64) X28 cc29 hx hZ hown hml (q 15 rfl) e28 E (W 423 rfl) (W 424 rfl) (own_selP hZ (W 426 rfl) (W 425 rfl) (W 424 rfl) (by decide)) (W 425 rfl) (W 427 rfl) (by decide) [.int (Int32.ofNat bs.length), .ref s1] [] (lenOf own_pd30 rfl) (bO (own_psa l Z a0 hw b t kt bs s1 cs z h0 n0 Z0 X00 O2 P5 E C N V A Hs gt hl) hZ (W 427 rfl) (W 163 rfl))
  have N30 := Fr.app N26 Nq30
  have KK1 := KK0.trans Kq30 (allS (Or.inl (lM 1 rfl)) all0)
  have Zs1 := Nat.le_trans Z0 Kq30.1
  have e30 : T30.heap = T30.heap := rfl
  have cc32 : oQ X30 S0' 35 #[sR b, sR s1, sI (Int32.ofNat cs.length)] [.ref b, .ref b] := Steps.trans st30 (by
    refine XS.aloadN X30.here hx rfl (q 16 rfl) rfl rfl ?_
    refine XS.dup X30.here hx rfl (q 17 rfl) rfl rfl ?_
    exact Steps.refl _)
  have fa31 := N.keep Kq30 (ninS ne_b_t nin0)
  obtain ⟨T33, X33, e33, st33⟩ := oGF X30 cc32 hx hZ hown w_241 Via.refl e30 fa31 (q 18 rfl)
  have cc34 : oQ X33 S0' 40 #[sR b, sR s1, sI (Int32.ofNat cs.length)] [.int ((Int32.ofNat bs.length) + (Int32.ofNat cs.length)), .ref b] := Steps.trans st33 (by
    refine XS.iloadN X33.here hx rfl (q 19 rfl) rfl ?_
    refine XS.iadd X33.here hx rfl (q 20 rfl) rfl ?_
    exact Steps.refl _)
  have cy : oQ X33 S0' 40 #[sR b, sR s1, sI (Int32.ofNat cs.length)] [.int (Int32.ofNat (bs ++ cs).length), .ref b] := by
    have := cc34
    rw [add32n, ← List.length_append] at this
    exact this
  have fa35 := E.keep Kq30
  obtain ⟨T36, h36, X36, e36, W36, st36⟩ := oPF X33 cy hx hZ hown w_241 Via.refl e33 fa31 fa35 (Or.inl (W 242 rfl)) (W 154 rfl) (ty := .int) (by decide) rfl rfl (q 21 rfl)
  have K36 := Keep.of_wr W36
  have N36 := Fr.snoc X36 N30 gb
  have KK2 := KK1.trans K36 (allS (Or.inl (lM 0 rfl)) all0)
  have Zs2 := Nat.le_trans Zs1 K36.1
  have cc38 : oQ X36 S0' 44 #[sR b, sR s1, sI (Int32.ofNat cs.length)] [.ref b] := Steps.trans st36 (by
    refine XS.aloadN X36.here hx rfl (q 22 rfl) rfl rfl ?_
    exact Steps.refl _)
  have fa37 := (C.keep Kq30 (ninS ne_b_t nin0)).other W36 (Or.inr (slot_ne (Or.inl (W 170 rfl)) (Or.inl (W 242 rfl)) (by decide) (t := .byte) (t' := .int) (by decide) (by decide)))
  have fa39 := (V.keep Kq30 (ninS ne_b_t nin0)).other W36 (Or.inr (slot_ne (Or.inl (W 168 rfl)) (Or.inl (W 242 rfl)) (by decide) (t := (.array .byte)) (t' := .int) (by decide) (by decide)))
  have fa40 := Aq30.keep K36 (ninS (Ne.symm ne_b_t) nin0)
  exact oRA X36 Bd cc38 (q 23 rfl) rfl (rfl) rfl e36 ⟨rfl, N36, KK2, fa37, (Fld.same W36 fa31), fa39, fa40⟩
def Q_own_app (Z : State) (b t : Addr) (kt : ClassId) (bs : List Int32) (s1 : Addr) (cs : List Int32) (z : Int32) (h0 : Heap) (n0 : Nat) (v : Option Value) (h : Heap) (L : List Loc) : Prop := v = some (.ref b) ∧ Fr n0 L ∧ Keep h0 h [b, t] ∧ zF9 Z h b (.int (0 : Int32)) ∧ zF10 Z h b (.int (Int32.ofNat (bs ++ cs).length)) ∧ zF12 Z h b (.ref t) ∧ Arv Z h t kt .byte (16 : Int32) (own_by (bs ++ cs)) (.int (0 : Int32))
theorem own_app (l : Launch) (Z : State) (a0 : Array Value) (hw : oH a0 Z) (b t : Addr) (kt : ClassId) (bs : List Int32) (s1 : Addr) (cs : List Int32) (z : Int32) (h0 : Heap) (n0 : Nat) (Z0 : n0 ≤ h0.size) (X00 : Old Z n0 h0) (O2 : Sta Z Z.heap "java/lang/String" "COMPACT_STRINGS" "Z" (.int z)) (P5 : ¬ z = 0) (E : zE6 Z h0 b) (C : zF9 Z h0 b (.int (0 : Int32))) (N : zF10 Z h0 b (.int (Int32.ofNat bs.length))) (V : zF12 Z h0 b (.ref t)) (A : Arv Z h0 t kt .byte (16 : Int32) (own_by bs) (.int (0 : Int32))) (Hs : own_Lat Z h0 s1 cs) (gb : n0 ≤ b) (gt : n0 ≤ t) (hl : bs.length + cs.length ≤ 16) :
    oC l yM66 (.code yM66 jdk_67_method_7_code 2 (some (.object "java/lang/StringBuilder"))) rM44 #[(.ref b), (.ref s1)] Z h0 (Q_own_app Z b t kt bs s1 cs z h0 n0) := by
  refine oO (plainFor_of_name own_pn22) hisR fun p e s m below meth c s₁ S0' Bd hS hx dB hml hown hnm hZ X0 e0 => ?_
  have N0 := Fr.nil n0
  have KK0 := Keep.refl h0 [b, t]
  have cc0 : oQ X0 S0' 0 #[sR b, sR s1] [] := oE hS rfl
  have W := @own_w Z a0 hw
  have q := @dX _ _ c D_62 @dB
  have cc21 : oQ X0 S0' 2 #[sR b, sR s1] [.ref s1, .ref b] := Steps.trans cc0 (by
    refine XS.aloadN X0.here hx rfl (q 0 rfl) rfl rfl ?_
    refine XS.aloadN X0.here hx rfl (q 1 rfl) rfl rfl ?_
    exact Steps.refl _)
  obtain ⟨_, T22, L22, X22, ⟨rfl, Nq22, Kq22, f122, f222, f322, f422⟩, st22⟩ := oCS (y := yM65) X0 cc21 hx hZ hown hml (q 2 rfl) e0 E (W 413 rfl) (own_sameM (W 414 rfl) (W 230 rfl) rfl (by decide)) (W 414 rfl) (W 239 rfl) (by decide) (W 416 rfl) [.ref s1] [] (lenOf own_pd31 rfl) (bO (own_aap l Z a0 hw b t kt bs s1 cs z h0 n0 Z0 X00 O2 P5 E C N V A Hs gb gt hl) hZ (W 416 rfl) (W 163 rfl))
  have N22 := Fr.app N0 Nq22
  have KK1 := KK0.trans Kq22 (allS (Or.inl (lM 0 rfl)) (allS (Or.inl (lM 1 rfl)) all0))
  have Zs1 := Nat.le_trans Z0 Kq22.1
  have e22 : T22.heap = T22.heap := rfl
  have cc23 : oQ X22 S0' 7 #[sR b, sR s1] [.ref b] := Steps.trans st22 (by
    refine XT.pop X22.here hx rfl (q 3 rfl) rfl rfl ?_
    refine XS.aloadN X22.here hx rfl (q 4 rfl) rfl rfl ?_
    exact Steps.refl _)
  exact oRA X22 Bd cc23 (q 5 rfl) rfl (rfl) rfl e22 ⟨rfl, N22, KK1, f122, f222, f322, f422⟩
def Q_own_gv (Z : State) (b t : Addr) (h0 : Heap) (n0 : Nat) (v : Option Value) (h : Heap) (L : List Loc) : Prop := v = some (.ref t) ∧ Fr n0 L ∧ h = h0
theorem own_gv (l : Launch) (Z : State) (a0 : Array Value) (hw : oH a0 Z) (b t : Addr) (h0 : Heap) (n0 : Nat) (Z0 : n0 ≤ h0.size) (V : zF12 Z h0 b (.ref t)) :
    oC l yM67 (.code yM67 jdk_68_method_64_code 1 (some (.array .byte))) rM1 #[(.ref b)] Z h0 (Q_own_gv Z b t h0 n0) := by
  refine oO (plainFor_of_name own_pn21) hisR fun p e s m below meth c s₁ S0' Bd hS hx dB hml hown hnm hZ X0 e0 => ?_
  have N0 := Fr.nil n0
  have KK0 := Keep.refl h0 ([] : List Addr)
  have cc0 : oQ X0 S0' 0 #[sR b] [] := oE hS rfl
  have W := @own_w Z a0 hw
  have q := @dX _ _ c D_63 @dB
  have cc21 : oQ X0 S0' 1 #[sR b] [.ref b] := Steps.trans cc0 (by
    refine XS.aloadN X0.here hx rfl (q 0 rfl) rfl rfl ?_
    exact Steps.refl _)
  obtain ⟨T22, X22, e22, st22⟩ := oGF X0 cc21 hx hZ hown (W 167 rfl) Via.refl e0 V (q 1 rfl)
  have cc23 : oQ X22 S0' 4 #[sR b] [.ref t] := st22
  exact oRA X22 Bd cc23 (q 2 rfl) rfl (rfl) rfl e22 ⟨rfl, N0, rfl⟩
def Q_own_asl (Z : State) (b : Addr) (n : Int32) (h0 : Heap) (n0 : Nat) (v : Option Value) (h : Heap) (L : List Loc) : Prop := v = some (.int n) ∧ Fr n0 L ∧ h = h0
theorem own_asl (l : Launch) (Z : State) (a0 : Array Value) (hw : oH a0 Z) (b : Addr) (n : Int32) (h0 : Heap) (n0 : Nat) (Z0 : n0 ≤ h0.size) (N : zF10 Z h0 b (.int n)) :
    oC l yM68 (.code yM68 jdk_68_method_6_code 1 (some .int)) rM1 #[(.ref b)] Z h0 (Q_own_asl Z b n h0 n0) := by
  refine oO (plainFor_of_name own_pn21) hisR fun p e s m below meth c s₁ S0' Bd hS hx dB hml hown hnm hZ X0 e0 => ?_
  have N0 := Fr.nil n0
  have KK0 := Keep.refl h0 ([] : List Addr)
  have cc0 : oQ X0 S0' 0 #[sR b] [] := oE hS rfl
  have W := @own_w Z a0 hw
  have q := @dX _ _ c D_64 @dB
  have cc21 : oQ X0 S0' 1 #[sR b] [.ref b] := Steps.trans cc0 (by
    refine XS.aloadN X0.here hx rfl (q 0 rfl) rfl rfl ?_
    exact Steps.refl _)
  obtain ⟨T22, X22, e22, st22⟩ := oGF X0 cc21 hx hZ hown (W 241 rfl) Via.refl e0 N (q 1 rfl)
  have cc23 : oQ X22 S0' 4 #[sR b] [.int n] := st22
  exact oRI X22 Bd cc23 (q 2 rfl) rfl (rfl) (by simp) e22 ⟨rfl, N0, rfl⟩
def Q_own_sbl (Z : State) (b : Addr) (n : Int32) (h0 : Heap) (n0 : Nat) (v : Option Value) (h : Heap) (L : List Loc) : Prop := v = some (.int n) ∧ Fr n0 L ∧ h = h0
theorem own_sbl (l : Launch) (Z : State) (a0 : Array Value) (hw : oH a0 Z) (b : Addr) (n : Int32) (h0 : Heap) (n0 : Nat) (Z0 : n0 ≤ h0.size) (E : zE6 Z h0 b) (N : zF10 Z h0 b (.int n)) :
    oC l yM69 (.code yM69 jdk_67_method_93_code 1 (some .int)) rM0 #[(.ref b)] Z h0 (Q_own_sbl Z b n h0 n0) := by
  refine oO (plainFor_of_name own_pn22) hisR fun p e s m below meth c s₁ S0' Bd hS hx dB hml hown hnm hZ X0 e0 => ?_
  have N0 := Fr.nil n0
  have KK0 := Keep.refl h0 ([] : List Addr)
  have cc0 : oQ X0 S0' 0 #[sR b] [] := oE hS rfl
  have W := @own_w Z a0 hw
  have q := @dX _ _ c D_65 @dB
  have cc21 : oQ X0 S0' 1 #[sR b] [.ref b] := Steps.trans cc0 (by
    refine XS.aloadN X0.here hx rfl (q 0 rfl) rfl rfl ?_
    exact Steps.refl _)
  obtain ⟨_, T22, L22, X22, ⟨rfl, Nq22, eq22⟩, st22⟩ := oCS (y := yM68) X0 cc21 hx hZ hown hml (q 1 rfl) e0 E (W 238 rfl) (own_sameM (W 234 rfl) (W 230 rfl) rfl (by decide)) (W 234 rfl) (W 239 rfl) (by decide) (W 240 rfl) [] [] (lenOf own_pd20 rfl) (bO (own_asl l Z a0 hw b n h0 n0 Z0 N) hZ (W 240 rfl) (W 163 rfl))
  have N22 := Fr.app N0 Nq22
  have cc23 : oQ X22 S0' 4 #[sR b] [.int n] := st22
  exact oRI X22 Bd cc23 (q 2 rfl) rfl (rfl) (by simp) eq22 ⟨rfl, N22, rfl⟩
def Q_own_sil (Z : State) (b : Addr) (z : Int32) (h0 : Heap) (n0 : Nat) (v : Option Value) (h : Heap) (L : List Loc) : Prop := v = some (.int 1) ∧ Fr n0 L ∧ h = h0
theorem own_sil (l : Launch) (Z : State) (a0 : Array Value) (hw : oH a0 Z) (b : Addr) (z : Int32) (h0 : Heap) (n0 : Nat) (Z0 : n0 ≤ h0.size) (X00 : Old Z n0 h0) (O2 : Sta Z Z.heap "java/lang/String" "COMPACT_STRINGS" "Z" (.int z)) (P5 : ¬ z = 0) (C : zF9 Z h0 b (.int (0 : Int32))) :
    oC l yM70 (.code yM70 jdk_68_method_68_code 1 (some .boolean)) rM1 #[(.ref b)] Z h0 (Q_own_sil Z b z h0 n0) := by
  refine oO (plainFor_of_name own_pn21) hisR fun p e s m below meth c s₁ S0' Bd hS hx dB hml hown hnm hZ X0 e0 => ?_
  have N0 := Fr.nil n0
  have KK0 := Keep.refl h0 ([] : List Addr)
  have cc0 : oQ X0 S0' 0 #[sR b] [] := oE hS rfl
  have W := @own_w Z a0 hw
  have q := @dX _ _ c D_66 @dB
  obtain ⟨T21, X21, e21, st21⟩ := oGS X0 cc0 hx hZ hown (host := "") (Or.inl (W 166 rfl)) Via.refl e0 (O2.ext X00.2) (q 0 rfl)
  have cc22 : oQ X21 S0' 7 #[sR b] [.ref b] := Steps.trans st21 (by
    refine XS.ifNo X21.here hx rfl (q 1 rfl) rfl (i0_eq_f P5) ?_
    refine XS.aloadN X21.here hx rfl (q 2 rfl) rfl rfl ?_
    exact Steps.refl _)
  obtain ⟨T23, X23, e23, st23⟩ := oGF X21 cc22 hx hZ hown (W 169 rfl) Via.refl e21 C (q 3 rfl)
  have cc24 : oQ X23 S0' 18 #[sR b] [.int 1] := Steps.trans st23 (by
    refine XS.ifNo X23.here hx rfl (q 4 rfl) rfl (i0_ne_f rfl) ?_
    refine iconstV X23.here hx rfl 1 (q 5 rfl) (by decide) ?_
    refine XS.goto X23.here hx rfl (pc0 := 14) rfl (q 6 rfl) (by decide) rfl ?_
    exact Steps.refl _)
  exact oRI X23 Bd cc24 (q 7 rfl) rfl (rfl) (by simp) e23 ⟨rfl, N0, rfl⟩
def Q_own_chk (Z : State) (a b : Int32) (h0 : Heap) (n0 : Nat) (v : Option Value) (h : Heap) (L : List Loc) : Prop := v = none ∧ Fr n0 L ∧ h = h0
theorem own_chk (l : Launch) (Z : State) (a0 : Array Value) (hw : oH a0 Z) (a b : Int32) (h0 : Heap) (n0 : Nat) (Z0 : n0 ≤ h0.size) (h1 : ¬ b < a) :
    oC l yM71 (.code yM71 jdk_65_method_131_code 2 none) rM1 #[(.int a), (.int b)] Z h0 (Q_own_chk Z a b h0 n0) := by
  refine oO (plainFor_of_name own_pn10) hisR fun p e s m below meth c s₁ S0' Bd hS hx dB hml hown hnm hZ X0 e0 => ?_
  have N0 := Fr.nil n0
  have KK0 := Keep.refl h0 ([] : List Addr)
  have cc0 : oQ X0 S0' 0 #[sI a, sI b] [] := oE hS rfl
  have W := @own_w Z a0 hw
  have q := @dX _ _ c D_67 @dB
  have cc21 : oQ X0 S0' 37 #[sI a, sI b] [] := Steps.trans cc0 (by
    refine XS.iloadN X0.here hx rfl (q 0 rfl) rfl ?_
    refine XS.iloadN X0.here hx rfl (q 1 rfl) rfl ?_
    refine XS.icmpYes X0.here hx rfl (pc0 := 2) rfl (q 2 rfl) rfl (ii_ge_t h1) (by decide) rfl ?_
    exact Steps.refl _)
  exact oRV X0 Bd cc21 (q 3 rfl) rfl e0 ⟨rfl, N0, rfl⟩
def Q_own_crb0 (Z : State) (a : Addr) (k : ClassId) (bs : List Int32) (h0 : Heap) (n0 : Nat) (v : Option Value) (h : Heap) (L : List Loc) : Prop := ∃ (t : Addr) (kt : ClassId), v = some (.ref t) ∧ Fr n0 L ∧ Keep h0 h [] ∧ h0.size ≤ t ∧ Arv Z h t kt .byte (Int32.ofNat bs.length) (own_by bs) (.int (0 : Int32))
theorem own_crb0 (l : Launch) (Z : State) (a0 : Array Value) (hw : oH a0 Z) (a : Addr) (k : ClassId) (bs : List Int32) (h0 : Heap) (n0 : Nat) (Z0 : n0 ≤ h0.size) (A : Arv Z h0 a k .byte (16 : Int32) (own_by bs) (.int (0 : Int32))) (hb : bs.length < 16) :
    oC l yM72 (.code yM72 jdk_65_method_133_code 5 (some (.array .byte))) rM45 #[(.ref a), (.int 0), (.int (Int32.ofNat bs.length))] Z h0 (Q_own_crb0 Z a k bs h0 n0) := by
  refine oO (plainFor_of_name own_pn10) hisR fun p e s m below meth c s₁ S0' Bd hS hx dB hml hown hnm hZ X0 e0 => ?_
  have N0 := Fr.nil n0
  have KK0 := Keep.refl h0 ([] : List Addr)
  have cc0 : oQ X0 S0' 0 #[sR a, sI 0, sI (Int32.ofNat bs.length), uN, uN] [] := oE hS rfl
  have W := @own_w Z a0 hw
  have q := @dX _ _ c D_68 @dB
  have cc21 : oQ X0 S0' 2 #[sR a, sI 0, sI (Int32.ofNat bs.length), uN, uN] [.int (Int32.ofNat bs.length), .int 0] := Steps.trans cc0 (by
    refine XS.iloadN X0.here hx rfl (q 0 rfl) rfl ?_
    refine XS.iloadN X0.here hx rfl (q 1 rfl) rfl ?_
    exact Steps.refl _)
  obtain ⟨_, T22, L22, X22, ⟨rfl, Nq22, eq22⟩, st22⟩ := oCT (y := yM71) X0 cc21 hx hZ hown hml (q 2 rfl) e0 (W 255 rfl) (W 256 rfl) (W 250 rfl) (W 257 rfl) (by decide) [.int 0, .int (Int32.ofNat bs.length)] [] (lenOf own_pd32 rfl) (bO (own_chk l Z a0 hw 0 (Int32.ofNat bs.length) h0 n0 Z0 (Int32.ofNat_not_neg (by omega))) hZ (W 257 rfl) (W 250 rfl))
  have N22 := Fr.app N0 Nq22
  have cc23 : oQ X22 S0' 8 #[sR a, sI 0, sI (Int32.ofNat bs.length), uN, uN] [.int ((Int32.ofNat bs.length) - (0 : Int32))] := Steps.trans st22 (by
    refine XS.iloadN X22.here hx rfl (q 3 rfl) rfl ?_
    refine XS.iloadN X22.here hx rfl (q 4 rfl) rfl ?_
    refine XS.isub X22.here hx rfl (q 5 rfl) rfl ?_
    exact Steps.refl _)
  have es : Int32.ofNat bs.length - 0 = Int32.ofNat bs.length := sub32n (b := 0) (Nat.zero_le _)
  have ng : ¬ Int32.ofNat bs.length < 0 := Int32.ofNat_not_neg (by omega)
  have en : (Int32.ofNat bs.length).toNatClampNeg = bs.length := n32 (by omega)
  have cz : oQ X22 S0' 8 #[sR a, sI 0, sI (Int32.ofNat bs.length), uN, uN] [.int (Int32.ofNat bs.length)] := by
    have := cc23
    rw [es] at this
    exact this
  have cc24 : oQ X22 S0' 10 #[sR a, sI 0, sI (Int32.ofNat bs.length), sI (Int32.ofNat bs.length), uN] [.int (Int32.ofNat bs.length)] := Steps.trans cz (by
    refine XS.istoreN X22.here hx rfl (q 6 rfl) rfl rfl ?_
    refine XS.iloadN X22.here hx rfl (q 7 rfl) rfl ?_
    exact Steps.refl _)
  obtain ⟨T25, h25, k25, X25, e25, E25, A25, st25⟩ := newP X22 hx hZ (aty := .byte) (W 19 rfl) eq22 (g := (mkF m 10 #[sR a, sI 0, sI (Int32.ofNat bs.length), sI (Int32.ofNat bs.length), uN] [.int (Int32.ofNat bs.length)])) rfl (q 8 rfl) rfl ng (cap := 16) (by rw [en]; omega) (by decide) (by decide) (by decide)
  obtain ⟨t, g_t⟩ : ∃ z, z = h0.size := ⟨_, rfl⟩
  rw [← g_t] at A25 st25
  have K25 := (Keep.refl h0 ([] : List Addr)).ext E25
  have b_t : h0.size ≤ t := (Nat.le_of_eq g_t.symm)
  have gn_t := Nat.le_trans Z0 b_t
  have s0_t := Nat.le_trans KK0.1 b_t
  have ne_a_t := oN A.lt b_t
  have KK1 := KK0.trans K25 all0
  have Zs1 := Nat.le_trans Z0 K25.1
  have Vp : Arv Z h25 t k25 .byte (Int32.ofNat bs.length) ([] ++ List.replicate bs.length (.int (0 : Int32))) (.int (0 : Int32)) := (Arv.new A25 ng).pad (pad_rep [] _ _)
  have cc27 : oQ X25 S0' 20 #[sR a, sI 0, sI (Int32.ofNat bs.length), sI (Int32.ofNat bs.length), sR t] [.ref a, .int 0, .ref t, .int 0, .ref a] := Steps.trans (cc24.trans (st25 _ (Steps.refl _))) (by
    refine XS.astore X25.here hx rfl (q 9 rfl) rfl rfl rfl ?_
    refine XS.aloadN X25.here hx rfl (q 10 rfl) rfl rfl ?_
    refine XS.iloadN X25.here hx rfl (q 11 rfl) rfl ?_
    refine XS.aload X25.here hx rfl (q 12 rfl) rfl rfl ?_
    refine iconstV X25.here hx rfl 0 (q 13 rfl) (by decide) ?_
    refine XS.aloadN X25.here hx rfl (q 14 rfl) rfl rfl ?_
    exact Steps.refl _)
  have fa26 := A.keep K25 nin0
  obtain ⟨clu28, Aru28, -, Su28, Ngu28, -, -⟩ := id fa26
  have cl_u28 := X25.arraylength hx (by rw [e25]; exact Aru28.1) (State.isArrayOf_alike (hZ).alike Aru28.2.1) (g := (mkF m 20 #[sR a, sI 0, sI (Int32.ofNat bs.length), sI (Int32.ofNat bs.length), sR t] [.ref a, .int 0, .ref t, .int 0, .ref a])) rfl rfl (q 15 rfl) _ (Steps.refl _)
  rw [len_of Su28 Ngu28] at cl_u28
  have cc29 : oQ X25 S0' 24 #[sR a, sI 0, sI (Int32.ofNat bs.length), sI (Int32.ofNat bs.length), sR t] [.int (Int32.ofNat bs.length), .int ((16 : Int32) - (0 : Int32)), .int 0, .ref t, .int 0, .ref a] := Steps.trans (Steps.trans cc27 cl_u28) (by
    refine XS.iloadN X25.here hx rfl (q 16 rfl) rfl ?_
    refine XS.isub X25.here hx rfl (q 17 rfl) rfl ?_
    refine XS.iloadN X25.here hx rfl (q 18 rfl) rfl ?_
    exact Steps.refl _)
  obtain ⟨_, T30, L30, X30, ⟨rfl, Nq30, eq30⟩, st30⟩ := oCT (y := yM21) X25 cc29 hx hZ hown hml (q 19 rfl) e25 (W 258 rfl) (W 259 rfl) (W 260 rfl) (W 261 rfl) (by decide) [.int ((16 : Int32) - (0 : Int32)), .int (Int32.ofNat bs.length)] [.int 0, .ref t, .int 0, .ref a] (lenOf own_pd6 rfl) (bO (own_minb l Z a0 hw ((16 : Int32) - 0) (Int32.ofNat bs.length) h25 n0 Zs1 (lt32 (b := 16) (by decide) hb)) hZ (W 261 rfl) (W 260 rfl))
  have N30 := Fr.app N22 Nq30
  have cc31 : oQ X30 S0' 27 #[sR a, sI 0, sI (Int32.ofNat bs.length), sI (Int32.ofNat bs.length), sR t] [.int (Int32.ofNat bs.length), .int 0, .ref t, .int 0, .ref a] := st30
  obtain ⟨T32, h32, L32, X32, e32, N32, K32, V32, st32⟩ := cpA X30 hx hZ hown (W 262 rfl) (W 265 rfl) (W 263 rfl) (W 264 rfl) eq30 fa26 Vp (Or.inl ⟨rfl, rfl⟩) (by decide) (by decide) ng (us := (own_by bs)) (by rw [en]; show 0 + _ ≤ 16; omega) (by rw [en]; show 0 + _ ≤ _; omega) (by rw [en]; exact (own_take bs).symm) (by rw [en]; show 0 + _ ≤ _; simp) N30 gn_t (g := (mkF m 27 #[sR a, sI 0, sI (Int32.ofNat bs.length), sI (Int32.ofNat bs.length), sR t] [.int (Int32.ofNat bs.length), .int 0, .ref t, .int 0, .ref a])) rfl (by rw [hml]; rfl) rfl (q 20 rfl) (by decide) (W := 0) (by show 2 * 0 + _ ≤ _; exact Nat.le_of_eq rfl) (by decide)
  have KK2 := KK1.trans K32 (allS (Or.inr s0_t) all0)
  have Zs2 := Nat.le_trans Zs1 K32.1
  have V32' : Arv Z h32 t k25 .byte (Int32.ofNat bs.length) (own_by bs) (.int (0 : Int32)) := own_arv_eq V32 (by rw [en]; show [] ++ _ ++ List.drop (0 + bs.length) _ = _; simp)
  have cc33 : oQ X32 S0' 32 #[sR a, sI 0, sI (Int32.ofNat bs.length), sI (Int32.ofNat bs.length), sR t] [.ref t] := Steps.trans (cc31.trans (st32 _ (Steps.refl _))) (by
    refine XS.aload X32.here hx rfl (q 21 rfl) rfl rfl ?_
    exact Steps.refl _)
  exact oRA X32 Bd cc33 (q 22 rfl) rfl (rfl) rfl e32 ⟨t, _, rfl, N32, KK2, s0_t, V32'⟩
def Q_own_cr0 (Z : State) (a : Addr) (k : ClassId) (bs : List Int32) (h0 : Heap) (n0 : Nat) (v : Option Value) (h : Heap) (L : List Loc) : Prop := ∃ (t : Addr) (kt : ClassId), v = some (.ref t) ∧ Fr n0 L ∧ Keep h0 h [] ∧ h0.size ≤ t ∧ Arv Z h t kt .byte (Int32.ofNat bs.length) (own_by bs) (.int (0 : Int32))
theorem own_cr0 (l : Launch) (Z : State) (a0 : Array Value) (hw : oH a0 Z) (a : Addr) (k : ClassId) (bs : List Int32) (h0 : Heap) (n0 : Nat) (Z0 : n0 ≤ h0.size) (A : Arv Z h0 a k .byte (16 : Int32) (own_by bs) (.int (0 : Int32))) (hb : bs.length < 16) :
    oC l yM73 (.code yM73 jdk_65_method_132_code 3 (some (.array .byte))) rM46 #[(.ref a), (.int 0), (.int (Int32.ofNat bs.length))] Z h0 (Q_own_cr0 Z a k bs h0 n0) := by
  refine oO (plainFor_of_name own_pn10) hisR fun p e s m below meth c s₁ S0' Bd hS hx dB hml hown hnm hZ X0 e0 => ?_
  have N0 := Fr.nil n0
  have KK0 := Keep.refl h0 ([] : List Addr)
  have cc0 : oQ X0 S0' 0 #[sR a, sI 0, sI (Int32.ofNat bs.length)] [] := oE hS rfl
  have W := @own_w Z a0 hw
  have q := @dX _ _ c D_69 @dB
  have cc21 : oQ X0 S0' 6 #[sR a, sI 0, sI (Int32.ofNat bs.length)] [.ref a, .int (Int32.ofNat bs.length)] := Steps.trans cc0 (by
    refine XS.iloadN X0.here hx rfl (q 0 rfl) rfl ?_
    refine XS.ifNo X0.here hx rfl (q 1 rfl) rfl (i0_ne_f rfl) ?_
    refine XS.iloadN X0.here hx rfl (q 2 rfl) rfl ?_
    refine XS.aloadN X0.here hx rfl (q 3 rfl) rfl rfl ?_
    exact Steps.refl _)
  obtain ⟨clu22, Aru22, -, Su22, Ngu22, -, -⟩ := id A
  have cl_u22 := X0.arraylength hx (by rw [e0]; exact Aru22.1) (State.isArrayOf_alike (hZ).alike Aru22.2.1) (g := (mkF m 6 #[sR a, sI 0, sI (Int32.ofNat bs.length)] [.ref a, .int (Int32.ofNat bs.length)])) rfl rfl (q 4 rfl) _ (Steps.refl _)
  rw [len_of Su22 Ngu22] at cl_u22
  have cc23 : oQ X0 S0' 13 #[sR a, sI 0, sI (Int32.ofNat bs.length)] [.int (Int32.ofNat bs.length), .int 0, .ref a] := Steps.trans (Steps.trans cc21 cl_u22) (by
    refine XS.icmpNo X0.here hx rfl (q 5 rfl) rfl (ii_eq_f (ne32 (b := 16) (by omega) (by decide) (by omega))) ?_
    refine XS.aloadN X0.here hx rfl (q 6 rfl) rfl rfl ?_
    refine XS.iloadN X0.here hx rfl (q 7 rfl) rfl ?_
    refine XS.iloadN X0.here hx rfl (q 8 rfl) rfl ?_
    exact Steps.refl _)
  obtain ⟨_, T24, L24, X24, ⟨t, kt, rfl, Nq24, Kq24, sq24, Aq24⟩, st24⟩ := oCT (y := yM72) X0 cc23 hx hZ hown hml (q 9 rfl) e0 (W 252 rfl) (W 253 rfl) (W 250 rfl) (W 254 rfl) (by decide) [.ref a, .int 0, .int (Int32.ofNat bs.length)] [] (lenOf own_pd33 rfl) (bO (own_crb0 l Z a0 hw a k bs h0 n0 Z0 A hb) hZ (W 254 rfl) (W 250 rfl))
  have N24 := Fr.app N0 Nq24
  have KK1 := KK0.trans Kq24 all0
  have Zs1 := Nat.le_trans Z0 Kq24.1
  have e24 : T24.heap = T24.heap := rfl
  have cc25 : oQ X24 S0' 16 #[sR a, sI 0, sI (Int32.ofNat bs.length)] [.ref t] := st24
  exact oRA X24 Bd cc25 (q 10 rfl) rfl (rfl) rfl e24 ⟨t, kt, rfl, N24, KK1, sq24, Aq24⟩
def Q_own_si2 (Z : State) (x b t : Addr) (kt : ClassId) (bs : List Int32) (z : Int32) (h0 : Heap) (n0 : Nat) (v : Option Value) (h : Heap) (L : List Loc) : Prop := v = none ∧ Fr n0 L ∧ Keep h0 h [x] ∧ own_Lat Z h x bs
theorem own_si2 (l : Launch) (Z : State) (a0 : Array Value) (hw : oH a0 Z) (x b t : Addr) (kt : ClassId) (bs : List Int32) (z : Int32) (h0 : Heap) (n0 : Nat) (Z0 : n0 ≤ h0.size) (X00 : Old Z n0 h0) (O2 : Sta Z Z.heap "java/lang/String" "COMPACT_STRINGS" "Z" (.int z)) (P5 : ¬ z = 0) (E : zE4 Z h0 x) (V : zF13 Z h0 x .null) (C : zF11 Z h0 x (.int (0 : Int32))) (gx : n0 ≤ x) (Eb : zE6 Z h0 b) (Cb : zF9 Z h0 b (.int (0 : Int32))) (Nb : zF10 Z h0 b (.int (Int32.ofNat bs.length))) (Vb : zF12 Z h0 b (.ref t)) (Ab : Arv Z h0 t kt .byte (16 : Int32) (own_by bs) (.int (0 : Int32))) (hp : ∀ c ∈ bs, ¬ c < 0 ∧ ¬ (255 : Int32) < c) (hb : bs.length < 16) :
    oC l yM74 (.code yM74 jdk_42_method_150_code 5 none) rM47 #[(.ref x), (.ref b), .null] Z h0 (Q_own_si2 Z x b t kt bs z h0 n0) := by
  refine oO (plainFor_of_name own_pn3) hisR fun p e s m below meth c s₁ S0' Bd hS hx dB hml hown hnm hZ X0 e0 => ?_
  have N0 := Fr.nil n0
  have KK0 := Keep.refl h0 [x]
  have cc0 : oQ X0 S0' 0 #[sR x, sR b, .val .null, uN, uN] [] := oE hS rfl
  have W := @own_w Z a0 hw
  have q := @dX _ _ c D_70 @dB
  have ne_x_t : x ≠ t := own_ne_arv E (W 5 rfl) Ab
  have ne_x_b : x ≠ b := ne_exa E Eb (by decide)
  have cc21 : oQ X0 S0' 1 #[sR x, sR b, .val .null, uN, uN] [.ref x] := Steps.trans cc0 (by
    refine XS.aloadN X0.here hx rfl (q 0 rfl) rfl rfl ?_
    exact Steps.refl _)
  obtain ⟨T22, X22, e22, st22⟩ := initO X0 hx hZ hown (W 15 rfl) (W 16 rfl) (W 17 rfl) e0 (g := (mkF m 1 #[sR x, sR b, .val .null, uN, uN] [.ref x])) rfl (by rw [hml]; rfl) rfl (q 1 rfl) (by decide) (W := 0) (by show 2 * 0 + _ ≤ _; exact Nat.le_of_eq rfl) (by decide)
  have cc23 : oQ X22 S0' 5 #[sR x, sR b, .val .null, uN, uN] [.ref b] := Steps.trans (cc21.trans (st22 _ (Steps.refl _))) (by
    refine XS.aloadN X22.here hx rfl (q 2 rfl) rfl rfl ?_
    exact Steps.refl _)
  obtain ⟨_, T24, L24, X24, ⟨rfl, Nq24, eq24⟩, st24⟩ := oCV (y := yM67) (z := yM67) X22 cc23 hx hZ hown hml (q 3 rfl) e22 Eb (W 227 rfl) (W 228 rfl) (notFace_of_selects (args := #[]) (mvT hZ (W 230 rfl))) (W 230 rfl) (W 229 rfl) (by decide) [] [] (lenOf own_pd34 rfl) (bO (own_gv l Z a0 hw b t h0 n0 Z0 Vb) hZ (W 231 rfl) (W 163 rfl))
  have N24 := Fr.app N0 Nq24
  have cc25 : oQ X24 S0' 10 #[sR x, sR b, .val .null, sR t, uN] [.ref b] := Steps.trans st24 (by
    refine XS.astoreN X24.here hx rfl (q 4 rfl) rfl rfl rfl ?_
    refine XS.aloadN X24.here hx rfl (q 5 rfl) rfl rfl ?_
    exact Steps.refl _)
  obtain ⟨_, T26, L26, X26, ⟨rfl, Nq26, eq26⟩, st26⟩ := oCV (y := yM68) (z := yM69) X24 cc25 hx hZ hown hml (q 6 rfl) eq24 Eb (W 232 rfl) (W 233 rfl) (own_nf hZ (W 230 rfl) rfl) (W 235 rfl) (W 236 rfl) (by decide) [] [] (lenOf own_pd20 rfl) (bO (own_sbl l Z a0 hw b (Int32.ofNat bs.length) h0 n0 Z0 Eb Nb) hZ (W 237 rfl) (W 155 rfl))
  have N26 := Fr.app N24 Nq26
  have cc27 : oQ X26 S0' 16 #[sR x, sR b, .val .null, sR t, sI (Int32.ofNat bs.length)] [.ref b] := Steps.trans st26 (by
    refine XS.istore X26.here hx rfl (q 7 rfl) rfl rfl ?_
    refine XS.aloadN X26.here hx rfl (q 8 rfl) rfl rfl ?_
    exact Steps.refl _)
  obtain ⟨_, T28, L28, X28, ⟨rfl, Nq28, eq28⟩, st28⟩ := oCV (y := yM70) (z := yM70) X26 cc27 hx hZ hown hml (q 9 rfl) eq26 Eb (W 243 rfl) (W 244 rfl) (notFace_of_selects (args := #[]) (mvT hZ (W 246 rfl))) (W 246 rfl) (W 245 rfl) (by decide) [] [] (lenOf own_pd17 rfl) (bO (own_sil l Z a0 hw b z h0 n0 Z0 X00 O2 P5 Cb) hZ (W 247 rfl) (W 163 rfl))
  have N28 := Fr.app N26 Nq28
  have cc29 : oQ X28 S0' 24 #[sR x, sR b, .val .null, sR t, sI (Int32.ofNat bs.length)] [.int 0, .ref x] := Steps.trans st28 (by
    refine XS.ifNo X28.here hx rfl (q 10 rfl) rfl (i0_eq_f (by decide)) ?_
    refine XS.aloadN X28.here hx rfl (q 11 rfl) rfl rfl ?_
    refine iconstV X28.here hx rfl 0 (q 12 rfl) (by decide) ?_
    exact Steps.refl _)
  obtain ⟨T30, h30, X30, e30, W30, st30⟩ := oPF X28 cc29 hx hZ hown (W 25 rfl) Via.refl eq28 C E (Or.inr ⟨(W 21 rfl), rfl, hnm⟩) (W 5 rfl) (ty := .byte) (v := (.int 0)) (v' := (.int (0 : Int32))) (by decide) rfl rfl (q 13 rfl)
  have K30 := Keep.of_wr W30
  have N30 := Fr.snoc X30 N28 gx
  have KK1 := KK0.trans K30 (allS (Or.inl (lM 0 rfl)) all0)
  have Zs1 := Nat.le_trans Z0 K30.1
  have cc32 : oQ X30 S0' 32 #[sR x, sR b, .val .null, sR t, sI (Int32.ofNat bs.length)] [.int (Int32.ofNat bs.length), .int 0, .ref t, .ref x] := Steps.trans st30 (by
    refine XS.aloadN X30.here hx rfl (q 14 rfl) rfl rfl ?_
    refine XS.aloadN X30.here hx rfl (q 15 rfl) rfl rfl ?_
    refine iconstV X30.here hx rfl 0 (q 16 rfl) (by decide) ?_
    refine XS.iload X30.here hx rfl (q 17 rfl) rfl ?_
    exact Steps.refl _)
  have fa31 := Ab.keep K30 (ninS (Ne.symm ne_x_t) nin0)
  obtain ⟨_, T33, L33, X33, ⟨u, ku, rfl, Nq33, Kq33, sq33, Aq33⟩, st33⟩ := oCT (y := yM73) X30 cc32 hx hZ hown hml (q 18 rfl) e30 (W 248 rfl) (W 249 rfl) (W 250 rfl) (W 251 rfl) (by decide) [.ref t, .int 0, .int (Int32.ofNat bs.length)] [.ref x] (lenOf own_pd33 rfl) (bO (own_cr0 l Z a0 hw t kt bs h30 n0 Zs1 fa31 hb) hZ (W 251 rfl) (W 250 rfl))
  have N33 := Fr.app N30 Nq33
  have b_u : h30.size ≤ u := sq33
  have gn_u := Nat.le_trans Zs1 b_u
  have s0_u := Nat.le_trans KK1.1 b_u
  have fa34 := E.keep K30
  have ne_x_u := oN fa34.lt b_u
  have fa35 := Eb.keep K30
  have ne_b_u := oN fa35.lt b_u
  have ne_t_u := oN fa31.lt b_u
  have KK2 := KK1.trans Kq33 all0
  have Zs2 := Nat.le_trans Zs1 Kq33.1
  have e33 : T33.heap = T33.heap := rfl
  have cc37 : oQ X33 S0' 35 #[sR x, sR b, .val .null, sR t, sI (Int32.ofNat bs.length)] [.ref u, .ref x] := st33
  have fa36 := (V.other W30 (Or.inr (slot_ne (Or.inr (W 20 rfl)) (Or.inr (W 21 rfl)) (by decide) (t := (.array .byte)) (t' := .byte) (by decide) (by decide)))).keep Kq33 nin0
  have fa38 := fa34.keep Kq33
  obtain ⟨T39, h39, X39, e39, W39, st39⟩ := oPF X33 cc37 hx hZ hown (W 24 rfl) Via.refl e33 fa36 fa38 (Or.inr ⟨(W 20 rfl), rfl, hnm⟩) (W 5 rfl) (ty := (.array .byte)) (by decide) rfl rfl (q 19 rfl)
  have K39 := Keep.of_wr W39
  have N39 := Fr.snoc X39 N33 gx
  have KK3 := KK2.trans K39 (allS (Or.inl (lM 0 rfl)) all0)
  have Zs3 := Nat.le_trans Zs2 K39.1
  have cc41 : oQ X39 S0' 97 #[sR x, sR b, .val .null, sR t, sI (Int32.ofNat bs.length)] [] := Steps.trans st39 (by
    refine XS.goto X39.here hx rfl (pc0 := 38) rfl (q 20 rfl) (by decide) rfl ?_
    exact Steps.refl _)
  have fa40 := fa38.keep K39
  have fa42 := ((Fld.same W30 C).keep Kq33 nin0).other W39 (Or.inr (slot_ne (Or.inr (W 21 rfl)) (Or.inr (W 20 rfl)) (by decide) (t := .byte) (t' := (.array .byte)) (by decide) (by decide)))
  have fa43 := Aq33.keep K39 (ninS (Ne.symm ne_x_u) nin0)
  exact oRV X39 Bd cc41 (q 21 rfl) rfl e39 ⟨rfl, N39, KK3, fa40, fa42, hp, by omega, u, ku, (Fld.same W39 fa36), fa43⟩
def Q_own_si1 (Z : State) (x b t : Addr) (kt : ClassId) (bs : List Int32) (z : Int32) (h0 : Heap) (n0 : Nat) (v : Option Value) (h : Heap) (L : List Loc) : Prop := v = none ∧ Fr n0 L ∧ Keep h0 h [x] ∧ own_Lat Z h x bs
theorem own_si1 (l : Launch) (Z : State) (a0 : Array Value) (hw : oH a0 Z) (x b t : Addr) (kt : ClassId) (bs : List Int32) (z : Int32) (h0 : Heap) (n0 : Nat) (Z0 : n0 ≤ h0.size) (X00 : Old Z n0 h0) (O2 : Sta Z Z.heap "java/lang/String" "COMPACT_STRINGS" "Z" (.int z)) (P5 : ¬ z = 0) (E : zE4 Z h0 x) (V : zF13 Z h0 x .null) (C : zF11 Z h0 x (.int (0 : Int32))) (gx : n0 ≤ x) (Eb : zE6 Z h0 b) (Cb : zF9 Z h0 b (.int (0 : Int32))) (Nb : zF10 Z h0 b (.int (Int32.ofNat bs.length))) (Vb : zF12 Z h0 b (.ref t)) (Ab : Arv Z h0 t kt .byte (16 : Int32) (own_by bs) (.int (0 : Int32))) (hp : ∀ c ∈ bs, ¬ c < 0 ∧ ¬ (255 : Int32) < c) (hb : bs.length < 16) :
    oC l yM75 (.code yM75 jdk_42_method_53_code 2 none) rM48 #[(.ref x), (.ref b)] Z h0 (Q_own_si1 Z x b t kt bs z h0 n0) := by
  refine oO (plainFor_of_name own_pn3) hisR fun p e s m below meth c s₁ S0' Bd hS hx dB hml hown hnm hZ X0 e0 => ?_
  have N0 := Fr.nil n0
  have KK0 := Keep.refl h0 [x]
  have cc0 : oQ X0 S0' 0 #[sR x, sR b] [] := oE hS rfl
  have W := @own_w Z a0 hw
  have q := @dX _ _ c D_71 @dB
  have cc21 : oQ X0 S0' 3 #[sR x, sR b] [.null, .ref b, .ref x] := Steps.trans cc0 (by
    refine XS.aloadN X0.here hx rfl (q 0 rfl) rfl rfl ?_
    refine XS.aloadN X0.here hx rfl (q 1 rfl) rfl rfl ?_
    refine XS.aconstNull X0.here hx rfl (q 2 rfl) ?_
    exact Steps.refl _)
  obtain ⟨_, T22, L22, X22, ⟨rfl, Nq22, Kq22, Hq22⟩, st22⟩ := oCN (y := yM74) X0 cc21 hx hZ hown hml (q 3 rfl) e0 x rfl (W 224 rfl) (W 225 rfl) (W 226 rfl) (by decide) [.ref b, .null] [] (lenOf own_pd35 rfl) (bO (own_si2 l Z a0 hw x b t kt bs z h0 n0 Z0 X00 O2 P5 E V C gx Eb Cb Nb Vb Ab hp hb) hZ (W 226 rfl) (W 6 rfl))
  have N22 := Fr.app N0 Nq22
  have KK1 := KK0.trans Kq22 (allS (Or.inl (lM 0 rfl)) all0)
  have Zs1 := Nat.le_trans Z0 Kq22.1
  have e22 : T22.heap = T22.heap := rfl
  have cc23 : oQ X22 S0' 6 #[sR x, sR b] [] := st22
  exact oRV X22 Bd cc23 (q 4 rfl) rfl e22 ⟨rfl, N22, KK1, Hq22⟩
def Q_own_tos (Z : State) (b t : Addr) (kt : ClassId) (bs : List Int32) (z : Int32) (h0 : Heap) (n0 : Nat) (v : Option Value) (h : Heap) (L : List Loc) : Prop := ∃ x : Addr, v = some (.ref x) ∧ Fr n0 L ∧ Keep h0 h [] ∧ h0.size ≤ x ∧ own_Lat Z h x bs
theorem own_tos (l : Launch) (Z : State) (a0 : Array Value) (hw : oH a0 Z) (b t : Addr) (kt : ClassId) (bs : List Int32) (z : Int32) (h0 : Heap) (n0 : Nat) (Z0 : n0 ≤ h0.size) (X00 : Old Z n0 h0) (O2 : Sta Z Z.heap "java/lang/String" "COMPACT_STRINGS" "Z" (.int z)) (P5 : ¬ z = 0) (E : zE6 Z h0 b) (C : zF9 Z h0 b (.int (0 : Int32))) (N : zF10 Z h0 b (.int (Int32.ofNat bs.length))) (V : zF12 Z h0 b (.ref t)) (A : Arv Z h0 t kt .byte (16 : Int32) (own_by bs) (.int (0 : Int32))) (hp : ∀ c ∈ bs, ¬ c < 0 ∧ ¬ (255 : Int32) < c) (hb : bs.length < 16) :
    oC l yM76 (.code yM76 jdk_67_method_42_code 1 (some (.object "java/lang/String"))) rM49 #[(.ref b)] Z h0 (Q_own_tos Z b t kt bs z h0 n0) := by
  refine oO (plainFor_of_name own_pn22) hisR fun p e s m below meth c s₁ S0' Bd hS hx dB hml hown hnm hZ X0 e0 => ?_
  have N0 := Fr.nil n0
  have KK0 := Keep.refl h0 ([] : List Addr)
  have cc0 : oQ X0 S0' 0 #[sR b] [] := oE hS rfl
  have W := @own_w Z a0 hw
  have q := @dX _ _ c D_72 @dB
  obtain ⟨T21, h21, X21, e21, E21, A21, D21, -, st21⟩ := newO X0 hx hZ hown (W 220 rfl) (W 5 rfl) (W 6 rfl) e0 (g := (mkF m 0 #[sR b] [])) rfl (q 0 rfl) (by decide) (by decide)
  obtain ⟨x, g_x⟩ : ∃ z, z = h0.size := ⟨_, rfl⟩
  rw [← g_x] at A21 D21 st21
  have K21 := (Keep.refl h0 ([] : List Addr)).ext E21
  have b_x : h0.size ≤ x := (Nat.le_of_eq g_x.symm)
  have gn_x := Nat.le_trans Z0 b_x
  have s0_x := Nat.le_trans KK0.1 b_x
  have ne_b_x := oN E.lt b_x
  have ne_t_x := oN A.lt b_x
  have KK1 := KK0.trans K21 all0
  have Zs1 := Nat.le_trans Z0 K21.1
  have F_value_x : zF13 Z h21 x .null := D21 (Or.inr (W 20 rfl)) (ty := (.array .byte)) (by decide)
  have F_coder_x : zF11 Z h21 x (.int (0 : Int32)) := D21 (Or.inr (W 21 rfl)) (ty := .byte) (by decide)
  have cc23 : oQ X21 S0' 5 #[sR b] [.ref b, .ref x, .ref x] := Steps.trans (cc0.trans (st21 _ (Steps.refl _))) (by
    refine XS.dup X21.here hx rfl (q 1 rfl) rfl rfl ?_
    refine XS.aloadN X21.here hx rfl (q 2 rfl) rfl rfl ?_
    exact Steps.refl _)
  have fa22 := X00.keep K21 all0
  have fa24 := E.keep K21
  have fa25 := C.keep K21 nin0
  have fa26 := N.keep K21 nin0
  have fa27 := V.keep K21 nin0
  have fa28 := A.keep K21 nin0
  obtain ⟨_, T29, L29, X29, ⟨rfl, Nq29, Kq29, Hq29⟩, st29⟩ := oCN (y := yM75) X21 cc23 hx hZ hown hml (q 3 rfl) e21 x rfl (W 221 rfl) (W 222 rfl) (W 223 rfl) (by decide) [.ref b] [.ref x] (lenOf own_pd36 rfl) (bO (own_si1 l Z a0 hw x b t kt bs z h21 n0 Zs1 fa22 O2 P5 A21 F_value_x F_coder_x gn_x fa24 fa25 fa26 fa27 fa28 hp hb) hZ (W 223 rfl) (W 6 rfl))
  have N29 := Fr.app N0 Nq29
  have KK2 := KK1.trans Kq29 (allS (Or.inr s0_x) all0)
  have Zs2 := Nat.le_trans Zs1 Kq29.1
  have e29 : T29.heap = T29.heap := rfl
  have cc30 : oQ X29 S0' 8 #[sR b] [.ref x] := st29
  exact oRA X29 Bd cc30 (q 4 rfl) rfl (rfl) rfl e29 ⟨x, rfl, N29, KK2, s0_x, Hq29⟩
/-- the texts of the parts behind acc, if every part is a Text -/
def own_all : List Int32 → List (Option (List Int32)) → Option (List Int32)
  | acc, [] => some acc
  | _, none :: _ => none
  | acc, some cs :: r => own_all (acc ++ cs) r
def own_Opt (Z : State) (h : Heap) (o : Addr) (q : Option (List Int32)) : Prop := zE7 Z h o ∧ ((q = none ∧ zF15 Z h o .null) ∨ ∃ (cs : List Int32) (x : Addr), q = some cs ∧ zF15 Z h o (.ref x) ∧ own_Lat Z h x cs)
theorem own_P.part {Z : State} {a0 : Array Value} (hw : ∀ d ∈ tables_1, d.before a0 Z = true) {h : Heap} {m : Nat} {u : Addr} {o : Option (List Int32)} (H : own_P Z h m u o) : Ins Z h u "com/example/ontology_over_tables/ontologyovertables/mapping/TriplesMap$TermMap$Part" true := by
  obtain ⟨h1, ⟨h2, E⟩ | ⟨cs, x, h2, h3, E, -, -⟩⟩ := H
  · exact Ins.of_exa E (own_w hw 454 rfl)
  · exact Ins.of_exa E (own_w hw 400 rfl)
theorem own_lapp {bs cs : List Int32} (h1 : ∀ c ∈ bs, ¬ c < 0 ∧ ¬ (255 : Int32) < c) (h2 : ∀ c ∈ cs, ¬ c < 0 ∧ ¬ (255 : Int32) < c) : ∀ c ∈ bs ++ cs, ¬ c < 0 ∧ ¬ (255 : Int32) < c := fun c hc => (List.mem_append.mp hc).elim (h1 c) (h2 c)
def Q_own_ct0 (Z : State) (tm : Addr) (y g : Addr) (kg : ClassId) (oe : Addr) (z : Int32) (mm : Nat) (h0 : Heap) (n0 : Nat) (v : Option Value) (h : Heap) (L : List Loc) : Prop := ∃ o : Addr, v = some (.ref o) ∧ Fr n0 L ∧ Keep h0 h [] ∧ own_Opt Z h o (own_all [] [])
theorem own_ct0 (l : Launch) (Z : State) (a0 : Array Value) (hw : oH a0 Z) (tm : Addr) (y g : Addr) (kg : ClassId) (oe : Addr) (z : Int32) (mm : Nat) (h0 : Heap) (n0 : Nat) (Z0 : n0 ≤ h0.size) (X00 : Old Z n0 h0) (O2 : Sta Z Z.heap "java/lang/String" "COMPACT_STRINGS" "Z" (.int z)) (P5 : ¬ z = 0) (Fp : zF14 Z h0 tm (.ref y)) (R1 : zE3 Z h0 y) (R2 : zF8 Z h0 y (.ref g)) (R3 : Arv Z h0 g kg (.object "java/lang/Object") (0 : Int32) [] .null) (OO : Sta Z Z.heap "java/util/Optional" "EMPTY" "Ljava/util/Optional;" (.ref oe)) (EO : zE7 Z Z.heap oe) (FO : zF15 Z Z.heap oe .null)  (hm : mm ≤ h0.size) :
    oC l yM79 (.code yM79 prog_18_method_3_code 5 (some (.object "java/util/Optional"))) rM50 #[(.ref tm)] Z h0 (Q_own_ct0 Z tm y g kg oe z mm h0 n0) := by
  refine oO (plainFor_of_name own_pn17) hisR fun p e s m below meth c s₁ S0' Bd hS hx dB hml hown hnm hZ X0 e0 => ?_
  have N0 := Fr.nil n0
  have KK0 := Keep.refl h0 ([] : List Addr)
  have cc0 : oQ X0 S0' 0 #[sR tm, uN, uN, uN, uN] [] := oE hS rfl
  have W := @own_w Z a0 hw
  have q := @dX _ _ c D_73 @dB
  obtain ⟨T21, h21, X21, e21, E21, A21, D21, -, st21⟩ := newO X0 hx hZ hown (W 153 rfl) (W 154 rfl) (W 155 rfl) e0 (g := (mkF m 0 #[sR tm, uN, uN, uN, uN] [])) rfl (q 0 rfl) (by decide) (by decide)
  obtain ⟨b, g_b⟩ : ∃ z, z = h0.size := ⟨_, rfl⟩
  rw [← g_b] at A21 D21 st21
  have K21 := (Keep.refl h0 ([] : List Addr)).ext E21
  have b_b : h0.size ≤ b := (Nat.le_of_eq g_b.symm)
  have gn_b := Nat.le_trans Z0 b_b
  have s0_b := Nat.le_trans KK0.1 b_b
  have ml_b := Nat.le_trans hm b_b
  have ne_tm_b := oN Fp.lt b_b
  have ne_y_b := oN R1.lt b_b
  have ne_g_b := oN R3.lt b_b
  have KK1 := KK0.trans K21 all0
  have Zs1 := Nat.le_trans Z0 K21.1
  have Ms1 := Nat.le_trans hm K21.1
  have F_value_b : zF12 Z h21 b .null := D21 (Or.inl (W 168 rfl)) (ty := (.array .byte)) (by decide)
  have F_coder_b : zF9 Z h21 b (.int (0 : Int32)) := D21 (Or.inl (W 170 rfl)) (ty := .byte) (by decide)
  have F_count_b : zF10 Z h21 b (.int (0 : Int32)) := D21 (Or.inl (W 242 rfl)) (ty := .int) (by decide)
  have cc23 : oQ X21 S0' 4 #[sR tm, uN, uN, uN, uN] [.ref b, .ref b] := Steps.trans (cc0.trans (st21 _ (Steps.refl _))) (by
    refine XS.dup X21.here hx rfl (q 1 rfl) rfl rfl ?_
    exact Steps.refl _)
  have fa22 := X00.keep K21 all0
  obtain ⟨_, T24, L24, X24, ⟨t, kt, rfl, Nq24, Kq24, sq24, f124, f224, f324, f424⟩, st24⟩ := oCN (y := yM60) X21 cc23 hx hZ hown hml (q 2 rfl) e21 b rfl (W 156 rfl) (W 157 rfl) (W 158 rfl) (by decide) [] [.ref b] (lenOf own_pd4 rfl) (bO (own_sb0 l Z a0 hw b z h21 n0 Zs1 fa22 O2 P5 A21 F_value_b F_coder_b F_count_b gn_b) hZ (W 158 rfl) (W 155 rfl))
  have N24 := Fr.app N0 Nq24
  have b_t : h21.size ≤ t := sq24
  have gn_t := Nat.le_trans Zs1 b_t
  have s0_t := Nat.le_trans KK1.1 b_t
  have ml_t := Nat.le_trans Ms1 b_t
  have fa25 := Fp.keep K21 nin0
  have ne_tm_t := oN fa25.lt b_t
  have fa26 := R1.keep K21
  have ne_y_t := oN fa26.lt b_t
  have fa27 := R3.keep K21 nin0
  have ne_g_t := oN fa27.lt b_t
  have ne_b_t := oN A21.lt b_t
  have KK2 := KK1.trans Kq24 (allS (Or.inr s0_b) all0)
  have Zs2 := Nat.le_trans Zs1 Kq24.1
  have Ms2 := Nat.le_trans Ms1 Kq24.1
  have e24 : T24.heap = T24.heap := rfl
  have cc29 : oQ X24 S0' 7 #[sR tm, uN, uN, uN, uN] [.ref b] := st24
  have fa28 := A21.keep Kq24
  have hp0 : ∀ c' ∈ ([] : List Int32), ¬ c' < 0 ∧ ¬ (255 : Int32) < c' := by simp
  have cc31 : oQ X24 S0' 9 #[sR tm, sR b, uN, uN, uN] [.ref tm] := Steps.trans cc29 (by
    refine XS.astoreN X24.here hx rfl (q 3 rfl) rfl rfl rfl ?_
    refine XS.aloadN X24.here hx rfl (q 4 rfl) rfl rfl ?_
    exact Steps.refl _)
  have fa30 := fa25.keep Kq24 (ninS ne_tm_b nin0)
  obtain ⟨T32, X32, e32, st32⟩ := oGF X24 cc31 hx hZ hown (W 142 rfl) Via.refl e24 fa30 (q 5 rfl)
  have cc34 : oQ X32 S0' 12 #[sR tm, sR b, uN, uN, uN] [.ref y] := st32
  have fa33 := fa26.keep Kq24
  have fa35 := (R2.keep K21 nin0).keep Kq24 (ninS ne_y_b nin0)
  have fa36 := fa27.keep Kq24 (ninS ne_g_b nin0)
  obtain ⟨_, T37, L37, X37, ⟨it, rfl, Nq37, Kq37, sq37, Ei37, G137, G237, G337⟩, st37⟩ := oCI (y := yM77) (z := yM43) X32 cc34 hx hZ hown hml (q 6 rfl) e32 fa33 (W 171 rfl) (W 172 rfl) (mvT hZ (W 173 rfl)) (W 174 rfl) (W 175 rfl) (W 176 rfl) (W 177 rfl) (W 178 rfl) (by decide) [] [] (lenOf own_pd37 rfl) (bO (own_it0 l Z a0 hw y g kg T24.heap n0 Zs2 fa33 fa35 fa36) hZ (W 180 rfl) (W 179 rfl))
  have N37 := Fr.app N24 Nq37
  have b_it : T24.heap.size ≤ it := sq37
  have gn_it := Nat.le_trans Zs2 b_it
  have s0_it := Nat.le_trans KK2.1 b_it
  have ml_it := Nat.le_trans Ms2 b_it
  have ne_tm_it := oN fa30.lt b_it
  have ne_y_it := oN fa33.lt b_it
  have ne_g_it := oN fa36.lt b_it
  have ne_b_it := oN fa28.lt b_it
  have ne_t_it := oN f424.lt b_it
  have KK3 := KK2.trans Kq37 all0
  have Zs3 := Nat.le_trans Zs2 Kq37.1
  have Ms3 := Nat.le_trans Ms2 Kq37.1
  have e37 : T37.heap = T37.heap := rfl
  have cc38 : oQ X37 S0' 19 #[sR tm, sR b, sR it, uN, uN] [.ref it] := Steps.trans st37 (by
    refine XS.astoreN X37.here hx rfl (q 7 rfl) rfl rfl rfl ?_
    refine XS.aloadN X37.here hx rfl (q 8 rfl) rfl rfl ?_
    exact Steps.refl _)
  obtain ⟨_, T39, L39, X39, ⟨rfl, Nq39, eq39⟩, st39⟩ := oCI (y := yM78) (z := yM44) X37 cc38 hx hZ hown hml (q 9 rfl) e37 Ei37 (W 206 rfl) (W 207 rfl) (mvT hZ (W 208 rfl)) (W 209 rfl) (W 210 rfl) (W 211 rfl) (W 212 rfl) (W 213 rfl) (by decide) [] [] (lenOf own_pd17 rfl) (bO (own_hn0 l Z a0 hw it 0 0 T37.heap n0 Zs3 G237 G337 rfl) hZ (W 214 rfl) (W 183 rfl))
  have N39 := Fr.app N37 Nq39
  have cc41 : oQ X39 S0' 71 #[sR tm, sR b, sR it, uN, uN] [.ref b] := Steps.trans st39 (by
    refine XS.ifYes X39.here hx rfl (pc0 := 24) rfl (q 10 rfl) rfl (i0_eq_t rfl) (by decide) rfl ?_
    refine XS.aloadN X39.here hx rfl (q 11 rfl) rfl rfl ?_
    exact Steps.refl _)
  have fa40 := (fa22.keep Kq24 (allS gn_b all0)).keep Kq37 all0
  have fa42 := fa28.keep Kq37
  have fa43 := f124.keep Kq37 nin0
  have fa44 := f224.keep Kq37 nin0
  have fa45 := f324.keep Kq37 nin0
  have fa46 := f424.keep Kq37 nin0
  obtain ⟨_, T47, L47, X47, ⟨x, rfl, Nq47, Kq47, sq47, Hx⟩, st47⟩ := oCV (y := yM76) (z := yM76) X39 cc41 hx hZ hown hml (q 12 rfl) eq39 fa42 (W 215 rfl) (W 216 rfl) (notFace_of_selects (args := #[]) (mvT hZ (W 218 rfl))) (W 218 rfl) (W 217 rfl) (by decide) [] [] (lenOf own_pd38 rfl) (bO (own_tos l Z a0 hw b t kt ([] : List Int32) z T37.heap n0 Zs3 fa40 O2 P5 fa42 fa43 fa44 fa45 fa46 hp0 (by simp)) hZ (W 219 rfl) (W 155 rfl))
  have N47 := Fr.app N39 Nq47
  have KK4 := KK3.trans Kq47 all0
  have Zs4 := Nat.le_trans Zs3 Kq47.1
  have Ms4 := Nat.le_trans Ms3 Kq47.1
  have e47 : T47.heap = T47.heap := rfl
  have cc48 : oQ X47 S0' 74 #[sR tm, sR b, sR it, uN, uN] [.ref x] := st47
  obtain ⟨_, T49, L49, X49, ⟨o, rfl, Nq49, Kq49, Eo, Fo⟩, st49⟩ := oCT (y := yM50) X47 cc48 hx hZ hown hml (q 13 rfl) e47 (W 266 rfl) (W 267 rfl) (W 268 rfl) (W 269 rfl) (by decide) [.ref x] [] (lenOf own_pd39 rfl) (bO (own_opo l Z a0 hw x T47.heap n0 Zs4 ) hZ (W 269 rfl) (W 268 rfl))
  have N49 := Fr.app N47 Nq49
  have KK5 := KK4.trans Kq49 all0
  have Zs5 := Nat.le_trans Zs4 Kq49.1
  have Ms5 := Nat.le_trans Ms4 Kq49.1
  have e49 : T49.heap = T49.heap := rfl
  have cc50 : oQ X49 S0' 77 #[sR tm, sR b, sR it, uN, uN] [.ref o] := st49
  exact oRA X49 Bd cc50 (q 14 rfl) rfl (rfl) rfl e49 ⟨o, rfl, N49, KK5, Eo, Or.inr ⟨_, x, rfl, Fo, Hx.keep0 Kq49⟩⟩
def Q_own_ct1 (Z : State) (tm : Addr) (y : Addr) (u0 : Addr) (em : Addr) (oe : Addr) (z : Int32) (mm : Nat) (o0 : Option (List Int32)) (h0 : Heap) (n0 : Nat) (v : Option Value) (h : Heap) (L : List Loc) : Prop := ∃ o : Addr, v = some (.ref o) ∧ Fr n0 L ∧ Keep h0 h [] ∧ own_Opt Z h o (own_all [] [o0])
theorem own_ct1 (l : Launch) (Z : State) (a0 : Array Value) (hw : oH a0 Z) (tm : Addr) (y : Addr) (u0 : Addr) (em : Addr) (oe : Addr) (z : Int32) (mm : Nat) (o0 : Option (List Int32)) (h0 : Heap) (n0 : Nat) (Z0 : n0 ≤ h0.size) (X00 : Old Z n0 h0) (O2 : Sta Z Z.heap "java/lang/String" "COMPACT_STRINGS" "Z" (.int z)) (P5 : ¬ z = 0) (Fp : zF14 Z h0 tm (.ref y)) (R1 : zE2 Z h0 y) (R2 : zF3 Z h0 y (.ref u0)) (R3 : zF4 Z h0 y (.ref em)) (OE : Sta Z Z.heap "java/util/ImmutableCollections" "EMPTY" "Ljava/lang/Object;" (.ref em)) (OO : Sta Z Z.heap "java/util/Optional" "EMPTY" "Ljava/util/Optional;" (.ref oe)) (EO : zE7 Z Z.heap oe) (FO : zF15 Z Z.heap oe .null) (P0 : own_P Z h0 mm u0 o0) (hm : mm ≤ h0.size) :
    oC l yM79 (.code yM79 prog_18_method_3_code 5 (some (.object "java/util/Optional"))) rM50 #[(.ref tm)] Z h0 (Q_own_ct1 Z tm y u0 em oe z mm o0 h0 n0) := by
  refine oO (plainFor_of_name own_pn17) hisR fun p e s m below meth c s₁ S0' Bd hS hx dB hml hown hnm hZ X0 e0 => ?_
  have N0 := Fr.nil n0
  have KK0 := Keep.refl h0 ([] : List Addr)
  have cc0 : oQ X0 S0' 0 #[sR tm, uN, uN, uN, uN] [] := oE hS rfl
  have W := @own_w Z a0 hw
  have q := @dX _ _ c D_73 @dB
  have w_155 := W 155 rfl
  have w_268 := W 268 rfl
  obtain ⟨T21, h21, X21, e21, E21, A21, D21, -, st21⟩ := newO X0 hx hZ hown (W 153 rfl) (W 154 rfl) w_155 e0 (g := (mkF m 0 #[sR tm, uN, uN, uN, uN] [])) rfl (q 0 rfl) (by decide) (by decide)
  obtain ⟨b, g_b⟩ : ∃ z, z = h0.size := ⟨_, rfl⟩
  rw [← g_b] at A21 D21 st21
  have K21 := (Keep.refl h0 ([] : List Addr)).ext E21
  have b_b : h0.size ≤ b := (Nat.le_of_eq g_b.symm)
  have gn_b := Nat.le_trans Z0 b_b
  have s0_b := Nat.le_trans KK0.1 b_b
  have ml_b := Nat.le_trans hm b_b
  have ne_tm_b := oN Fp.lt b_b
  have ne_y_b := oN R1.lt b_b
  have KK1 := KK0.trans K21 all0
  have Zs1 := Nat.le_trans Z0 K21.1
  have Ms1 := Nat.le_trans hm K21.1
  have F_value_b : zF12 Z h21 b .null := D21 (Or.inl (W 168 rfl)) (ty := (.array .byte)) (by decide)
  have F_coder_b : zF9 Z h21 b (.int (0 : Int32)) := D21 (Or.inl (W 170 rfl)) (ty := .byte) (by decide)
  have F_count_b : zF10 Z h21 b (.int (0 : Int32)) := D21 (Or.inl (W 242 rfl)) (ty := .int) (by decide)
  have cc23 : oQ X21 S0' 4 #[sR tm, uN, uN, uN, uN] [.ref b, .ref b] := Steps.trans (cc0.trans (st21 _ (Steps.refl _))) (by
    refine XS.dup X21.here hx rfl (q 1 rfl) rfl rfl ?_
    exact Steps.refl _)
  have fa22 := X00.keep K21 all0
  obtain ⟨_, T24, L24, X24, ⟨t, kt, rfl, Nq24, Kq24, sq24, f124, f224, f324, f424⟩, st24⟩ := oCN (y := yM60) X21 cc23 hx hZ hown hml (q 2 rfl) e21 b rfl (W 156 rfl) (W 157 rfl) (W 158 rfl) (by decide) [] [.ref b] (lenOf own_pd4 rfl) (bO (own_sb0 l Z a0 hw b z h21 n0 Zs1 fa22 O2 P5 A21 F_value_b F_coder_b F_count_b gn_b) hZ (W 158 rfl) w_155)
  have N24 := Fr.app N0 Nq24
  have b_t : h21.size ≤ t := sq24
  have gn_t := Nat.le_trans Zs1 b_t
  have s0_t := Nat.le_trans KK1.1 b_t
  have ml_t := Nat.le_trans Ms1 b_t
  have fa25 := Fp.keep K21 nin0
  have ne_tm_t := oN fa25.lt b_t
  have fa26 := R1.keep K21
  have ne_y_t := oN fa26.lt b_t
  have ne_b_t := oN A21.lt b_t
  have KK2 := KK1.trans Kq24 (allS (Or.inr s0_b) all0)
  have Zs2 := Nat.le_trans Zs1 Kq24.1
  have Ms2 := Nat.le_trans Ms1 Kq24.1
  have e24 : T24.heap = T24.heap := rfl
  have cc28 : oQ X24 S0' 7 #[sR tm, uN, uN, uN, uN] [.ref b] := st24
  have fa27 := A21.keep Kq24
  have hp0 : ∀ c' ∈ ([] : List Int32), ¬ c' < 0 ∧ ¬ (255 : Int32) < c' := by simp
  have cc30 : oQ X24 S0' 9 #[sR tm, sR b, uN, uN, uN] [.ref tm] := Steps.trans cc28 (by
    refine XS.astoreN X24.here hx rfl (q 3 rfl) rfl rfl rfl ?_
    refine XS.aloadN X24.here hx rfl (q 4 rfl) rfl rfl ?_
    exact Steps.refl _)
  have fa29 := fa25.keep Kq24 (ninS ne_tm_b nin0)
  obtain ⟨T31, X31, e31, st31⟩ := oGF X24 cc30 hx hZ hown (W 142 rfl) Via.refl e24 fa29 (q 5 rfl)
  have cc33 : oQ X31 S0' 12 #[sR tm, sR b, uN, uN, uN] [.ref y] := st31
  have fa32 := fa26.keep Kq24
  have fa34 := (R2.keep K21 nin0).keep Kq24 (ninS ne_y_b nin0)
  have fa35 := (R3.keep K21 nin0).keep Kq24 (ninS ne_y_b nin0)
  have fa36 := fa22.keep Kq24 (allS gn_b all0)
  obtain ⟨_, T37, L37, X37, ⟨it, rfl, Nq37, Kq37, sq37, Ei37, G137, G237, G337⟩, st37⟩ := oCI (y := yM77) (z := yM43) X31 cc33 hx hZ hown hml (q 6 rfl) e31 fa32 (W 171 rfl) (W 172 rfl) (mvT hZ (W 173 rfl)) (W 477 rfl) (W 175 rfl) (W 176 rfl) (W 478 rfl) (W 479 rfl) (by decide) [] [] (lenOf own_pd37 rfl) (bO (own_it1 l Z a0 hw y u0 em T24.heap n0 Zs2 fa32 fa34 fa35 fa36 OE) hZ (W 180 rfl) (W 179 rfl))
  have N37 := Fr.app N24 Nq37
  have b_it : T24.heap.size ≤ it := sq37
  have gn_it := Nat.le_trans Zs2 b_it
  have s0_it := Nat.le_trans KK2.1 b_it
  have ml_it := Nat.le_trans Ms2 b_it
  have ne_tm_it := oN fa29.lt b_it
  have ne_y_it := oN fa32.lt b_it
  have ne_b_it := oN fa27.lt b_it
  have ne_t_it := oN f424.lt b_it
  have KK3 := KK2.trans Kq37 all0
  have Zs3 := Nat.le_trans Zs2 Kq37.1
  have Ms3 := Nat.le_trans Ms2 Kq37.1
  have e37 : T37.heap = T37.heap := rfl
  have cc38 : oQ X37 S0' 19 #[sR tm, sR b, sR it, uN, uN] [.ref it] := Steps.trans st37 (by
    refine XS.astoreN X37.here hx rfl (q 7 rfl) rfl rfl rfl ?_
    refine XS.aloadN X37.here hx rfl (q 8 rfl) rfl rfl ?_
    exact Steps.refl _)
  obtain ⟨_, T39, L39, X39, ⟨rfl, Nq39, eq39⟩, st39⟩ := oCI (y := yM78) (z := yM44) X37 cc38 hx hZ hown hml (q 9 rfl) e37 Ei37 (W 206 rfl) (W 207 rfl) (mvT hZ (W 208 rfl)) (W 209 rfl) (W 210 rfl) (W 211 rfl) (W 212 rfl) (W 213 rfl) (by decide) [] [] (lenOf own_pd17 rfl) (bO (own_hn1 l Z a0 hw it 0 1 T37.heap n0 Zs3 G237 G337 (by decide)) hZ (W 214 rfl) (W 183 rfl))
  have N39 := Fr.app N37 Nq39
  have cc41 : oQ X39 S0' 28 #[sR tm, sR b, sR it, uN, uN] [.ref it] := Steps.trans st39 (by
    refine XS.ifNo X39.here hx rfl (q 10 rfl) rfl (i0_eq_f (by decide)) ?_
    refine XS.aloadN X39.here hx rfl (q 15 rfl) rfl rfl ?_
    exact Steps.refl _)
  have fa40 := fa32.keep Kq37
  have fa42 := fa34.keep Kq37 nin0
  have fa43 := fa35.keep Kq37 nin0
  have fa44 := fa36.keep Kq37 all0
  obtain ⟨_, T45, L45, X45, ⟨rfl, Nq45, Kq45, G145, G245, G345⟩, st45⟩ := oCI (y := yM80) (z := yM47) X39 cc41 hx hZ hown hml (q 16 rfl) eq39 Ei37 (W 383 rfl) (W 384 rfl) (mvT hZ (W 385 rfl)) (W 386 rfl) (W 387 rfl) (W 388 rfl) (W 389 rfl) (W 213 rfl) (by decide) [] [] (lenOf own_pd40 rfl) (bW (own_nx1_0 l Z a0 hw it y u0 em T37.heap n0 Zs3 Ei37 G137 G237 G337 gn_it fa40 fa42 fa43 fa44 OE) hZ (W 390 rfl) (W 183 rfl))
  have N45 := Fr.app N39 Nq45
  have KK4 := KK3.trans Kq45 (allS (Or.inr s0_it) all0)
  have Zs4 := Nat.le_trans Zs3 Kq45.1
  have Ms4 := Nat.le_trans Ms3 Kq45.1
  have e45 : T45.heap = T45.heap := rfl
  have cc47 : oQ X45 S0' 33 #[sR tm, sR b, sR it, uN, uN] [.ref u0] := st45
  have fa46 := (((P0.up K21 all0).up Kq24 (allS ml_b all0)).up Kq37 all0).up Kq45 (allS ml_it all0)
  obtain ⟨T48, X48, e48, st48⟩ := castY X45 hx hZ hown (W 399 rfl) e45 (own_P.part hw fa46) (g := (mkF m 33 #[sR tm, sR b, sR it, uN, uN] [.ref u0])) rfl rfl (q 17 rfl)
  have cc49 : oQ X48 S0' 38 #[sR tm, sR b, sR it, sR u0, uN] [.ref u0] := Steps.trans (cc47.trans (st48 _ (Steps.refl _))) (by
    refine XS.astoreN X48.here hx rfl (q 18 rfl) rfl rfl rfl ?_
    refine XS.aloadN X48.here hx rfl (q 19 rfl) rfl rfl ?_
    exact Steps.refl _)
  have fa50 := Ei37.keep Kq45
  rcases fa46 with ⟨lu0, ⟨rfl, Ec0⟩ | ⟨cs0, x0, rfl, hl0, Ec0, Fx0, Lx0⟩⟩
  · skip
    obtain ⟨T51, X51, e51, st51⟩ := instNo X48 hx hZ hown (W 401 rfl) e48 Ec0 (own_notx hw) (g := (mkF m 38 #[sR tm, sR b, sR it, sR u0, uN] [.ref u0])) rfl rfl (q 20 rfl)
    have cc53 : oQ X51 S0' 63 #[sR tm, sR b, sR it, sR u0, uN] [] := Steps.trans (cc49.trans (st51 _ (Steps.refl _))) (by
      refine XS.ifYes X51.here hx rfl (pc0 := 41) rfl (q 21 rfl) rfl (i0_eq_t rfl) (by decide) rfl ?_
      exact Steps.refl _)
    have fa52 := fa44.keep Kq45 (allS gn_it all0)
    obtain ⟨_, T54, L54, X54, ⟨rfl, Nq54, eq54⟩, st54⟩ := oCT (y := yM51) X51 cc53 hx hZ hown hml (q 22 rfl) e51 (W 457 rfl) (W 458 rfl) w_268 (W 459 rfl) (by decide) [] [] (lenOf own_pd41 rfl) (bO (own_ope l Z a0 hw oe T45.heap n0 Zs4 fa52 OO) hZ (W 459 rfl) w_268)
    have N54 := Fr.app N45 Nq54
    have cc55 : oQ X54 S0' 66 #[sR tm, sR b, sR it, sR u0, uN] [.ref oe] := st54
    exact oRA X54 Bd cc55 (q 23 rfl) rfl (rfl) rfl eq54 ⟨oe, rfl, N54, KK4, EO.ext fa52.2, Or.inl ⟨rfl, FO.ext fa52.2⟩⟩
  · skip
    obtain ⟨T51, X51, e51, st51⟩ := instY X48 hx hZ hown (W 401 rfl) e48 (Ins.self Ec0) (g := (mkF m 38 #[sR tm, sR b, sR it, sR u0, uN] [.ref u0])) rfl rfl (q 20 rfl)
    have cc52 : oQ X51 S0' 45 #[sR tm, sR b, sR it, sR u0, uN] [.ref u0] := Steps.trans (cc49.trans (st51 _ (Steps.refl _))) (by
      refine XS.ifNo X51.here hx rfl (q 21 rfl) rfl (i0_eq_f (by decide)) ?_
      refine XS.aloadN X51.here hx rfl (q 24 rfl) rfl rfl ?_
      exact Steps.refl _)
    obtain ⟨T53, X53, e53, st53⟩ := castY X51 hx hZ hown (W 401 rfl) e51 (Ins.self Ec0) (g := (mkF m 45 #[sR tm, sR b, sR it, sR u0, uN] [.ref u0])) rfl rfl (q 25 rfl)
    have cc54 : oQ X53 S0' 53 #[sR tm, sR b, sR it, sR u0, sR u0] [.ref u0, .ref b] := Steps.trans (cc52.trans (st53 _ (Steps.refl _))) (by
      refine XS.astore X53.here hx rfl (q 26 rfl) rfl rfl rfl ?_
      refine XS.aloadN X53.here hx rfl (q 27 rfl) rfl rfl ?_
      refine XS.aload X53.here hx rfl (q 28 rfl) rfl rfl ?_
      exact Steps.refl _)
    obtain ⟨_, T55, L55, X55, ⟨rfl, Nq55, eq55⟩, st55⟩ := oCV (y := yM12) (z := yM12) X53 cc54 hx hZ hown hml (q 29 rfl) e53 Ec0 (W 403 rfl) (W 404 rfl) (notFace_of_selects (args := #[]) (mvT hZ (W 406 rfl))) (W 406 rfl) (W 405 rfl) (by decide) [] [.ref b] (lenOf own_pd38 rfl) (bO (own_txt l Z a0 hw u0 x0 T45.heap n0 Zs4 Fx0) hZ (W 407 rfl) (W 73 rfl))
    have N55 := Fr.app N45 Nq55
    have cc57 : oQ X55 S0' 56 #[sR tm, sR b, sR it, sR u0, sR u0] [.ref x0, .ref b] := st55
    have fa56 := fa44.keep Kq45 (allS gn_it all0)
    have fa58 := (fa27.keep Kq37).keep Kq45
    have fa59 := (f124.keep Kq37 nin0).keep Kq45 (ninS ne_b_it nin0)
    have fa60 := (f224.keep Kq37 nin0).keep Kq45 (ninS ne_b_it nin0)
    have fa61 := (f324.keep Kq37 nin0).keep Kq45 (ninS ne_b_it nin0)
    have fa62 := (f424.keep Kq37 nin0).keep Kq45 (ninS ne_t_it nin0)
    obtain ⟨_, T63, L63, X63, ⟨rfl, Nq63, Kq63, f163, f263, f363, f463⟩, st63⟩ := oCV (y := yM66) (z := yM66) X55 cc57 hx hZ hown hml (q 30 rfl) eq55 fa58 (W 408 rfl) (W 409 rfl) (notFace_of_selects (args := #[]) (mvT hZ (W 411 rfl))) (W 411 rfl) (W 410 rfl) (by decide) [.ref x0] [] (lenOf own_pd42 rfl) (bO (own_app l Z a0 hw b t kt ([] : List Int32) x0 cs0 z T45.heap n0 Zs4 fa56 O2 P5 fa58 fa59 fa60 fa61 fa62 Lx0.1 gn_b gn_t (by simp; omega)) hZ (W 412 rfl) w_155)
    have N63 := Fr.app N55 Nq63
    have KK5 := KK4.trans Kq63 (allS (Or.inr s0_b) (allS (Or.inr s0_t) all0))
    have Zs5 := Nat.le_trans Zs4 Kq63.1
    have Ms5 := Nat.le_trans Ms4 Kq63.1
    have e63 : T63.heap = T63.heap := rfl
    have hp1 := own_lapp hp0 Lx0.1.2.2.1
    have cc65 : oQ X63 S0' 59 #[sR tm, sR b, sR it, sR u0, sR u0] [.ref b] := st63
    have fa64 := fa58.keep Kq63
    have cc67 : oQ X63 S0' 19 #[sR tm, sR b, sR it, sR u0, sR u0] [.ref it] := Steps.trans cc65 (by
      refine XT.pop X63.here hx rfl (q 31 rfl) rfl rfl ?_
      refine XS.goto X63.here hx rfl (pc0 := 60) rfl (q 32 rfl) (by decide) rfl ?_
      refine XS.goto X63.here hx rfl (pc0 := 67) rfl (q 33 rfl) (by decide) rfl ?_
      refine XS.aloadN X63.here hx rfl (q 8 rfl) rfl rfl ?_
      exact Steps.refl _)
    have fa66 := G245.keep Kq63 (ninS (Ne.symm ne_b_it) (ninS (Ne.symm ne_t_it) nin0))
    have fa68 := G345.keep Kq63 (ninS (Ne.symm ne_b_it) (ninS (Ne.symm ne_t_it) nin0))
    have fa69 := fa50.keep Kq63
    obtain ⟨_, T70, L70, X70, ⟨rfl, Nq70, eq70⟩, st70⟩ := oCI (y := yM78) (z := yM44) X63 cc67 hx hZ hown hml (q 9 rfl) e63 fa69 (W 206 rfl) (W 207 rfl) (mvT hZ (W 208 rfl)) (W 209 rfl) (W 210 rfl) (W 211 rfl) (W 212 rfl) (W 213 rfl) (by decide) [] [] (lenOf own_pd17 rfl) (bO (own_hn0 l Z a0 hw it 1 1 T63.heap n0 Zs5 fa66 fa68 rfl) hZ (W 214 rfl) (W 183 rfl))
    have N70 := Fr.app N63 Nq70
    have cc72 : oQ X70 S0' 71 #[sR tm, sR b, sR it, sR u0, sR u0] [.ref b] := Steps.trans st70 (by
      refine XS.ifYes X70.here hx rfl (pc0 := 24) rfl (q 10 rfl) rfl (i0_eq_t rfl) (by decide) rfl ?_
      refine XS.aloadN X70.here hx rfl (q 11 rfl) rfl rfl ?_
      exact Steps.refl _)
    have fa71 := fa56.keep Kq63 (allS gn_b (allS gn_t all0))
    obtain ⟨_, T73, L73, X73, ⟨x, rfl, Nq73, Kq73, sq73, Hx⟩, st73⟩ := oCV (y := yM76) (z := yM76) X70 cc72 hx hZ hown hml (q 12 rfl) eq70 fa64 (W 215 rfl) (W 216 rfl) (notFace_of_selects (args := #[]) (mvT hZ (W 218 rfl))) (W 218 rfl) (W 217 rfl) (by decide) [] [] (lenOf own_pd38 rfl) (bO (own_tos l Z a0 hw b t kt (([] : List Int32) ++ cs0) z T63.heap n0 Zs5 fa71 O2 P5 fa64 f163 f263 f363 f463 hp1 (by simp; omega)) hZ (W 219 rfl) w_155)
    have N73 := Fr.app N70 Nq73
    have KK6 := KK5.trans Kq73 all0
    have Zs6 := Nat.le_trans Zs5 Kq73.1
    have Ms6 := Nat.le_trans Ms5 Kq73.1
    have e73 : T73.heap = T73.heap := rfl
    have cc74 : oQ X73 S0' 74 #[sR tm, sR b, sR it, sR u0, sR u0] [.ref x] := st73
    obtain ⟨_, T75, L75, X75, ⟨o, rfl, Nq75, Kq75, Eo, Fo⟩, st75⟩ := oCT (y := yM50) X73 cc74 hx hZ hown hml (q 13 rfl) e73 (W 266 rfl) (W 267 rfl) w_268 (W 269 rfl) (by decide) [.ref x] [] (lenOf own_pd39 rfl) (bO (own_opo l Z a0 hw x T73.heap n0 Zs6 ) hZ (W 269 rfl) w_268)
    have N75 := Fr.app N73 Nq75
    have KK7 := KK6.trans Kq75 all0
    have Zs7 := Nat.le_trans Zs6 Kq75.1
    have Ms7 := Nat.le_trans Ms6 Kq75.1
    have e75 : T75.heap = T75.heap := rfl
    have cc76 : oQ X75 S0' 77 #[sR tm, sR b, sR it, sR u0, sR u0] [.ref o] := st75
    exact oRA X75 Bd cc76 (q 14 rfl) rfl (rfl) rfl e75 ⟨o, rfl, N75, KK7, Eo, Or.inr ⟨_, x, rfl, Fo, Hx.keep0 Kq75⟩⟩
def Q_own_ct2 (Z : State) (tm : Addr) (y : Addr) (u0 : Addr) (u1 : Addr) (em : Addr) (oe : Addr) (z : Int32) (mm : Nat) (o0 : Option (List Int32)) (o1 : Option (List Int32)) (h0 : Heap) (n0 : Nat) (v : Option Value) (h : Heap) (L : List Loc) : Prop := ∃ o : Addr, v = some (.ref o) ∧ Fr n0 L ∧ Keep h0 h [] ∧ own_Opt Z h o (own_all [] [o0, o1])
theorem own_ct2 (l : Launch) (Z : State) (a0 : Array Value) (hw : oH a0 Z) (tm : Addr) (y : Addr) (u0 : Addr) (u1 : Addr) (em : Addr) (oe : Addr) (z : Int32) (mm : Nat) (o0 : Option (List Int32)) (o1 : Option (List Int32)) (h0 : Heap) (n0 : Nat) (Z0 : n0 ≤ h0.size) (X00 : Old Z n0 h0) (O2 : Sta Z Z.heap "java/lang/String" "COMPACT_STRINGS" "Z" (.int z)) (P5 : ¬ z = 0) (Fp : zF14 Z h0 tm (.ref y)) (R1 : zE2 Z h0 y) (R2 : zF3 Z h0 y (.ref u0)) (R3 : zF4 Z h0 y (.ref u1)) (OE : Sta Z Z.heap "java/util/ImmutableCollections" "EMPTY" "Ljava/lang/Object;" (.ref em)) (hne : ¬ u1 = em) (OO : Sta Z Z.heap "java/util/Optional" "EMPTY" "Ljava/util/Optional;" (.ref oe)) (EO : zE7 Z Z.heap oe) (FO : zF15 Z Z.heap oe .null) (P0 : own_P Z h0 mm u0 o0) (P1 : own_P Z h0 mm u1 o1) (hm : mm ≤ h0.size) :
    oC l yM79 (.code yM79 prog_18_method_3_code 5 (some (.object "java/util/Optional"))) rM50 #[(.ref tm)] Z h0 (Q_own_ct2 Z tm y u0 u1 em oe z mm o0 o1 h0 n0) := by
  refine oO (plainFor_of_name own_pn17) hisR fun p e s m below meth c s₁ S0' Bd hS hx dB hml hown hnm hZ X0 e0 => ?_
  have N0 := Fr.nil n0
  have KK0 := Keep.refl h0 ([] : List Addr)
  have cc0 : oQ X0 S0' 0 #[sR tm, uN, uN, uN, uN] [] := oE hS rfl
  have W := @own_w Z a0 hw
  have q := @dX _ _ c D_73 @dB
  have w_155 := W 155 rfl
  have w_183 := W 183 rfl
  have w_213 := W 213 rfl
  have w_268 := W 268 rfl
  have w_401 := W 401 rfl
  have w_406 := W 406 rfl
  have w_411 := W 411 rfl
  have w_459 := W 459 rfl
  obtain ⟨T21, h21, X21, e21, E21, A21, D21, -, st21⟩ := newO X0 hx hZ hown (W 153 rfl) (W 154 rfl) w_155 e0 (g := (mkF m 0 #[sR tm, uN, uN, uN, uN] [])) rfl (q 0 rfl) (by decide) (by decide)
  obtain ⟨b, g_b⟩ : ∃ z, z = h0.size := ⟨_, rfl⟩
  rw [← g_b] at A21 D21 st21
  have K21 := (Keep.refl h0 ([] : List Addr)).ext E21
  have b_b : h0.size ≤ b := (Nat.le_of_eq g_b.symm)
  have gn_b := Nat.le_trans Z0 b_b
  have s0_b := Nat.le_trans KK0.1 b_b
  have ml_b := Nat.le_trans hm b_b
  have ne_tm_b := oN Fp.lt b_b
  have ne_y_b := oN R1.lt b_b
  have KK1 := KK0.trans K21 all0
  have Zs1 := Nat.le_trans Z0 K21.1
  have Ms1 := Nat.le_trans hm K21.1
  have F_value_b : zF12 Z h21 b .null := D21 (Or.inl (W 168 rfl)) (ty := (.array .byte)) (by decide)
  have F_coder_b : zF9 Z h21 b (.int (0 : Int32)) := D21 (Or.inl (W 170 rfl)) (ty := .byte) (by decide)
  have F_count_b : zF10 Z h21 b (.int (0 : Int32)) := D21 (Or.inl (W 242 rfl)) (ty := .int) (by decide)
  have cc23 : oQ X21 S0' 4 #[sR tm, uN, uN, uN, uN] [.ref b, .ref b] := Steps.trans (cc0.trans (st21 _ (Steps.refl _))) (by
    refine XS.dup X21.here hx rfl (q 1 rfl) rfl rfl ?_
    exact Steps.refl _)
  have fa22 := X00.keep K21 all0
  obtain ⟨_, T24, L24, X24, ⟨t, kt, rfl, Nq24, Kq24, sq24, f124, f224, f324, f424⟩, st24⟩ := oCN (y := yM60) X21 cc23 hx hZ hown hml (q 2 rfl) e21 b rfl (W 156 rfl) (W 157 rfl) (W 158 rfl) (by decide) [] [.ref b] (lenOf own_pd4 rfl) (bO (own_sb0 l Z a0 hw b z h21 n0 Zs1 fa22 O2 P5 A21 F_value_b F_coder_b F_count_b gn_b) hZ (W 158 rfl) w_155)
  have N24 := Fr.app N0 Nq24
  have b_t : h21.size ≤ t := sq24
  have gn_t := Nat.le_trans Zs1 b_t
  have s0_t := Nat.le_trans KK1.1 b_t
  have ml_t := Nat.le_trans Ms1 b_t
  have fa25 := Fp.keep K21 nin0
  have ne_tm_t := oN fa25.lt b_t
  have fa26 := R1.keep K21
  have ne_y_t := oN fa26.lt b_t
  have ne_b_t := oN A21.lt b_t
  have KK2 := KK1.trans Kq24 (allS (Or.inr s0_b) all0)
  have Zs2 := Nat.le_trans Zs1 Kq24.1
  have Ms2 := Nat.le_trans Ms1 Kq24.1
  have e24 : T24.heap = T24.heap := rfl
  have cc28 : oQ X24 S0' 7 #[sR tm, uN, uN, uN, uN] [.ref b] := st24
  have fa27 := A21.keep Kq24
  have hp0 : ∀ c' ∈ ([] : List Int32), ¬ c' < 0 ∧ ¬ (255 : Int32) < c' := by simp
  have cc30 : oQ X24 S0' 9 #[sR tm, sR b, uN, uN, uN] [.ref tm] := Steps.trans cc28 (by
    refine XS.astoreN X24.here hx rfl (q 3 rfl) rfl rfl rfl ?_
    refine XS.aloadN X24.here hx rfl (q 4 rfl) rfl rfl ?_
    exact Steps.refl _)
  have fa29 := fa25.keep Kq24 (ninS ne_tm_b nin0)
  obtain ⟨T31, X31, e31, st31⟩ := oGF X24 cc30 hx hZ hown (W 142 rfl) Via.refl e24 fa29 (q 5 rfl)
  have cc33 : oQ X31 S0' 12 #[sR tm, sR b, uN, uN, uN] [.ref y] := st31
  have fa32 := fa26.keep Kq24
  have fa34 := (R2.keep K21 nin0).keep Kq24 (ninS ne_y_b nin0)
  have fa35 := (R3.keep K21 nin0).keep Kq24 (ninS ne_y_b nin0)
  have fa36 := fa22.keep Kq24 (allS gn_b all0)
  obtain ⟨_, T37, L37, X37, ⟨it, rfl, Nq37, Kq37, sq37, Ei37, G137, G237, G337⟩, st37⟩ := oCI (y := yM77) (z := yM43) X31 cc33 hx hZ hown hml (q 6 rfl) e31 fa32 (W 171 rfl) (W 172 rfl) (mvT hZ (W 173 rfl)) (W 477 rfl) (W 175 rfl) (W 176 rfl) (W 478 rfl) (W 479 rfl) (by decide) [] [] (lenOf own_pd37 rfl) (bO (own_it2 l Z a0 hw y u0 u1 em T24.heap n0 Zs2 fa32 fa34 fa35 fa36 OE hne) hZ (W 180 rfl) (W 179 rfl))
  have N37 := Fr.app N24 Nq37
  have b_it : T24.heap.size ≤ it := sq37
  have gn_it := Nat.le_trans Zs2 b_it
  have s0_it := Nat.le_trans KK2.1 b_it
  have ml_it := Nat.le_trans Ms2 b_it
  have ne_tm_it := oN fa29.lt b_it
  have ne_y_it := oN fa32.lt b_it
  have ne_b_it := oN fa27.lt b_it
  have ne_t_it := oN f424.lt b_it
  have KK3 := KK2.trans Kq37 all0
  have Zs3 := Nat.le_trans Zs2 Kq37.1
  have Ms3 := Nat.le_trans Ms2 Kq37.1
  have e37 : T37.heap = T37.heap := rfl
  have cc38 : oQ X37 S0' 19 #[sR tm, sR b, sR it, uN, uN] [.ref it] := Steps.trans st37 (by
    refine XS.astoreN X37.here hx rfl (q 7 rfl) rfl rfl rfl ?_
    refine XS.aloadN X37.here hx rfl (q 8 rfl) rfl rfl ?_
    exact Steps.refl _)
  obtain ⟨_, T39, L39, X39, ⟨rfl, Nq39, eq39⟩, st39⟩ := oCI (y := yM78) (z := yM44) X37 cc38 hx hZ hown hml (q 9 rfl) e37 Ei37 (W 206 rfl) (W 207 rfl) (mvT hZ (W 208 rfl)) (W 209 rfl) (W 210 rfl) (W 211 rfl) (W 212 rfl) w_213 (by decide) [] [] (lenOf own_pd17 rfl) (bO (own_hn1 l Z a0 hw it 0 2 T37.heap n0 Zs3 G237 G337 (by decide)) hZ (W 214 rfl) w_183)
  have N39 := Fr.app N37 Nq39
  have cc41 : oQ X39 S0' 28 #[sR tm, sR b, sR it, uN, uN] [.ref it] := Steps.trans st39 (by
    refine XS.ifNo X39.here hx rfl (q 10 rfl) rfl (i0_eq_f (by decide)) ?_
    refine XS.aloadN X39.here hx rfl (q 15 rfl) rfl rfl ?_
    exact Steps.refl _)
  have fa40 := fa32.keep Kq37
  have fa42 := fa34.keep Kq37 nin0
  have fa43 := fa35.keep Kq37 nin0
  have fa44 := fa36.keep Kq37 all0
  obtain ⟨_, T45, L45, X45, ⟨rfl, Nq45, Kq45, G145, G245, G345⟩, st45⟩ := oCI (y := yM80) (z := yM47) X39 cc41 hx hZ hown hml (q 16 rfl) eq39 Ei37 (W 383 rfl) (W 384 rfl) (mvT hZ (W 385 rfl)) (W 386 rfl) (W 387 rfl) (W 388 rfl) (W 389 rfl) w_213 (by decide) [] [] (lenOf own_pd40 rfl) (bW (own_nx2_0 l Z a0 hw it y u0 u1 em T37.heap n0 Zs3 Ei37 G137 G237 G337 gn_it fa40 fa42 fa43 fa44 OE hne) hZ (W 390 rfl) w_183)
  have N45 := Fr.app N39 Nq45
  have KK4 := KK3.trans Kq45 (allS (Or.inr s0_it) all0)
  have Zs4 := Nat.le_trans Zs3 Kq45.1
  have Ms4 := Nat.le_trans Ms3 Kq45.1
  have e45 : T45.heap = T45.heap := rfl
  have cc47 : oQ X45 S0' 33 #[sR tm, sR b, sR it, uN, uN] [.ref u0] := st45
  have fa46 := (((P0.up K21 all0).up Kq24 (allS ml_b all0)).up Kq37 all0).up Kq45 (allS ml_it all0)
  obtain ⟨T48, X48, e48, st48⟩ := castY X45 hx hZ hown (W 399 rfl) e45 (own_P.part hw fa46) (g := (mkF m 33 #[sR tm, sR b, sR it, uN, uN] [.ref u0])) rfl rfl (q 17 rfl)
  have cc49 : oQ X48 S0' 38 #[sR tm, sR b, sR it, sR u0, uN] [.ref u0] := Steps.trans (cc47.trans (st48 _ (Steps.refl _))) (by
    refine XS.astoreN X48.here hx rfl (q 18 rfl) rfl rfl rfl ?_
    refine XS.aloadN X48.here hx rfl (q 19 rfl) rfl rfl ?_
    exact Steps.refl _)
  have fa50 := Ei37.keep Kq45
  rcases fa46 with ⟨lu0, ⟨rfl, Ec0⟩ | ⟨cs0, x0, rfl, hl0, Ec0, Fx0, Lx0⟩⟩
  · skip
    obtain ⟨T51, X51, e51, st51⟩ := instNo X48 hx hZ hown w_401 e48 Ec0 (own_notx hw) (g := (mkF m 38 #[sR tm, sR b, sR it, sR u0, uN] [.ref u0])) rfl rfl (q 20 rfl)
    have cc53 : oQ X51 S0' 63 #[sR tm, sR b, sR it, sR u0, uN] [] := Steps.trans (cc49.trans (st51 _ (Steps.refl _))) (by
      refine XS.ifYes X51.here hx rfl (pc0 := 41) rfl (q 21 rfl) rfl (i0_eq_t rfl) (by decide) rfl ?_
      exact Steps.refl _)
    have fa52 := fa44.keep Kq45 (allS gn_it all0)
    obtain ⟨_, T54, L54, X54, ⟨rfl, Nq54, eq54⟩, st54⟩ := oCT (y := yM51) X51 cc53 hx hZ hown hml (q 22 rfl) e51 (W 457 rfl) (W 458 rfl) w_268 w_459 (by decide) [] [] (lenOf own_pd41 rfl) (bO (own_ope l Z a0 hw oe T45.heap n0 Zs4 fa52 OO) hZ w_459 w_268)
    have N54 := Fr.app N45 Nq54
    have cc55 : oQ X54 S0' 66 #[sR tm, sR b, sR it, sR u0, uN] [.ref oe] := st54
    exact oRA X54 Bd cc55 (q 23 rfl) rfl (rfl) rfl eq54 ⟨oe, rfl, N54, KK4, EO.ext fa52.2, Or.inl ⟨rfl, FO.ext fa52.2⟩⟩
  · skip
    obtain ⟨T51, X51, e51, st51⟩ := instY X48 hx hZ hown w_401 e48 (Ins.self Ec0) (g := (mkF m 38 #[sR tm, sR b, sR it, sR u0, uN] [.ref u0])) rfl rfl (q 20 rfl)
    have cc52 : oQ X51 S0' 45 #[sR tm, sR b, sR it, sR u0, uN] [.ref u0] := Steps.trans (cc49.trans (st51 _ (Steps.refl _))) (by
      refine XS.ifNo X51.here hx rfl (q 21 rfl) rfl (i0_eq_f (by decide)) ?_
      refine XS.aloadN X51.here hx rfl (q 24 rfl) rfl rfl ?_
      exact Steps.refl _)
    obtain ⟨T53, X53, e53, st53⟩ := castY X51 hx hZ hown w_401 e51 (Ins.self Ec0) (g := (mkF m 45 #[sR tm, sR b, sR it, sR u0, uN] [.ref u0])) rfl rfl (q 25 rfl)
    have cc54 : oQ X53 S0' 53 #[sR tm, sR b, sR it, sR u0, sR u0] [.ref u0, .ref b] := Steps.trans (cc52.trans (st53 _ (Steps.refl _))) (by
      refine XS.astore X53.here hx rfl (q 26 rfl) rfl rfl rfl ?_
      refine XS.aloadN X53.here hx rfl (q 27 rfl) rfl rfl ?_
      refine XS.aload X53.here hx rfl (q 28 rfl) rfl rfl ?_
      exact Steps.refl _)
    obtain ⟨_, T55, L55, X55, ⟨rfl, Nq55, eq55⟩, st55⟩ := oCV (y := yM12) (z := yM12) X53 cc54 hx hZ hown hml (q 29 rfl) e53 Ec0 (W 403 rfl) (W 404 rfl) (notFace_of_selects (args := #[]) (mvT hZ w_406)) w_406 (W 405 rfl) (by decide) [] [.ref b] (lenOf own_pd38 rfl) (bO (own_txt l Z a0 hw u0 x0 T45.heap n0 Zs4 Fx0) hZ (W 407 rfl) (W 73 rfl))
    have N55 := Fr.app N45 Nq55
    have cc57 : oQ X55 S0' 56 #[sR tm, sR b, sR it, sR u0, sR u0] [.ref x0, .ref b] := st55
    have fa56 := fa44.keep Kq45 (allS gn_it all0)
    have fa58 := (fa27.keep Kq37).keep Kq45
    have fa59 := (f124.keep Kq37 nin0).keep Kq45 (ninS ne_b_it nin0)
    have fa60 := (f224.keep Kq37 nin0).keep Kq45 (ninS ne_b_it nin0)
    have fa61 := (f324.keep Kq37 nin0).keep Kq45 (ninS ne_b_it nin0)
    have fa62 := (f424.keep Kq37 nin0).keep Kq45 (ninS ne_t_it nin0)
    obtain ⟨_, T63, L63, X63, ⟨rfl, Nq63, Kq63, f163, f263, f363, f463⟩, st63⟩ := oCV (y := yM66) (z := yM66) X55 cc57 hx hZ hown hml (q 30 rfl) eq55 fa58 (W 408 rfl) (W 409 rfl) (notFace_of_selects (args := #[]) (mvT hZ w_411)) w_411 (W 410 rfl) (by decide) [.ref x0] [] (lenOf own_pd42 rfl) (bO (own_app l Z a0 hw b t kt ([] : List Int32) x0 cs0 z T45.heap n0 Zs4 fa56 O2 P5 fa58 fa59 fa60 fa61 fa62 Lx0.1 gn_b gn_t (by simp; omega)) hZ (W 412 rfl) w_155)
    have N63 := Fr.app N55 Nq63
    have KK5 := KK4.trans Kq63 (allS (Or.inr s0_b) (allS (Or.inr s0_t) all0))
    have Zs5 := Nat.le_trans Zs4 Kq63.1
    have Ms5 := Nat.le_trans Ms4 Kq63.1
    have e63 : T63.heap = T63.heap := rfl
    have hp1 := own_lapp hp0 Lx0.1.2.2.1
    have cc65 : oQ X63 S0' 59 #[sR tm, sR b, sR it, sR u0, sR u0] [.ref b] := st63
    have fa64 := fa58.keep Kq63
    have cc67 : oQ X63 S0' 19 #[sR tm, sR b, sR it, sR u0, sR u0] [.ref it] := Steps.trans cc65 (by
      refine XT.pop X63.here hx rfl (q 31 rfl) rfl rfl ?_
      refine XS.goto X63.here hx rfl (pc0 := 60) rfl (q 32 rfl) (by decide) rfl ?_
      refine XS.goto X63.here hx rfl (pc0 := 67) rfl (q 33 rfl) (by decide) rfl ?_
      refine XS.aloadN X63.here hx rfl (q 8 rfl) rfl rfl ?_
      exact Steps.refl _)
    have fa66 := G245.keep Kq63 (ninS (Ne.symm ne_b_it) (ninS (Ne.symm ne_t_it) nin0))
    have fa68 := G345.keep Kq63 (ninS (Ne.symm ne_b_it) (ninS (Ne.symm ne_t_it) nin0))
    have fa69 := fa50.keep Kq63
    obtain ⟨_, T70, L70, X70, ⟨rfl, Nq70, eq70⟩, st70⟩ := oCI (y := yM78) (z := yM44) X63 cc67 hx hZ hown hml (q 9 rfl) e63 fa69 (W 206 rfl) (W 207 rfl) (mvT hZ (W 208 rfl)) (W 209 rfl) (W 210 rfl) (W 211 rfl) (W 212 rfl) w_213 (by decide) [] [] (lenOf own_pd17 rfl) (bO (own_hn1 l Z a0 hw it 1 2 T63.heap n0 Zs5 fa66 fa68 (by decide)) hZ (W 214 rfl) w_183)
    have N70 := Fr.app N63 Nq70
    have cc72 : oQ X70 S0' 28 #[sR tm, sR b, sR it, sR u0, sR u0] [.ref it] := Steps.trans st70 (by
      refine XS.ifNo X70.here hx rfl (q 10 rfl) rfl (i0_eq_f (by decide)) ?_
      refine XS.aloadN X70.here hx rfl (q 15 rfl) rfl rfl ?_
      exact Steps.refl _)
    have fa71 := G145.keep Kq63 (ninS (Ne.symm ne_b_it) (ninS (Ne.symm ne_t_it) nin0))
    have fa73 := (fa40.keep Kq45).keep Kq63
    have fa74 := (fa42.keep Kq45 (ninS ne_y_it nin0)).keep Kq63 (ninS ne_y_b (ninS ne_y_t nin0))
    have fa75 := (fa43.keep Kq45 (ninS ne_y_it nin0)).keep Kq63 (ninS ne_y_b (ninS ne_y_t nin0))
    have fa76 := fa56.keep Kq63 (allS gn_b (allS gn_t all0))
    obtain ⟨_, T77, L77, X77, ⟨rfl, Nq77, Kq77, G177, G277, G377⟩, st77⟩ := oCI (y := yM80) (z := yM47) X70 cc72 hx hZ hown hml (q 16 rfl) eq70 fa69 (W 383 rfl) (W 384 rfl) (mvT hZ (W 385 rfl)) (W 386 rfl) (W 387 rfl) (W 388 rfl) (W 389 rfl) w_213 (by decide) [] [] (lenOf own_pd40 rfl) (bW (own_nx2_1 l Z a0 hw it y u0 u1 em T63.heap n0 Zs5 fa69 fa71 fa66 fa68 gn_it fa73 fa74 fa75 fa76 OE hne) hZ (W 390 rfl) w_183)
    have N77 := Fr.app N70 Nq77
    have KK6 := KK5.trans Kq77 (allS (Or.inr s0_it) all0)
    have Zs6 := Nat.le_trans Zs5 Kq77.1
    have Ms6 := Nat.le_trans Ms5 Kq77.1
    have e77 : T77.heap = T77.heap := rfl
    have cc79 : oQ X77 S0' 33 #[sR tm, sR b, sR it, sR u0, sR u0] [.ref u1] := st77
    have fa78 := (((((P1.up K21 all0).up Kq24 (allS ml_b all0)).up Kq37 all0).up Kq45 (allS ml_it all0)).up Kq63 (allS ml_b (allS ml_t all0))).up Kq77 (allS ml_it all0)
    obtain ⟨T80, X80, e80, st80⟩ := castY X77 hx hZ hown (W 399 rfl) e77 (own_P.part hw fa78) (g := (mkF m 33 #[sR tm, sR b, sR it, sR u0, sR u0] [.ref u1])) rfl rfl (q 17 rfl)
    have cc81 : oQ X80 S0' 38 #[sR tm, sR b, sR it, sR u1, sR u0] [.ref u1] := Steps.trans (cc79.trans (st80 _ (Steps.refl _))) (by
      refine XS.astoreN X80.here hx rfl (q 18 rfl) rfl rfl rfl ?_
      refine XS.aloadN X80.here hx rfl (q 19 rfl) rfl rfl ?_
      exact Steps.refl _)
    have fa82 := fa69.keep Kq77
    rcases fa78 with ⟨lu1, ⟨rfl, Ec1⟩ | ⟨cs1, x1, rfl, hl1, Ec1, Fx1, Lx1⟩⟩
    · skip
      obtain ⟨T83, X83, e83, st83⟩ := instNo X80 hx hZ hown w_401 e80 Ec1 (own_notx hw) (g := (mkF m 38 #[sR tm, sR b, sR it, sR u1, sR u0] [.ref u1])) rfl rfl (q 20 rfl)
      have cc85 : oQ X83 S0' 63 #[sR tm, sR b, sR it, sR u1, sR u0] [] := Steps.trans (cc81.trans (st83 _ (Steps.refl _))) (by
        refine XS.ifYes X83.here hx rfl (pc0 := 41) rfl (q 21 rfl) rfl (i0_eq_t rfl) (by decide) rfl ?_
        exact Steps.refl _)
      have fa84 := fa76.keep Kq77 (allS gn_it all0)
      obtain ⟨_, T86, L86, X86, ⟨rfl, Nq86, eq86⟩, st86⟩ := oCT (y := yM51) X83 cc85 hx hZ hown hml (q 22 rfl) e83 (W 457 rfl) (W 458 rfl) w_268 w_459 (by decide) [] [] (lenOf own_pd41 rfl) (bO (own_ope l Z a0 hw oe T77.heap n0 Zs6 fa84 OO) hZ w_459 w_268)
      have N86 := Fr.app N77 Nq86
      have cc87 : oQ X86 S0' 66 #[sR tm, sR b, sR it, sR u1, sR u0] [.ref oe] := st86
      exact oRA X86 Bd cc87 (q 23 rfl) rfl (rfl) rfl eq86 ⟨oe, rfl, N86, KK6, EO.ext fa84.2, Or.inl ⟨rfl, FO.ext fa84.2⟩⟩
    · skip
      obtain ⟨T83, X83, e83, st83⟩ := instY X80 hx hZ hown w_401 e80 (Ins.self Ec1) (g := (mkF m 38 #[sR tm, sR b, sR it, sR u1, sR u0] [.ref u1])) rfl rfl (q 20 rfl)
      have cc84 : oQ X83 S0' 45 #[sR tm, sR b, sR it, sR u1, sR u0] [.ref u1] := Steps.trans (cc81.trans (st83 _ (Steps.refl _))) (by
        refine XS.ifNo X83.here hx rfl (q 21 rfl) rfl (i0_eq_f (by decide)) ?_
        refine XS.aloadN X83.here hx rfl (q 24 rfl) rfl rfl ?_
        exact Steps.refl _)
      obtain ⟨T85, X85, e85, st85⟩ := castY X83 hx hZ hown w_401 e83 (Ins.self Ec1) (g := (mkF m 45 #[sR tm, sR b, sR it, sR u1, sR u0] [.ref u1])) rfl rfl (q 25 rfl)
      have cc86 : oQ X85 S0' 53 #[sR tm, sR b, sR it, sR u1, sR u1] [.ref u1, .ref b] := Steps.trans (cc84.trans (st85 _ (Steps.refl _))) (by
        refine XS.astore X85.here hx rfl (q 26 rfl) rfl rfl rfl ?_
        refine XS.aloadN X85.here hx rfl (q 27 rfl) rfl rfl ?_
        refine XS.aload X85.here hx rfl (q 28 rfl) rfl rfl ?_
        exact Steps.refl _)
      obtain ⟨_, T87, L87, X87, ⟨rfl, Nq87, eq87⟩, st87⟩ := oCV (y := yM12) (z := yM12) X85 cc86 hx hZ hown hml (q 29 rfl) e85 Ec1 (W 403 rfl) (W 404 rfl) (notFace_of_selects (args := #[]) (mvT hZ w_406)) w_406 (W 405 rfl) (by decide) [] [.ref b] (lenOf own_pd38 rfl) (bO (own_txt l Z a0 hw u1 x1 T77.heap n0 Zs6 Fx1) hZ (W 407 rfl) (W 73 rfl))
      have N87 := Fr.app N77 Nq87
      have cc89 : oQ X87 S0' 56 #[sR tm, sR b, sR it, sR u1, sR u1] [.ref x1, .ref b] := st87
      have fa88 := fa76.keep Kq77 (allS gn_it all0)
      have fa90 := fa64.keep Kq77
      have fa91 := f163.keep Kq77 (ninS ne_b_it nin0)
      have fa92 := f263.keep Kq77 (ninS ne_b_it nin0)
      have fa93 := f363.keep Kq77 (ninS ne_b_it nin0)
      have fa94 := f463.keep Kq77 (ninS ne_t_it nin0)
      obtain ⟨_, T95, L95, X95, ⟨rfl, Nq95, Kq95, f195, f295, f395, f495⟩, st95⟩ := oCV (y := yM66) (z := yM66) X87 cc89 hx hZ hown hml (q 30 rfl) eq87 fa90 (W 408 rfl) (W 409 rfl) (notFace_of_selects (args := #[]) (mvT hZ w_411)) w_411 (W 410 rfl) (by decide) [.ref x1] [] (lenOf own_pd42 rfl) (bO (own_app l Z a0 hw b t kt (([] : List Int32) ++ cs0) x1 cs1 z T77.heap n0 Zs6 fa88 O2 P5 fa90 fa91 fa92 fa93 fa94 Lx1.1 gn_b gn_t (by simp; omega)) hZ (W 412 rfl) w_155)
      have N95 := Fr.app N87 Nq95
      have KK7 := KK6.trans Kq95 (allS (Or.inr s0_b) (allS (Or.inr s0_t) all0))
      have Zs7 := Nat.le_trans Zs6 Kq95.1
      have Ms7 := Nat.le_trans Ms6 Kq95.1
      have e95 : T95.heap = T95.heap := rfl
      have hp2 := own_lapp hp1 Lx1.1.2.2.1
      have cc97 : oQ X95 S0' 59 #[sR tm, sR b, sR it, sR u1, sR u1] [.ref b] := st95
      have fa96 := fa90.keep Kq95
      have cc99 : oQ X95 S0' 19 #[sR tm, sR b, sR it, sR u1, sR u1] [.ref it] := Steps.trans cc97 (by
        refine XT.pop X95.here hx rfl (q 31 rfl) rfl rfl ?_
        refine XS.goto X95.here hx rfl (pc0 := 60) rfl (q 32 rfl) (by decide) rfl ?_
        refine XS.goto X95.here hx rfl (pc0 := 67) rfl (q 33 rfl) (by decide) rfl ?_
        refine XS.aloadN X95.here hx rfl (q 8 rfl) rfl rfl ?_
        exact Steps.refl _)
      have fa98 := G277.keep Kq95 (ninS (Ne.symm ne_b_it) (ninS (Ne.symm ne_t_it) nin0))
      have fa100 := G377.keep Kq95 (ninS (Ne.symm ne_b_it) (ninS (Ne.symm ne_t_it) nin0))
      have fa101 := fa82.keep Kq95
      obtain ⟨_, T102, L102, X102, ⟨rfl, Nq102, eq102⟩, st102⟩ := oCI (y := yM78) (z := yM44) X95 cc99 hx hZ hown hml (q 9 rfl) e95 fa101 (W 206 rfl) (W 207 rfl) (mvT hZ (W 208 rfl)) (W 209 rfl) (W 210 rfl) (W 211 rfl) (W 212 rfl) w_213 (by decide) [] [] (lenOf own_pd17 rfl) (bO (own_hn0 l Z a0 hw it 2 2 T95.heap n0 Zs7 fa98 fa100 rfl) hZ (W 214 rfl) w_183)
      have N102 := Fr.app N95 Nq102
      have cc104 : oQ X102 S0' 71 #[sR tm, sR b, sR it, sR u1, sR u1] [.ref b] := Steps.trans st102 (by
        refine XS.ifYes X102.here hx rfl (pc0 := 24) rfl (q 10 rfl) rfl (i0_eq_t rfl) (by decide) rfl ?_
        refine XS.aloadN X102.here hx rfl (q 11 rfl) rfl rfl ?_
        exact Steps.refl _)
      have fa103 := fa88.keep Kq95 (allS gn_b (allS gn_t all0))
      obtain ⟨_, T105, L105, X105, ⟨x, rfl, Nq105, Kq105, sq105, Hx⟩, st105⟩ := oCV (y := yM76) (z := yM76) X102 cc104 hx hZ hown hml (q 12 rfl) eq102 fa96 (W 215 rfl) (W 216 rfl) (notFace_of_selects (args := #[]) (mvT hZ (W 218 rfl))) (W 218 rfl) (W 217 rfl) (by decide) [] [] (lenOf own_pd38 rfl) (bO (own_tos l Z a0 hw b t kt ((([] : List Int32) ++ cs0) ++ cs1) z T95.heap n0 Zs7 fa103 O2 P5 fa96 f195 f295 f395 f495 hp2 (by simp; omega)) hZ (W 219 rfl) w_155)
      have N105 := Fr.app N102 Nq105
      have KK8 := KK7.trans Kq105 all0
      have Zs8 := Nat.le_trans Zs7 Kq105.1
      have Ms8 := Nat.le_trans Ms7 Kq105.1
      have e105 : T105.heap = T105.heap := rfl
      have cc106 : oQ X105 S0' 74 #[sR tm, sR b, sR it, sR u1, sR u1] [.ref x] := st105
      obtain ⟨_, T107, L107, X107, ⟨o, rfl, Nq107, Kq107, Eo, Fo⟩, st107⟩ := oCT (y := yM50) X105 cc106 hx hZ hown hml (q 13 rfl) e105 (W 266 rfl) (W 267 rfl) w_268 (W 269 rfl) (by decide) [.ref x] [] (lenOf own_pd39 rfl) (bO (own_opo l Z a0 hw x T105.heap n0 Zs8 ) hZ (W 269 rfl) w_268)
      have N107 := Fr.app N105 Nq107
      have KK9 := KK8.trans Kq107 all0
      have Zs9 := Nat.le_trans Zs8 Kq107.1
      have Ms9 := Nat.le_trans Ms8 Kq107.1
      have e107 : T107.heap = T107.heap := rfl
      have cc108 : oQ X107 S0' 77 #[sR tm, sR b, sR it, sR u1, sR u1] [.ref o] := st107
      exact oRA X107 Bd cc108 (q 14 rfl) rfl (rfl) rfl e107 ⟨o, rfl, N107, KK9, Eo, Or.inr ⟨_, x, rfl, Fo, Hx.keep0 Kq107⟩⟩
def Q_own_ct3 (Z : State) (tm : Addr) (y g : Addr) (kg : ClassId) (u0 : Addr) (u1 : Addr) (u2 : Addr) (oe : Addr) (z : Int32) (mm : Nat) (o0 : Option (List Int32)) (o1 : Option (List Int32)) (o2 : Option (List Int32)) (h0 : Heap) (n0 : Nat) (v : Option Value) (h : Heap) (L : List Loc) : Prop := ∃ o : Addr, v = some (.ref o) ∧ Fr n0 L ∧ Keep h0 h [] ∧ own_Opt Z h o (own_all [] [o0, o1, o2])
theorem own_ct3 (l : Launch) (Z : State) (a0 : Array Value) (hw : oH a0 Z) (tm : Addr) (y g : Addr) (kg : ClassId) (u0 : Addr) (u1 : Addr) (u2 : Addr) (oe : Addr) (z : Int32) (mm : Nat) (o0 : Option (List Int32)) (o1 : Option (List Int32)) (o2 : Option (List Int32)) (h0 : Heap) (n0 : Nat) (Z0 : n0 ≤ h0.size) (X00 : Old Z n0 h0) (O2 : Sta Z Z.heap "java/lang/String" "COMPACT_STRINGS" "Z" (.int z)) (P5 : ¬ z = 0) (Fp : zF14 Z h0 tm (.ref y)) (R1 : zE3 Z h0 y) (R2 : zF8 Z h0 y (.ref g)) (R3 : Arv Z h0 g kg (.object "java/lang/Object") (3 : Int32) [(.ref u0), (.ref u1), (.ref u2)] .null) (OO : Sta Z Z.heap "java/util/Optional" "EMPTY" "Ljava/util/Optional;" (.ref oe)) (EO : zE7 Z Z.heap oe) (FO : zF15 Z Z.heap oe .null) (P0 : own_P Z h0 mm u0 o0) (P1 : own_P Z h0 mm u1 o1) (P2 : own_P Z h0 mm u2 o2) (hm : mm ≤ h0.size) :
    oC l yM79 (.code yM79 prog_18_method_3_code 5 (some (.object "java/util/Optional"))) rM50 #[(.ref tm)] Z h0 (Q_own_ct3 Z tm y g kg u0 u1 u2 oe z mm o0 o1 o2 h0 n0) := by
  refine oO (plainFor_of_name own_pn17) hisR fun p e s m below meth c s₁ S0' Bd hS hx dB hml hown hnm hZ X0 e0 => ?_
  have N0 := Fr.nil n0
  have KK0 := Keep.refl h0 ([] : List Addr)
  have cc0 : oQ X0 S0' 0 #[sR tm, uN, uN, uN, uN] [] := oE hS rfl
  have W := @own_w Z a0 hw
  have q := @dX _ _ c D_73 @dB
  have w_155 := W 155 rfl
  have w_183 := W 183 rfl
  have w_206 := W 206 rfl
  have w_207 := W 207 rfl
  have w_208 := W 208 rfl
  have w_209 := W 209 rfl
  have w_210 := W 210 rfl
  have w_211 := W 211 rfl
  have w_212 := W 212 rfl
  have w_213 := W 213 rfl
  have w_214 := W 214 rfl
  have w_268 := W 268 rfl
  have w_401 := W 401 rfl
  have w_406 := W 406 rfl
  have w_411 := W 411 rfl
  have w_459 := W 459 rfl
  obtain ⟨T21, h21, X21, e21, E21, A21, D21, -, st21⟩ := newO X0 hx hZ hown (W 153 rfl) (W 154 rfl) w_155 e0 (g := (mkF m 0 #[sR tm, uN, uN, uN, uN] [])) rfl (q 0 rfl) (by decide) (by decide)
  obtain ⟨b, g_b⟩ : ∃ z, z = h0.size := ⟨_, rfl⟩
  rw [← g_b] at A21 D21 st21
  have K21 := (Keep.refl h0 ([] : List Addr)).ext E21
  have b_b : h0.size ≤ b := (Nat.le_of_eq g_b.symm)
  have gn_b := Nat.le_trans Z0 b_b
  have s0_b := Nat.le_trans KK0.1 b_b
  have ml_b := Nat.le_trans hm b_b
  have ne_tm_b := oN Fp.lt b_b
  have ne_y_b := oN R1.lt b_b
  have ne_g_b := oN R3.lt b_b
  have KK1 := KK0.trans K21 all0
  have Zs1 := Nat.le_trans Z0 K21.1
  have Ms1 := Nat.le_trans hm K21.1
  have F_value_b : zF12 Z h21 b .null := D21 (Or.inl (W 168 rfl)) (ty := (.array .byte)) (by decide)
  have F_coder_b : zF9 Z h21 b (.int (0 : Int32)) := D21 (Or.inl (W 170 rfl)) (ty := .byte) (by decide)
  have F_count_b : zF10 Z h21 b (.int (0 : Int32)) := D21 (Or.inl (W 242 rfl)) (ty := .int) (by decide)
  have cc23 : oQ X21 S0' 4 #[sR tm, uN, uN, uN, uN] [.ref b, .ref b] := Steps.trans (cc0.trans (st21 _ (Steps.refl _))) (by
    refine XS.dup X21.here hx rfl (q 1 rfl) rfl rfl ?_
    exact Steps.refl _)
  have fa22 := X00.keep K21 all0
  obtain ⟨_, T24, L24, X24, ⟨t, kt, rfl, Nq24, Kq24, sq24, f124, f224, f324, f424⟩, st24⟩ := oCN (y := yM60) X21 cc23 hx hZ hown hml (q 2 rfl) e21 b rfl (W 156 rfl) (W 157 rfl) (W 158 rfl) (by decide) [] [.ref b] (lenOf own_pd4 rfl) (bO (own_sb0 l Z a0 hw b z h21 n0 Zs1 fa22 O2 P5 A21 F_value_b F_coder_b F_count_b gn_b) hZ (W 158 rfl) w_155)
  have N24 := Fr.app N0 Nq24
  have b_t : h21.size ≤ t := sq24
  have gn_t := Nat.le_trans Zs1 b_t
  have s0_t := Nat.le_trans KK1.1 b_t
  have ml_t := Nat.le_trans Ms1 b_t
  have fa25 := Fp.keep K21 nin0
  have ne_tm_t := oN fa25.lt b_t
  have fa26 := R1.keep K21
  have ne_y_t := oN fa26.lt b_t
  have fa27 := R3.keep K21 nin0
  have ne_g_t := oN fa27.lt b_t
  have ne_b_t := oN A21.lt b_t
  have KK2 := KK1.trans Kq24 (allS (Or.inr s0_b) all0)
  have Zs2 := Nat.le_trans Zs1 Kq24.1
  have Ms2 := Nat.le_trans Ms1 Kq24.1
  have e24 : T24.heap = T24.heap := rfl
  have cc29 : oQ X24 S0' 7 #[sR tm, uN, uN, uN, uN] [.ref b] := st24
  have fa28 := A21.keep Kq24
  have hp0 : ∀ c' ∈ ([] : List Int32), ¬ c' < 0 ∧ ¬ (255 : Int32) < c' := by simp
  have cc31 : oQ X24 S0' 9 #[sR tm, sR b, uN, uN, uN] [.ref tm] := Steps.trans cc29 (by
    refine XS.astoreN X24.here hx rfl (q 3 rfl) rfl rfl rfl ?_
    refine XS.aloadN X24.here hx rfl (q 4 rfl) rfl rfl ?_
    exact Steps.refl _)
  have fa30 := fa25.keep Kq24 (ninS ne_tm_b nin0)
  obtain ⟨T32, X32, e32, st32⟩ := oGF X24 cc31 hx hZ hown (W 142 rfl) Via.refl e24 fa30 (q 5 rfl)
  have cc34 : oQ X32 S0' 12 #[sR tm, sR b, uN, uN, uN] [.ref y] := st32
  have fa33 := fa26.keep Kq24
  have fa35 := (R2.keep K21 nin0).keep Kq24 (ninS ne_y_b nin0)
  have fa36 := fa27.keep Kq24 (ninS ne_g_b nin0)
  obtain ⟨_, T37, L37, X37, ⟨it, rfl, Nq37, Kq37, sq37, Ei37, G137, G237, G337⟩, st37⟩ := oCI (y := yM77) (z := yM43) X32 cc34 hx hZ hown hml (q 6 rfl) e32 fa33 (W 171 rfl) (W 172 rfl) (mvT hZ (W 173 rfl)) (W 174 rfl) (W 175 rfl) (W 176 rfl) (W 177 rfl) (W 178 rfl) (by decide) [] [] (lenOf own_pd37 rfl) (bO (own_it3 l Z a0 hw y g kg u0 u1 u2 T24.heap n0 Zs2 fa33 fa35 fa36) hZ (W 180 rfl) (W 179 rfl))
  have N37 := Fr.app N24 Nq37
  have b_it : T24.heap.size ≤ it := sq37
  have gn_it := Nat.le_trans Zs2 b_it
  have s0_it := Nat.le_trans KK2.1 b_it
  have ml_it := Nat.le_trans Ms2 b_it
  have ne_tm_it := oN fa30.lt b_it
  have ne_y_it := oN fa33.lt b_it
  have ne_g_it := oN fa36.lt b_it
  have ne_b_it := oN fa28.lt b_it
  have ne_t_it := oN f424.lt b_it
  have KK3 := KK2.trans Kq37 all0
  have Zs3 := Nat.le_trans Zs2 Kq37.1
  have Ms3 := Nat.le_trans Ms2 Kq37.1
  have e37 : T37.heap = T37.heap := rfl
  have cc38 : oQ X37 S0' 19 #[sR tm, sR b, sR it, uN, uN] [.ref it] := Steps.trans st37 (by
    refine XS.astoreN X37.here hx rfl (q 7 rfl) rfl rfl rfl ?_
    refine XS.aloadN X37.here hx rfl (q 8 rfl) rfl rfl ?_
    exact Steps.refl _)
  obtain ⟨_, T39, L39, X39, ⟨rfl, Nq39, eq39⟩, st39⟩ := oCI (y := yM78) (z := yM44) X37 cc38 hx hZ hown hml (q 9 rfl) e37 Ei37 w_206 w_207 (mvT hZ w_208) w_209 w_210 w_211 w_212 w_213 (by decide) [] [] (lenOf own_pd17 rfl) (bO (own_hn1 l Z a0 hw it 0 3 T37.heap n0 Zs3 G237 G337 (by decide)) hZ w_214 w_183)
  have N39 := Fr.app N37 Nq39
  have cc41 : oQ X39 S0' 28 #[sR tm, sR b, sR it, uN, uN] [.ref it] := Steps.trans st39 (by
    refine XS.ifNo X39.here hx rfl (q 10 rfl) rfl (i0_eq_f (by decide)) ?_
    refine XS.aloadN X39.here hx rfl (q 15 rfl) rfl rfl ?_
    exact Steps.refl _)
  have fa40 := fa33.keep Kq37
  have fa42 := fa35.keep Kq37 nin0
  have fa43 := fa36.keep Kq37 nin0
  obtain ⟨_, T44, L44, X44, ⟨rfl, Nq44, Kq44, G144, G244, G344⟩, st44⟩ := oCI (y := yM80) (z := yM47) X39 cc41 hx hZ hown hml (q 16 rfl) eq39 Ei37 (W 383 rfl) (W 384 rfl) (mvT hZ (W 385 rfl)) (W 386 rfl) (W 387 rfl) (W 388 rfl) (W 389 rfl) w_213 (by decide) [] [] (lenOf own_pd40 rfl) (bW (own_nx3_0 l Z a0 hw it y g kg u0 u1 u2 T37.heap n0 Zs3 Ei37 G137 G237 G337 gn_it fa40 fa42 fa43) hZ (W 390 rfl) w_183)
  have N44 := Fr.app N39 Nq44
  have KK4 := KK3.trans Kq44 (allS (Or.inr s0_it) all0)
  have Zs4 := Nat.le_trans Zs3 Kq44.1
  have Ms4 := Nat.le_trans Ms3 Kq44.1
  have e44 : T44.heap = T44.heap := rfl
  have cc46 : oQ X44 S0' 33 #[sR tm, sR b, sR it, uN, uN] [.ref u0] := st44
  have fa45 := (((P0.up K21 all0).up Kq24 (allS ml_b all0)).up Kq37 all0).up Kq44 (allS ml_it all0)
  obtain ⟨T47, X47, e47, st47⟩ := castY X44 hx hZ hown (W 399 rfl) e44 (own_P.part hw fa45) (g := (mkF m 33 #[sR tm, sR b, sR it, uN, uN] [.ref u0])) rfl rfl (q 17 rfl)
  have cc48 : oQ X47 S0' 38 #[sR tm, sR b, sR it, sR u0, uN] [.ref u0] := Steps.trans (cc46.trans (st47 _ (Steps.refl _))) (by
    refine XS.astoreN X47.here hx rfl (q 18 rfl) rfl rfl rfl ?_
    refine XS.aloadN X47.here hx rfl (q 19 rfl) rfl rfl ?_
    exact Steps.refl _)
  have fa49 := Ei37.keep Kq44
  rcases fa45 with ⟨lu0, ⟨rfl, Ec0⟩ | ⟨cs0, x0, rfl, hl0, Ec0, Fx0, Lx0⟩⟩
  · skip
    obtain ⟨T50, X50, e50, st50⟩ := instNo X47 hx hZ hown w_401 e47 Ec0 (own_notx hw) (g := (mkF m 38 #[sR tm, sR b, sR it, sR u0, uN] [.ref u0])) rfl rfl (q 20 rfl)
    have cc52 : oQ X50 S0' 63 #[sR tm, sR b, sR it, sR u0, uN] [] := Steps.trans (cc48.trans (st50 _ (Steps.refl _))) (by
      refine XS.ifYes X50.here hx rfl (pc0 := 41) rfl (q 21 rfl) rfl (i0_eq_t rfl) (by decide) rfl ?_
      exact Steps.refl _)
    have fa51 := ((fa22.keep Kq24 (allS gn_b all0)).keep Kq37 all0).keep Kq44 (allS gn_it all0)
    obtain ⟨_, T53, L53, X53, ⟨rfl, Nq53, eq53⟩, st53⟩ := oCT (y := yM51) X50 cc52 hx hZ hown hml (q 22 rfl) e50 (W 457 rfl) (W 458 rfl) w_268 w_459 (by decide) [] [] (lenOf own_pd41 rfl) (bO (own_ope l Z a0 hw oe T44.heap n0 Zs4 fa51 OO) hZ w_459 w_268)
    have N53 := Fr.app N44 Nq53
    have cc54 : oQ X53 S0' 66 #[sR tm, sR b, sR it, sR u0, uN] [.ref oe] := st53
    exact oRA X53 Bd cc54 (q 23 rfl) rfl (rfl) rfl eq53 ⟨oe, rfl, N53, KK4, EO.ext fa51.2, Or.inl ⟨rfl, FO.ext fa51.2⟩⟩
  · skip
    obtain ⟨T50, X50, e50, st50⟩ := instY X47 hx hZ hown w_401 e47 (Ins.self Ec0) (g := (mkF m 38 #[sR tm, sR b, sR it, sR u0, uN] [.ref u0])) rfl rfl (q 20 rfl)
    have cc51 : oQ X50 S0' 45 #[sR tm, sR b, sR it, sR u0, uN] [.ref u0] := Steps.trans (cc48.trans (st50 _ (Steps.refl _))) (by
      refine XS.ifNo X50.here hx rfl (q 21 rfl) rfl (i0_eq_f (by decide)) ?_
      refine XS.aloadN X50.here hx rfl (q 24 rfl) rfl rfl ?_
      exact Steps.refl _)
    obtain ⟨T52, X52, e52, st52⟩ := castY X50 hx hZ hown w_401 e50 (Ins.self Ec0) (g := (mkF m 45 #[sR tm, sR b, sR it, sR u0, uN] [.ref u0])) rfl rfl (q 25 rfl)
    have cc53 : oQ X52 S0' 53 #[sR tm, sR b, sR it, sR u0, sR u0] [.ref u0, .ref b] := Steps.trans (cc51.trans (st52 _ (Steps.refl _))) (by
      refine XS.astore X52.here hx rfl (q 26 rfl) rfl rfl rfl ?_
      refine XS.aloadN X52.here hx rfl (q 27 rfl) rfl rfl ?_
      refine XS.aload X52.here hx rfl (q 28 rfl) rfl rfl ?_
      exact Steps.refl _)
    obtain ⟨_, T54, L54, X54, ⟨rfl, Nq54, eq54⟩, st54⟩ := oCV (y := yM12) (z := yM12) X52 cc53 hx hZ hown hml (q 29 rfl) e52 Ec0 (W 403 rfl) (W 404 rfl) (notFace_of_selects (args := #[]) (mvT hZ w_406)) w_406 (W 405 rfl) (by decide) [] [.ref b] (lenOf own_pd38 rfl) (bO (own_txt l Z a0 hw u0 x0 T44.heap n0 Zs4 Fx0) hZ (W 407 rfl) (W 73 rfl))
    have N54 := Fr.app N44 Nq54
    have cc56 : oQ X54 S0' 56 #[sR tm, sR b, sR it, sR u0, sR u0] [.ref x0, .ref b] := st54
    have fa55 := ((fa22.keep Kq24 (allS gn_b all0)).keep Kq37 all0).keep Kq44 (allS gn_it all0)
    have fa57 := (fa28.keep Kq37).keep Kq44
    have fa58 := (f124.keep Kq37 nin0).keep Kq44 (ninS ne_b_it nin0)
    have fa59 := (f224.keep Kq37 nin0).keep Kq44 (ninS ne_b_it nin0)
    have fa60 := (f324.keep Kq37 nin0).keep Kq44 (ninS ne_b_it nin0)
    have fa61 := (f424.keep Kq37 nin0).keep Kq44 (ninS ne_t_it nin0)
    obtain ⟨_, T62, L62, X62, ⟨rfl, Nq62, Kq62, f162, f262, f362, f462⟩, st62⟩ := oCV (y := yM66) (z := yM66) X54 cc56 hx hZ hown hml (q 30 rfl) eq54 fa57 (W 408 rfl) (W 409 rfl) (notFace_of_selects (args := #[]) (mvT hZ w_411)) w_411 (W 410 rfl) (by decide) [.ref x0] [] (lenOf own_pd42 rfl) (bO (own_app l Z a0 hw b t kt ([] : List Int32) x0 cs0 z T44.heap n0 Zs4 fa55 O2 P5 fa57 fa58 fa59 fa60 fa61 Lx0.1 gn_b gn_t (by simp; omega)) hZ (W 412 rfl) w_155)
    have N62 := Fr.app N54 Nq62
    have KK5 := KK4.trans Kq62 (allS (Or.inr s0_b) (allS (Or.inr s0_t) all0))
    have Zs5 := Nat.le_trans Zs4 Kq62.1
    have Ms5 := Nat.le_trans Ms4 Kq62.1
    have e62 : T62.heap = T62.heap := rfl
    have hp1 := own_lapp hp0 Lx0.1.2.2.1
    have cc64 : oQ X62 S0' 59 #[sR tm, sR b, sR it, sR u0, sR u0] [.ref b] := st62
    have fa63 := fa57.keep Kq62
    have cc66 : oQ X62 S0' 19 #[sR tm, sR b, sR it, sR u0, sR u0] [.ref it] := Steps.trans cc64 (by
      refine XT.pop X62.here hx rfl (q 31 rfl) rfl rfl ?_
      refine XS.goto X62.here hx rfl (pc0 := 60) rfl (q 32 rfl) (by decide) rfl ?_
      refine XS.goto X62.here hx rfl (pc0 := 67) rfl (q 33 rfl) (by decide) rfl ?_
      refine XS.aloadN X62.here hx rfl (q 8 rfl) rfl rfl ?_
      exact Steps.refl _)
    have fa65 := G244.keep Kq62 (ninS (Ne.symm ne_b_it) (ninS (Ne.symm ne_t_it) nin0))
    have fa67 := G344.keep Kq62 (ninS (Ne.symm ne_b_it) (ninS (Ne.symm ne_t_it) nin0))
    have fa68 := fa49.keep Kq62
    obtain ⟨_, T69, L69, X69, ⟨rfl, Nq69, eq69⟩, st69⟩ := oCI (y := yM78) (z := yM44) X62 cc66 hx hZ hown hml (q 9 rfl) e62 fa68 w_206 w_207 (mvT hZ w_208) w_209 w_210 w_211 w_212 w_213 (by decide) [] [] (lenOf own_pd17 rfl) (bO (own_hn1 l Z a0 hw it 1 3 T62.heap n0 Zs5 fa65 fa67 (by decide)) hZ w_214 w_183)
    have N69 := Fr.app N62 Nq69
    have cc71 : oQ X69 S0' 28 #[sR tm, sR b, sR it, sR u0, sR u0] [.ref it] := Steps.trans st69 (by
      refine XS.ifNo X69.here hx rfl (q 10 rfl) rfl (i0_eq_f (by decide)) ?_
      refine XS.aloadN X69.here hx rfl (q 15 rfl) rfl rfl ?_
      exact Steps.refl _)
    have fa70 := G144.keep Kq62 (ninS (Ne.symm ne_b_it) (ninS (Ne.symm ne_t_it) nin0))
    have fa72 := (fa40.keep Kq44).keep Kq62
    have fa73 := (fa42.keep Kq44 (ninS ne_y_it nin0)).keep Kq62 (ninS ne_y_b (ninS ne_y_t nin0))
    have fa74 := (fa43.keep Kq44 (ninS ne_g_it nin0)).keep Kq62 (ninS ne_g_b (ninS ne_g_t nin0))
    obtain ⟨_, T75, L75, X75, ⟨rfl, Nq75, Kq75, G175, G275, G375⟩, st75⟩ := oCI (y := yM80) (z := yM47) X69 cc71 hx hZ hown hml (q 16 rfl) eq69 fa68 (W 383 rfl) (W 384 rfl) (mvT hZ (W 385 rfl)) (W 386 rfl) (W 387 rfl) (W 388 rfl) (W 389 rfl) w_213 (by decide) [] [] (lenOf own_pd40 rfl) (bW (own_nx3_1 l Z a0 hw it y g kg u0 u1 u2 T62.heap n0 Zs5 fa68 fa70 fa65 fa67 gn_it fa72 fa73 fa74) hZ (W 390 rfl) w_183)
    have N75 := Fr.app N69 Nq75
    have KK6 := KK5.trans Kq75 (allS (Or.inr s0_it) all0)
    have Zs6 := Nat.le_trans Zs5 Kq75.1
    have Ms6 := Nat.le_trans Ms5 Kq75.1
    have e75 : T75.heap = T75.heap := rfl
    have cc77 : oQ X75 S0' 33 #[sR tm, sR b, sR it, sR u0, sR u0] [.ref u1] := st75
    have fa76 := (((((P1.up K21 all0).up Kq24 (allS ml_b all0)).up Kq37 all0).up Kq44 (allS ml_it all0)).up Kq62 (allS ml_b (allS ml_t all0))).up Kq75 (allS ml_it all0)
    obtain ⟨T78, X78, e78, st78⟩ := castY X75 hx hZ hown (W 399 rfl) e75 (own_P.part hw fa76) (g := (mkF m 33 #[sR tm, sR b, sR it, sR u0, sR u0] [.ref u1])) rfl rfl (q 17 rfl)
    have cc79 : oQ X78 S0' 38 #[sR tm, sR b, sR it, sR u1, sR u0] [.ref u1] := Steps.trans (cc77.trans (st78 _ (Steps.refl _))) (by
      refine XS.astoreN X78.here hx rfl (q 18 rfl) rfl rfl rfl ?_
      refine XS.aloadN X78.here hx rfl (q 19 rfl) rfl rfl ?_
      exact Steps.refl _)
    have fa80 := fa68.keep Kq75
    rcases fa76 with ⟨lu1, ⟨rfl, Ec1⟩ | ⟨cs1, x1, rfl, hl1, Ec1, Fx1, Lx1⟩⟩
    · skip
      obtain ⟨T81, X81, e81, st81⟩ := instNo X78 hx hZ hown w_401 e78 Ec1 (own_notx hw) (g := (mkF m 38 #[sR tm, sR b, sR it, sR u1, sR u0] [.ref u1])) rfl rfl (q 20 rfl)
      have cc83 : oQ X81 S0' 63 #[sR tm, sR b, sR it, sR u1, sR u0] [] := Steps.trans (cc79.trans (st81 _ (Steps.refl _))) (by
        refine XS.ifYes X81.here hx rfl (pc0 := 41) rfl (q 21 rfl) rfl (i0_eq_t rfl) (by decide) rfl ?_
        exact Steps.refl _)
      have fa82 := (fa55.keep Kq62 (allS gn_b (allS gn_t all0))).keep Kq75 (allS gn_it all0)
      obtain ⟨_, T84, L84, X84, ⟨rfl, Nq84, eq84⟩, st84⟩ := oCT (y := yM51) X81 cc83 hx hZ hown hml (q 22 rfl) e81 (W 457 rfl) (W 458 rfl) w_268 w_459 (by decide) [] [] (lenOf own_pd41 rfl) (bO (own_ope l Z a0 hw oe T75.heap n0 Zs6 fa82 OO) hZ w_459 w_268)
      have N84 := Fr.app N75 Nq84
      have cc85 : oQ X84 S0' 66 #[sR tm, sR b, sR it, sR u1, sR u0] [.ref oe] := st84
      exact oRA X84 Bd cc85 (q 23 rfl) rfl (rfl) rfl eq84 ⟨oe, rfl, N84, KK6, EO.ext fa82.2, Or.inl ⟨rfl, FO.ext fa82.2⟩⟩
    · skip
      obtain ⟨T81, X81, e81, st81⟩ := instY X78 hx hZ hown w_401 e78 (Ins.self Ec1) (g := (mkF m 38 #[sR tm, sR b, sR it, sR u1, sR u0] [.ref u1])) rfl rfl (q 20 rfl)
      have cc82 : oQ X81 S0' 45 #[sR tm, sR b, sR it, sR u1, sR u0] [.ref u1] := Steps.trans (cc79.trans (st81 _ (Steps.refl _))) (by
        refine XS.ifNo X81.here hx rfl (q 21 rfl) rfl (i0_eq_f (by decide)) ?_
        refine XS.aloadN X81.here hx rfl (q 24 rfl) rfl rfl ?_
        exact Steps.refl _)
      obtain ⟨T83, X83, e83, st83⟩ := castY X81 hx hZ hown w_401 e81 (Ins.self Ec1) (g := (mkF m 45 #[sR tm, sR b, sR it, sR u1, sR u0] [.ref u1])) rfl rfl (q 25 rfl)
      have cc84 : oQ X83 S0' 53 #[sR tm, sR b, sR it, sR u1, sR u1] [.ref u1, .ref b] := Steps.trans (cc82.trans (st83 _ (Steps.refl _))) (by
        refine XS.astore X83.here hx rfl (q 26 rfl) rfl rfl rfl ?_
        refine XS.aloadN X83.here hx rfl (q 27 rfl) rfl rfl ?_
        refine XS.aload X83.here hx rfl (q 28 rfl) rfl rfl ?_
        exact Steps.refl _)
      obtain ⟨_, T85, L85, X85, ⟨rfl, Nq85, eq85⟩, st85⟩ := oCV (y := yM12) (z := yM12) X83 cc84 hx hZ hown hml (q 29 rfl) e83 Ec1 (W 403 rfl) (W 404 rfl) (notFace_of_selects (args := #[]) (mvT hZ w_406)) w_406 (W 405 rfl) (by decide) [] [.ref b] (lenOf own_pd38 rfl) (bO (own_txt l Z a0 hw u1 x1 T75.heap n0 Zs6 Fx1) hZ (W 407 rfl) (W 73 rfl))
      have N85 := Fr.app N75 Nq85
      have cc87 : oQ X85 S0' 56 #[sR tm, sR b, sR it, sR u1, sR u1] [.ref x1, .ref b] := st85
      have fa86 := (fa55.keep Kq62 (allS gn_b (allS gn_t all0))).keep Kq75 (allS gn_it all0)
      have fa88 := fa63.keep Kq75
      have fa89 := f162.keep Kq75 (ninS ne_b_it nin0)
      have fa90 := f262.keep Kq75 (ninS ne_b_it nin0)
      have fa91 := f362.keep Kq75 (ninS ne_b_it nin0)
      have fa92 := f462.keep Kq75 (ninS ne_t_it nin0)
      obtain ⟨_, T93, L93, X93, ⟨rfl, Nq93, Kq93, f193, f293, f393, f493⟩, st93⟩ := oCV (y := yM66) (z := yM66) X85 cc87 hx hZ hown hml (q 30 rfl) eq85 fa88 (W 408 rfl) (W 409 rfl) (notFace_of_selects (args := #[]) (mvT hZ w_411)) w_411 (W 410 rfl) (by decide) [.ref x1] [] (lenOf own_pd42 rfl) (bO (own_app l Z a0 hw b t kt (([] : List Int32) ++ cs0) x1 cs1 z T75.heap n0 Zs6 fa86 O2 P5 fa88 fa89 fa90 fa91 fa92 Lx1.1 gn_b gn_t (by simp; omega)) hZ (W 412 rfl) w_155)
      have N93 := Fr.app N85 Nq93
      have KK7 := KK6.trans Kq93 (allS (Or.inr s0_b) (allS (Or.inr s0_t) all0))
      have Zs7 := Nat.le_trans Zs6 Kq93.1
      have Ms7 := Nat.le_trans Ms6 Kq93.1
      have e93 : T93.heap = T93.heap := rfl
      have hp2 := own_lapp hp1 Lx1.1.2.2.1
      have cc95 : oQ X93 S0' 59 #[sR tm, sR b, sR it, sR u1, sR u1] [.ref b] := st93
      have fa94 := fa88.keep Kq93
      have cc97 : oQ X93 S0' 19 #[sR tm, sR b, sR it, sR u1, sR u1] [.ref it] := Steps.trans cc95 (by
        refine XT.pop X93.here hx rfl (q 31 rfl) rfl rfl ?_
        refine XS.goto X93.here hx rfl (pc0 := 60) rfl (q 32 rfl) (by decide) rfl ?_
        refine XS.goto X93.here hx rfl (pc0 := 67) rfl (q 33 rfl) (by decide) rfl ?_
        refine XS.aloadN X93.here hx rfl (q 8 rfl) rfl rfl ?_
        exact Steps.refl _)
      have fa96 := G275.keep Kq93 (ninS (Ne.symm ne_b_it) (ninS (Ne.symm ne_t_it) nin0))
      have fa98 := G375.keep Kq93 (ninS (Ne.symm ne_b_it) (ninS (Ne.symm ne_t_it) nin0))
      have fa99 := fa80.keep Kq93
      obtain ⟨_, T100, L100, X100, ⟨rfl, Nq100, eq100⟩, st100⟩ := oCI (y := yM78) (z := yM44) X93 cc97 hx hZ hown hml (q 9 rfl) e93 fa99 w_206 w_207 (mvT hZ w_208) w_209 w_210 w_211 w_212 w_213 (by decide) [] [] (lenOf own_pd17 rfl) (bO (own_hn1 l Z a0 hw it 2 3 T93.heap n0 Zs7 fa96 fa98 (by decide)) hZ w_214 w_183)
      have N100 := Fr.app N93 Nq100
      have cc102 : oQ X100 S0' 28 #[sR tm, sR b, sR it, sR u1, sR u1] [.ref it] := Steps.trans st100 (by
        refine XS.ifNo X100.here hx rfl (q 10 rfl) rfl (i0_eq_f (by decide)) ?_
        refine XS.aloadN X100.here hx rfl (q 15 rfl) rfl rfl ?_
        exact Steps.refl _)
      have fa101 := G175.keep Kq93 (ninS (Ne.symm ne_b_it) (ninS (Ne.symm ne_t_it) nin0))
      have fa103 := (fa72.keep Kq75).keep Kq93
      have fa104 := (fa73.keep Kq75 (ninS ne_y_it nin0)).keep Kq93 (ninS ne_y_b (ninS ne_y_t nin0))
      have fa105 := (fa74.keep Kq75 (ninS ne_g_it nin0)).keep Kq93 (ninS ne_g_b (ninS ne_g_t nin0))
      obtain ⟨_, T106, L106, X106, ⟨rfl, Nq106, Kq106, G1106, G2106, G3106⟩, st106⟩ := oCI (y := yM80) (z := yM47) X100 cc102 hx hZ hown hml (q 16 rfl) eq100 fa99 (W 383 rfl) (W 384 rfl) (mvT hZ (W 385 rfl)) (W 386 rfl) (W 387 rfl) (W 388 rfl) (W 389 rfl) w_213 (by decide) [] [] (lenOf own_pd40 rfl) (bW (own_nx3_2 l Z a0 hw it y g kg u0 u1 u2 T93.heap n0 Zs7 fa99 fa101 fa96 fa98 gn_it fa103 fa104 fa105) hZ (W 390 rfl) w_183)
      have N106 := Fr.app N100 Nq106
      have KK8 := KK7.trans Kq106 (allS (Or.inr s0_it) all0)
      have Zs8 := Nat.le_trans Zs7 Kq106.1
      have Ms8 := Nat.le_trans Ms7 Kq106.1
      have e106 : T106.heap = T106.heap := rfl
      have cc108 : oQ X106 S0' 33 #[sR tm, sR b, sR it, sR u1, sR u1] [.ref u2] := st106
      have fa107 := (((((((P2.up K21 all0).up Kq24 (allS ml_b all0)).up Kq37 all0).up Kq44 (allS ml_it all0)).up Kq62 (allS ml_b (allS ml_t all0))).up Kq75 (allS ml_it all0)).up Kq93 (allS ml_b (allS ml_t all0))).up Kq106 (allS ml_it all0)
      obtain ⟨T109, X109, e109, st109⟩ := castY X106 hx hZ hown (W 399 rfl) e106 (own_P.part hw fa107) (g := (mkF m 33 #[sR tm, sR b, sR it, sR u1, sR u1] [.ref u2])) rfl rfl (q 17 rfl)
      have cc110 : oQ X109 S0' 38 #[sR tm, sR b, sR it, sR u2, sR u1] [.ref u2] := Steps.trans (cc108.trans (st109 _ (Steps.refl _))) (by
        refine XS.astoreN X109.here hx rfl (q 18 rfl) rfl rfl rfl ?_
        refine XS.aloadN X109.here hx rfl (q 19 rfl) rfl rfl ?_
        exact Steps.refl _)
      have fa111 := fa99.keep Kq106
      rcases fa107 with ⟨lu2, ⟨rfl, Ec2⟩ | ⟨cs2, x2, rfl, hl2, Ec2, Fx2, Lx2⟩⟩
      · skip
        obtain ⟨T112, X112, e112, st112⟩ := instNo X109 hx hZ hown w_401 e109 Ec2 (own_notx hw) (g := (mkF m 38 #[sR tm, sR b, sR it, sR u2, sR u1] [.ref u2])) rfl rfl (q 20 rfl)
        have cc114 : oQ X112 S0' 63 #[sR tm, sR b, sR it, sR u2, sR u1] [] := Steps.trans (cc110.trans (st112 _ (Steps.refl _))) (by
          refine XS.ifYes X112.here hx rfl (pc0 := 41) rfl (q 21 rfl) rfl (i0_eq_t rfl) (by decide) rfl ?_
          exact Steps.refl _)
        have fa113 := (fa86.keep Kq93 (allS gn_b (allS gn_t all0))).keep Kq106 (allS gn_it all0)
        obtain ⟨_, T115, L115, X115, ⟨rfl, Nq115, eq115⟩, st115⟩ := oCT (y := yM51) X112 cc114 hx hZ hown hml (q 22 rfl) e112 (W 457 rfl) (W 458 rfl) w_268 w_459 (by decide) [] [] (lenOf own_pd41 rfl) (bO (own_ope l Z a0 hw oe T106.heap n0 Zs8 fa113 OO) hZ w_459 w_268)
        have N115 := Fr.app N106 Nq115
        have cc116 : oQ X115 S0' 66 #[sR tm, sR b, sR it, sR u2, sR u1] [.ref oe] := st115
        exact oRA X115 Bd cc116 (q 23 rfl) rfl (rfl) rfl eq115 ⟨oe, rfl, N115, KK8, EO.ext fa113.2, Or.inl ⟨rfl, FO.ext fa113.2⟩⟩
      · skip
        obtain ⟨T112, X112, e112, st112⟩ := instY X109 hx hZ hown w_401 e109 (Ins.self Ec2) (g := (mkF m 38 #[sR tm, sR b, sR it, sR u2, sR u1] [.ref u2])) rfl rfl (q 20 rfl)
        have cc113 : oQ X112 S0' 45 #[sR tm, sR b, sR it, sR u2, sR u1] [.ref u2] := Steps.trans (cc110.trans (st112 _ (Steps.refl _))) (by
          refine XS.ifNo X112.here hx rfl (q 21 rfl) rfl (i0_eq_f (by decide)) ?_
          refine XS.aloadN X112.here hx rfl (q 24 rfl) rfl rfl ?_
          exact Steps.refl _)
        obtain ⟨T114, X114, e114, st114⟩ := castY X112 hx hZ hown w_401 e112 (Ins.self Ec2) (g := (mkF m 45 #[sR tm, sR b, sR it, sR u2, sR u1] [.ref u2])) rfl rfl (q 25 rfl)
        have cc115 : oQ X114 S0' 53 #[sR tm, sR b, sR it, sR u2, sR u2] [.ref u2, .ref b] := Steps.trans (cc113.trans (st114 _ (Steps.refl _))) (by
          refine XS.astore X114.here hx rfl (q 26 rfl) rfl rfl rfl ?_
          refine XS.aloadN X114.here hx rfl (q 27 rfl) rfl rfl ?_
          refine XS.aload X114.here hx rfl (q 28 rfl) rfl rfl ?_
          exact Steps.refl _)
        obtain ⟨_, T116, L116, X116, ⟨rfl, Nq116, eq116⟩, st116⟩ := oCV (y := yM12) (z := yM12) X114 cc115 hx hZ hown hml (q 29 rfl) e114 Ec2 (W 403 rfl) (W 404 rfl) (notFace_of_selects (args := #[]) (mvT hZ w_406)) w_406 (W 405 rfl) (by decide) [] [.ref b] (lenOf own_pd38 rfl) (bO (own_txt l Z a0 hw u2 x2 T106.heap n0 Zs8 Fx2) hZ (W 407 rfl) (W 73 rfl))
        have N116 := Fr.app N106 Nq116
        have cc118 : oQ X116 S0' 56 #[sR tm, sR b, sR it, sR u2, sR u2] [.ref x2, .ref b] := st116
        have fa117 := (fa86.keep Kq93 (allS gn_b (allS gn_t all0))).keep Kq106 (allS gn_it all0)
        have fa119 := fa94.keep Kq106
        have fa120 := f193.keep Kq106 (ninS ne_b_it nin0)
        have fa121 := f293.keep Kq106 (ninS ne_b_it nin0)
        have fa122 := f393.keep Kq106 (ninS ne_b_it nin0)
        have fa123 := f493.keep Kq106 (ninS ne_t_it nin0)
        obtain ⟨_, T124, L124, X124, ⟨rfl, Nq124, Kq124, f1124, f2124, f3124, f4124⟩, st124⟩ := oCV (y := yM66) (z := yM66) X116 cc118 hx hZ hown hml (q 30 rfl) eq116 fa119 (W 408 rfl) (W 409 rfl) (notFace_of_selects (args := #[]) (mvT hZ w_411)) w_411 (W 410 rfl) (by decide) [.ref x2] [] (lenOf own_pd42 rfl) (bO (own_app l Z a0 hw b t kt ((([] : List Int32) ++ cs0) ++ cs1) x2 cs2 z T106.heap n0 Zs8 fa117 O2 P5 fa119 fa120 fa121 fa122 fa123 Lx2.1 gn_b gn_t (by simp; omega)) hZ (W 412 rfl) w_155)
        have N124 := Fr.app N116 Nq124
        have KK9 := KK8.trans Kq124 (allS (Or.inr s0_b) (allS (Or.inr s0_t) all0))
        have Zs9 := Nat.le_trans Zs8 Kq124.1
        have Ms9 := Nat.le_trans Ms8 Kq124.1
        have e124 : T124.heap = T124.heap := rfl
        have hp3 := own_lapp hp2 Lx2.1.2.2.1
        have cc126 : oQ X124 S0' 59 #[sR tm, sR b, sR it, sR u2, sR u2] [.ref b] := st124
        have fa125 := fa119.keep Kq124
        have cc128 : oQ X124 S0' 19 #[sR tm, sR b, sR it, sR u2, sR u2] [.ref it] := Steps.trans cc126 (by
          refine XT.pop X124.here hx rfl (q 31 rfl) rfl rfl ?_
          refine XS.goto X124.here hx rfl (pc0 := 60) rfl (q 32 rfl) (by decide) rfl ?_
          refine XS.goto X124.here hx rfl (pc0 := 67) rfl (q 33 rfl) (by decide) rfl ?_
          refine XS.aloadN X124.here hx rfl (q 8 rfl) rfl rfl ?_
          exact Steps.refl _)
        have fa127 := G2106.keep Kq124 (ninS (Ne.symm ne_b_it) (ninS (Ne.symm ne_t_it) nin0))
        have fa129 := G3106.keep Kq124 (ninS (Ne.symm ne_b_it) (ninS (Ne.symm ne_t_it) nin0))
        have fa130 := fa111.keep Kq124
        obtain ⟨_, T131, L131, X131, ⟨rfl, Nq131, eq131⟩, st131⟩ := oCI (y := yM78) (z := yM44) X124 cc128 hx hZ hown hml (q 9 rfl) e124 fa130 w_206 w_207 (mvT hZ w_208) w_209 w_210 w_211 w_212 w_213 (by decide) [] [] (lenOf own_pd17 rfl) (bO (own_hn0 l Z a0 hw it 3 3 T124.heap n0 Zs9 fa127 fa129 rfl) hZ w_214 w_183)
        have N131 := Fr.app N124 Nq131
        have cc133 : oQ X131 S0' 71 #[sR tm, sR b, sR it, sR u2, sR u2] [.ref b] := Steps.trans st131 (by
          refine XS.ifYes X131.here hx rfl (pc0 := 24) rfl (q 10 rfl) rfl (i0_eq_t rfl) (by decide) rfl ?_
          refine XS.aloadN X131.here hx rfl (q 11 rfl) rfl rfl ?_
          exact Steps.refl _)
        have fa132 := fa117.keep Kq124 (allS gn_b (allS gn_t all0))
        obtain ⟨_, T134, L134, X134, ⟨x, rfl, Nq134, Kq134, sq134, Hx⟩, st134⟩ := oCV (y := yM76) (z := yM76) X131 cc133 hx hZ hown hml (q 12 rfl) eq131 fa125 (W 215 rfl) (W 216 rfl) (notFace_of_selects (args := #[]) (mvT hZ (W 218 rfl))) (W 218 rfl) (W 217 rfl) (by decide) [] [] (lenOf own_pd38 rfl) (bO (own_tos l Z a0 hw b t kt (((([] : List Int32) ++ cs0) ++ cs1) ++ cs2) z T124.heap n0 Zs9 fa132 O2 P5 fa125 f1124 f2124 f3124 f4124 hp3 (by simp; omega)) hZ (W 219 rfl) w_155)
        have N134 := Fr.app N131 Nq134
        have KK10 := KK9.trans Kq134 all0
        have Zs10 := Nat.le_trans Zs9 Kq134.1
        have Ms10 := Nat.le_trans Ms9 Kq134.1
        have e134 : T134.heap = T134.heap := rfl
        have cc135 : oQ X134 S0' 74 #[sR tm, sR b, sR it, sR u2, sR u2] [.ref x] := st134
        obtain ⟨_, T136, L136, X136, ⟨o, rfl, Nq136, Kq136, Eo, Fo⟩, st136⟩ := oCT (y := yM50) X134 cc135 hx hZ hown hml (q 13 rfl) e134 (W 266 rfl) (W 267 rfl) w_268 (W 269 rfl) (by decide) [.ref x] [] (lenOf own_pd39 rfl) (bO (own_opo l Z a0 hw x T134.heap n0 Zs10 ) hZ (W 269 rfl) w_268)
        have N136 := Fr.app N134 Nq136
        have KK11 := KK10.trans Kq136 all0
        have Zs11 := Nat.le_trans Zs10 Kq136.1
        have Ms11 := Nat.le_trans Ms10 Kq136.1
        have e136 : T136.heap = T136.heap := rfl
        have cc137 : oQ X136 S0' 77 #[sR tm, sR b, sR it, sR u2, sR u2] [.ref o] := st136
        exact oRA X136 Bd cc137 (q 14 rfl) rfl (rfl) rfl e136 ⟨o, rfl, N136, KK11, Eo, Or.inr ⟨_, x, rfl, Fo, Hx.keep0 Kq136⟩⟩
def Q_own_isL (Z : State) (x : Addr) (cd z : Int32) (h0 : Heap) (n0 : Nat) (v : Option Value) (h : Heap) (L : List Loc) : Prop := v = some (.int (1 - cd)) ∧ Fr n0 L ∧ h = h0
theorem own_isL (l : Launch) (Z : State) (a0 : Array Value) (hw : oH a0 Z) (x : Addr) (cd z : Int32) (h0 : Heap) (n0 : Nat) (Z0 : n0 ≤ h0.size) (X00 : Old Z n0 h0) (O2 : Sta Z Z.heap "java/lang/String" "COMPACT_STRINGS" "Z" (.int z)) (P5 : ¬ z = 0) (C : zF11 Z h0 x (.int cd)) (hcd : cd = 0 ∨ cd = 1) :
    oC l yM81 (.code yM81 jdk_42_method_154_code 1 (some .boolean)) rM1 #[(.ref x)] Z h0 (Q_own_isL Z x cd z h0 n0) := by
  refine oO (plainFor_of_name own_pn3) hisR fun p e s m below meth c s₁ S0' Bd hS hx dB hml hown hnm hZ X0 e0 => ?_
  have N0 := Fr.nil n0
  have KK0 := Keep.refl h0 ([] : List Addr)
  have cc0 : oQ X0 S0' 0 #[sR x] [] := oE hS rfl
  have W := @own_w Z a0 hw
  have q := @dX _ _ c D_74 @dB
  obtain ⟨T21, X21, e21, st21⟩ := oGS X0 cc0 hx hZ hown (host := "") (Or.inl (W 32 rfl)) Via.refl e0 (O2.ext X00.2) (q 0 rfl)
  have cc22 : oQ X21 S0' 7 #[sR x] [.ref x] := Steps.trans st21 (by
    refine XS.ifNo X21.here hx rfl (q 1 rfl) rfl (i0_eq_f P5) ?_
    refine XS.aloadN X21.here hx rfl (q 2 rfl) rfl rfl ?_
    exact Steps.refl _)
  obtain ⟨T23, X23, e23, st23⟩ := oGF X21 cc22 hx hZ hown (W 25 rfl) Via.refl e21 C (q 3 rfl)
  have cc24 : oQ X23 S0' 10 #[sR x] [.int cd] := st23
  rcases hcd with rfl | rfl
  · skip
    have cc25 : oQ X23 S0' 18 #[sR x] [.int 1] := Steps.trans cc24 (by
      refine XS.ifNo X23.here hx rfl (q 4 rfl) rfl (i0_ne_f rfl) ?_
      refine iconstV X23.here hx rfl 1 (q 5 rfl) (by decide) ?_
      refine XS.goto X23.here hx rfl (pc0 := 14) rfl (q 6 rfl) (by decide) rfl ?_
      exact Steps.refl _)
    exact oRI X23 Bd cc25 (q 7 rfl) rfl (rfl) (by simp) e23 ⟨rfl, N0, rfl⟩
  · skip
    have cc25 : oQ X23 S0' 18 #[sR x] [.int 0] := Steps.trans cc24 (by
      refine XS.ifYes X23.here hx rfl (pc0 := 10) rfl (q 4 rfl) rfl (i0_ne_t (by decide)) (by decide) rfl ?_
      refine iconstV X23.here hx rfl 0 (q 8 rfl) (by decide) ?_
      exact Steps.refl _)
    exact oRI X23 Bd cc25 (q 7 rfl) rfl (rfl) (by simp) e23 ⟨rfl, N0, rfl⟩
def Q_own_ck (Z : State) (a n : Int32) (f : Value) (h0 : Heap) (n0 : Nat) (v : Option Value) (h : Heap) (L : List Loc) : Prop := v = some (.int a) ∧ Fr n0 L ∧ h = h0
theorem own_ck (l : Launch) (Z : State) (a0 : Array Value) (hw : oH a0 Z) (a n : Int32) (f : Value) (h0 : Heap) (n0 : Nat) (Z0 : n0 ≤ h0.size) (h1 : ¬ a < 0) (h2 : a < n) (hf : f.isRef = true) :
    oC l yM82 (.code yM82 jdk_41_method_11_code 3 (some .int)) rM1 #[(.int a), (.int n), f] Z h0 (Q_own_ck Z a n f h0 n0) := by
  refine oO (plainFor_of_name own_pn23) hisR fun p e s m below meth c s₁ S0' Bd hS hx dB hml hown hnm hZ X0 e0 => ?_
  have N0 := Fr.nil n0
  have KK0 := Keep.refl h0 ([] : List Addr)
  have cc0 : oQ X0 S0' 0 #[sI a, sI n, .val f] [] := oE hS (by cases f <;> first | rfl | (cases hf))
  have W := @own_w Z a0 hw
  have q := @dX _ _ c D_75 @dB
  have cc21 : oQ X0 S0' 17 #[sI a, sI n, .val f] [.int a] := Steps.trans cc0 (by
    refine XS.iloadN X0.here hx rfl (q 0 rfl) rfl ?_
    refine XS.ifNo X0.here hx rfl (q 1 rfl) rfl (i0_lt_f h1) ?_
    refine XS.iloadN X0.here hx rfl (q 2 rfl) rfl ?_
    refine XS.iloadN X0.here hx rfl (q 3 rfl) rfl ?_
    refine XS.icmpYes X0.here hx rfl (pc0 := 6) rfl (q 4 rfl) rfl (ii_lt_t h2) (by decide) rfl ?_
    refine XS.iloadN X0.here hx rfl (q 5 rfl) rfl ?_
    exact Steps.refl _)
  exact oRI X0 Bd cc21 (q 6 rfl) rfl (rfl) (by simp) e0 ⟨rfl, N0, rfl⟩
def Q_own_sck (Z : State) (a n : Int32) (f : Value) (h0 : Heap) (n0 : Nat) (v : Option Value) (h : Heap) (L : List Loc) : Prop := v = none ∧ Fr n0 L ∧ h = h0
theorem own_sck (l : Launch) (Z : State) (a0 : Array Value) (hw : oH a0 Z) (a n : Int32) (f : Value) (h0 : Heap) (n0 : Nat) (Z0 : n0 ≤ h0.size) (X00 : Old Z n0 h0) (h1 : ¬ a < 0) (h2 : a < n) (O4 : Sta Z Z.heap "jdk/internal/util/Preconditions" "SIOOBE_FORMATTER" "Ljava/util/function/BiFunction;" f) (hf : f.isRef = true) :
    oC l yM83 (.code yM83 jdk_42_method_155_code 2 none) rM28 #[(.int a), (.int n)] Z h0 (Q_own_sck Z a n f h0 n0) := by
  refine oO (plainFor_of_name own_pn3) hisR fun p e s m below meth c s₁ S0' Bd hS hx dB hml hown hnm hZ X0 e0 => ?_
  have N0 := Fr.nil n0
  have KK0 := Keep.refl h0 ([] : List Addr)
  have cc0 : oQ X0 S0' 0 #[sI a, sI n] [] := oE hS rfl
  have W := @own_w Z a0 hw
  have q := @dX _ _ c D_76 @dB
  have cc21 : oQ X0 S0' 2 #[sI a, sI n] [.int n, .int a] := Steps.trans cc0 (by
    refine XS.iloadN X0.here hx rfl (q 0 rfl) rfl ?_
    refine XS.iloadN X0.here hx rfl (q 1 rfl) rfl ?_
    exact Steps.refl _)
  obtain ⟨T22, X22, e22, st22⟩ := oGS X0 cc21 hx hZ hown (host := "") (Or.inl (W 508 rfl)) Via.refl e0 (O4.ext X00.2) (q 2 rfl)
  have cc23 : oQ X22 S0' 5 #[sI a, sI n] [f, .int n, .int a] := st22
  obtain ⟨_, T24, L24, X24, ⟨rfl, Nq24, eq24⟩, st24⟩ := oCT (y := yM82) X22 cc23 hx hZ hown hml (q 3 rfl) e22 (W 510 rfl) (W 511 rfl) (W 509 rfl) (W 512 rfl) (by decide) [.int a, .int n, f] [] (lenOf own_pd43 rfl) (bO (own_ck l Z a0 hw a n f h0 n0 Z0 h1 h2 hf) hZ (W 512 rfl) (W 509 rfl))
  have N24 := Fr.app N0 Nq24
  have cc25 : oQ X24 S0' 9 #[sI a, sI n] [] := Steps.trans st24 (by
    refine XT.pop X24.here hx rfl (q 4 rfl) rfl rfl ?_
    exact Steps.refl _)
  exact oRV X24 Bd cc25 (q 5 rfl) rfl eq24 ⟨rfl, N24, rfl⟩
theorem own_i2c_id {c : Int32} (h : ¬ c < 0 ∧ ¬ (255 : Int32) < c) : c.toUInt32.toUInt16.toUInt32.toInt32 = c := own_nar h
def Q_own_lch (Z : State) (t : Addr) (kt : ClassId) (cs : List Int32) (i : Nat) (f : Value) (h0 : Heap) (n0 : Nat) (v : Option Value) (h : Heap) (L : List Loc) : Prop := v = some (.int (cs.getD i 0)) ∧ Fr n0 L ∧ h = h0
theorem own_lch (l : Launch) (Z : State) (a0 : Array Value) (hw : oH a0 Z) (t : Addr) (kt : ClassId) (cs : List Int32) (i : Nat) (f : Value) (h0 : Heap) (n0 : Nat) (Z0 : n0 ≤ h0.size) (X00 : Old Z n0 h0) (A : Arv Z h0 t kt .byte (Int32.ofNat cs.length) (own_by cs) (.int (0 : Int32))) (hi : i < cs.length) (hl : cs.length ≤ 4000) (O4 : Sta Z Z.heap "jdk/internal/util/Preconditions" "SIOOBE_FORMATTER" "Ljava/util/function/BiFunction;" f) (hf : f.isRef = true) (hp : ∀ c ∈ cs, ¬ c < 0 ∧ ¬ (255 : Int32) < c) :
    oC l yM84 (.code yM84 jdk_43_method_2_code 2 (some .char)) rM29 #[(.ref t), (.int (Int32.ofNat i))] Z h0 (Q_own_lch Z t kt cs i f h0 n0) := by
  refine oO (plainFor_of_name own_pn2) hisR fun p e s m below meth c s₁ S0' Bd hS hx dB hml hown hnm hZ X0 e0 => ?_
  have N0 := Fr.nil n0
  have KK0 := Keep.refl h0 ([] : List Addr)
  have cc0 : oQ X0 S0' 0 #[sR t, sI (Int32.ofNat i)] [] := oE hS rfl
  have W := @own_w Z a0 hw
  have q := @dX _ _ c D_77 @dB
  have hc : cs.getD i 0 ∈ cs := by rw [List.getD_eq_getElem?_getD, List.getElem?_eq_getElem hi]; exact List.getElem_mem _
  have cc21 : oQ X0 S0' 2 #[sR t, sI (Int32.ofNat i)] [.ref t, .int (Int32.ofNat i)] := Steps.trans cc0 (by
    refine XS.iloadN X0.here hx rfl (q 0 rfl) rfl ?_
    refine XS.aloadN X0.here hx rfl (q 1 rfl) rfl rfl ?_
    exact Steps.refl _)
  obtain ⟨clu22, Aru22, -, Su22, Ngu22, -, -⟩ := id A
  have cl_u22 := X0.arraylength hx (by rw [e0]; exact Aru22.1) (State.isArrayOf_alike (hZ).alike Aru22.2.1) (g := (mkF m 2 #[sR t, sI (Int32.ofNat i)] [.ref t, .int (Int32.ofNat i)])) rfl rfl (q 2 rfl) _ (Steps.refl _)
  rw [len_of Su22 Ngu22] at cl_u22
  have cc23 : oQ X0 S0' 3 #[sR t, sI (Int32.ofNat i)] [.int (Int32.ofNat cs.length), .int (Int32.ofNat i)] := (Steps.trans cc21 cl_u22)
  obtain ⟨_, T24, L24, X24, ⟨rfl, Nq24, eq24⟩, st24⟩ := oCT (y := yM83) X0 cc23 hx hZ hown hml (q 3 rfl) e0 (W 505 rfl) (W 506 rfl) (W 6 rfl) (W 507 rfl) (by decide) [.int (Int32.ofNat i), .int (Int32.ofNat cs.length)] [] (lenOf own_pd32 rfl) (bO (own_sck l Z a0 hw (Int32.ofNat i) (Int32.ofNat cs.length) f h0 n0 Z0 X00 (Int32.ofNat_not_neg (by omega)) (lt32 (by omega) hi) O4 hf) hZ (W 507 rfl) (W 6 rfl))
  have N24 := Fr.app N0 Nq24
  have cc25 : oQ X24 S0' 8 #[sR t, sI (Int32.ofNat i)] [.int (Int32.ofNat i), .ref t] := Steps.trans st24 (by
    refine XS.aloadN X24.here hx rfl (q 4 rfl) rfl rfl ?_
    refine XS.iloadN X24.here hx rfl (q 5 rfl) rfl ?_
    exact Steps.refl _)
  obtain ⟨clu26, Aru26, qu26, Su26, Ngu26, Hsu26, Gsu26⟩ := id A
  have inu26 : ¬ (Int32.ofNat i < 0 ∨ clu26.slots.size ≤ (Int32.ofNat i).toNatClampNeg) := inb_of Su26 ⟨Int32.ofNat_not_neg (by omega), lt32 (by omega) hi⟩
  have atu26 : clu26.slots[(Int32.ofNat i).toNatClampNeg]? = some (.int (StrChars.lo8 (cs.getD i 0))) := Hsu26.at inu26 (by rw [n32 (by omega)]; simp [own_by, List.getD_eq_getElem?_getD, List.getElem?_eq_getElem hi, StrChars.lo8])
  have cc27 : oQ X24 S0' 14 #[sR t, sI (Int32.ofNat i)] [.int (((StrChars.lo8 (cs.getD i 0)) &&& (255 : Int32)).toUInt32.toUInt16.toUInt32.toInt32)] := Steps.trans cc25 (by
    refine X24.baloadBytes hx (j := Int32.ofNat i) (v := (.int (StrChars.lo8 (cs.getD i 0)))) (by rw [eq24]; exact Aru26.1) (State.isArrayOf_alike (hZ).alike Aru26.2.1) Aru26.2.2 inu26 atu26 (g := (mkF m 8 #[sR t, sI (Int32.ofNat i)] [.int (Int32.ofNat i), .ref t])) rfl rfl (q 6 rfl) _ ?_
    refine sipushV X24.here hx rfl 255 (q 7 rfl) (by decide) ?_
    refine XS.iand X24.here hx rfl (q 8 rfl) rfl ?_
    refine XT.i2c X24.here hx rfl (q 9 rfl) rfl ?_
    exact Steps.refl _)
  have cz28 : oQ X24 S0' 14 #[sR t, sI (Int32.ofNat i)] [.int (cs.getD i 0)] := by
    have := cc27
    rw [StrChars.lo8_mask (hp _ hc).1 (hp _ hc).2, own_i2c_id (hp _ hc)] at this
    exact this
  exact oRI X24 Bd cz28 (q 10 rfl) rfl (StrChars.narrow_ch (own_up _ hp _ hc).1 (own_up _ hp _ hc).2) (by simp) eq24 ⟨rfl, N24, rfl⟩
def Q_own_chl (Z : State) (x : Addr) (cs : List Int32) (i : Nat) (z : Int32) (f : Value) (h0 : Heap) (n0 : Nat) (v : Option Value) (h : Heap) (L : List Loc) : Prop := v = some (.int (cs.getD i 0)) ∧ Fr n0 L ∧ h = h0
theorem own_chl (l : Launch) (Z : State) (a0 : Array Value) (hw : oH a0 Z) (x : Addr) (cs : List Int32) (i : Nat) (z : Int32) (f : Value) (h0 : Heap) (n0 : Nat) (Z0 : n0 ≤ h0.size) (X00 : Old Z n0 h0) (O2 : Sta Z Z.heap "java/lang/String" "COMPACT_STRINGS" "Z" (.int z)) (P5 : ¬ z = 0) (O4 : Sta Z Z.heap "jdk/internal/util/Preconditions" "SIOOBE_FORMATTER" "Ljava/util/function/BiFunction;" f) (hf : f.isRef = true) (Hx : own_Lat Z h0 x cs) (hi : i < cs.length) :
    oC l yM85 (.code yM85 jdk_42_method_56_code 2 (some .char)) rM51 #[(.ref x), (.int (Int32.ofNat i))] Z h0 (Q_own_chl Z x cs i z f h0 n0) := by
  refine oO (plainFor_of_name own_pn3) hisR fun p e s m below meth c s₁ S0' Bd hS hx dB hml hown hnm hZ X0 e0 => ?_
  have N0 := Fr.nil n0
  have KK0 := Keep.refl h0 ([] : List Addr)
  have cc0 : oQ X0 S0' 0 #[sR x, sI (Int32.ofNat i)] [] := oE hS rfl
  have W := @own_w Z a0 hw
  have q := @dX _ _ c D_78 @dB
  have hc : cs.getD i 0 ∈ cs := by rw [List.getD_eq_getElem?_getD, List.getElem?_eq_getElem hi]; exact List.getElem_mem _
  obtain ⟨Ex, Cx, px, lx, tx, kx, Vx, Ax⟩ := Hx
  have cc21 : oQ X0 S0' 1 #[sR x, sI (Int32.ofNat i)] [.ref x] := Steps.trans cc0 (by
    refine XS.aloadN X0.here hx rfl (q 0 rfl) rfl rfl ?_
    exact Steps.refl _)
  obtain ⟨_, T22, L22, X22, ⟨rfl, Nq22, eq22⟩, st22⟩ := oCV (y := yM81) (z := yM81) X0 cc21 hx hZ hown hml (q 1 rfl) e0 Ex (W 497 rfl) (W 498 rfl) (notFace_of_selects (args := #[]) (mvT hZ (W 500 rfl))) (W 500 rfl) (W 499 rfl) (by decide) [] [] (lenOf own_pd17 rfl) (bO (own_isL l Z a0 hw x 0 z h0 n0 Z0 X00 O2 P5 Cx (Or.inl rfl)) hZ (W 501 rfl) (W 6 rfl))
  have N22 := Fr.app N0 Nq22
  have cc23 : oQ X22 S0' 8 #[sR x, sI (Int32.ofNat i)] [.ref x] := Steps.trans st22 (by
    refine XS.ifNo X22.here hx rfl (q 2 rfl) rfl (i0_eq_f (by decide)) ?_
    refine XS.aloadN X22.here hx rfl (q 3 rfl) rfl rfl ?_
    exact Steps.refl _)
  obtain ⟨T24, X24, e24, st24⟩ := oGF X22 cc23 hx hZ hown (W 24 rfl) Via.refl eq22 Vx (q 4 rfl)
  have cc25 : oQ X24 S0' 12 #[sR x, sI (Int32.ofNat i)] [.int (Int32.ofNat i), .ref tx] := Steps.trans st24 (by
    refine XS.iloadN X24.here hx rfl (q 5 rfl) rfl ?_
    exact Steps.refl _)
  obtain ⟨_, T26, L26, X26, ⟨rfl, Nq26, eq26⟩, st26⟩ := oCT (y := yM84) X24 cc25 hx hZ hown hml (q 6 rfl) e24 (W 502 rfl) (W 503 rfl) (W 35 rfl) (W 504 rfl) (by decide) [.ref tx, .int (Int32.ofNat i)] [] (lenOf own_pd44 rfl) (bO (own_lch l Z a0 hw tx kx cs i f h0 n0 Z0 X00 Ax hi lx O4 hf px) hZ (W 504 rfl) (W 35 rfl))
  have N26 := Fr.app N22 Nq26
  have cc27 : oQ X26 S0' 15 #[sR x, sI (Int32.ofNat i)] [.int (cs.getD i 0)] := st26
  exact oRI X26 Bd cc27 (q 7 rfl) rfl (StrChars.narrow_ch (own_up _ px _ hc).1 (own_up _ px _ hc).2) (by simp) eq26 ⟨rfl, N26, rfl⟩
def Q_own_text (Z : State) (w z : Int32) (h0 : Heap) (n0 : Nat) (v : Option Value) (h : Heap) (L : List Loc) : Prop := ∃ (x : Addr) (cs : List Int32), v = some (.ref x) ∧ Fr n0 L ∧ Keep h0 h [] ∧ h0.size ≤ x ∧ cs.length ≤ 2 ∧ own_Lat Z h x cs
set_option maxRecDepth 65536 in
set_option maxHeartbeats 40000000 in
theorem own_text (l : Launch) (Z : State) (a0 : Array Value) (hw : ∀ d ∈ tables_1, d.before a0 Z = true) (w z : Int32) (h0 : Heap) (n0 : Nat) (Z0 : n0 ≤ h0.size) (X00 : Old Z n0 h0) (O2 : Sta Z Z.heap "java/lang/String" "COMPACT_STRINGS" "Z" (.int z)) (P5 : ¬ z = 0) :
    MetFree l yM86 (head1 [Jvm.Cond.code yM86 method_3_code 5 (some (.object "java/lang/String"))] rM52) (fun a_ U_ => a_ = #[(.int w)] ∧ Z.Warmed39 U_.vm ∧ U_.heap = h0 ∧ CHv Z EL U_.vm h0) (fun _ _ _ _ _ => True) (fun _ U_ o_ V_ => ∃ v_ L_, o_ = .returned v_ ∧ Q_own_text Z w z h0 n0 v_ V_.heap L_ ∧ CHr Z EL U_.vm U_.heap V_.vm V_.heap ∧ ReturnedEndW U_ o_ V_ L_ rM52.cells rM52.slots) := by
  refine MetFree.of_bodySF (plainFor_of_name own_pn24) hisR ?_
  intro p e s m args below meth c s₁ Bd hml0 hP hK
  obtain ⟨rfl, hZ, hh, hCH⟩ := hP
  have hx := Bd.exec
  have hby := Bd.bytes
  have dB := @own_d c _ hby
  have hml : c.maxLocals = 5 := hml0
  have hown : s.vm.findClass "com/example/ontology_over_tables/ontologyovertables/mapping/TermMapConstantPinLaw" = some m.cls := findClass_of_methodNamed Bd.named
  have hnm := (name_of_methodNamed Bd.named Bd.method).1
  have X0 : Stand p l e rM52 (s.setVm s.vm) m #[(.int w)] below meth c s₁ [] 0 0 := Stand.of_body Bd
  have e0 : s₁.heap = h0 := by rw [← hh, Bd.state]; rfl
  have N0 := Fr.nil n0
  have KK0 := Keep.refl h0 ([] : List Addr)
  have C0 := CHr.refl hCH
  have hS0 : s.Since s.vm 0 := (State.WarmedH.refl s).since 0
  have hk0 : 0 ≤ h0.size := Nat.zero_le _
  have hEL : EW Z a0 EL := own_EW hw
  have cc0 : Steps p.tables e below (s₁.setTop (entryFrame m #[(.int w)] 5)) (s₁.setTop (mkF m 0 #[sI w, uN, uN, uN, uN] [])) := XT.entry rfl
  obtain ⟨S0', hS0'⟩ : ∃ S, S = (s₁.setTop (entryFrame m #[(.int w)] 5)) := ⟨_, rfl⟩
  rw [← hS0'] at cc0
  have W := @own_w Z a0 hw
  have q := @dX _ _ c D_79 @dB
  have w_6 := W 6 rfl
  have w_10 := W 10 rfl
  have cc21 : oQ X0 S0' 7 #[sI w, sI ((XT.ushr w (16 : Int32)) - (XT.ushr w (16 : Int32)) / (3 : Int32) * (3 : Int32)), uN, uN, uN] [] := Steps.trans cc0 (by
    refine XS.iloadN X0.here hx rfl (q 0 rfl) rfl ?_
    refine bipushV X0.here hx rfl 16 (q 1 rfl) (by decide) ?_
    refine XT.iushr X0.here hx rfl (q 2 rfl) rfl ?_
    refine iconstV X0.here hx rfl 3 (q 3 rfl) (by decide) ?_
    refine XS.irem X0.here hx rfl (q 4 rfl) rfl (by decide) ?_
    refine XS.istoreN X0.here hx rfl (q 5 rfl) rfl rfl ?_
    exact Steps.refl _)
  obtain ⟨k1, ek1⟩ : ∃ y : Int32, y = (XT.ushr w (16 : Int32)) - (XT.ushr w (16 : Int32)) / (3 : Int32) * (3 : Int32) := ⟨_, rfl⟩
  have cz22 : oQ X0 S0' 7 #[sI w, sI k1, uN, uN, uN] [] := by
    have := cc21
    rw [← ek1] at this
    exact this
  have cc23 : oQ X0 S0' 14 #[sI w, sI k1, sI ((w &&& (255 : Int32)).toUInt32.toUInt16.toUInt32.toInt32), uN, uN] [] := Steps.trans cz22 (by
    refine XS.iloadN X0.here hx rfl (q 6 rfl) rfl ?_
    refine sipushV X0.here hx rfl 255 (q 7 rfl) (by decide) ?_
    refine XS.iand X0.here hx rfl (q 8 rfl) rfl ?_
    refine XT.i2c X0.here hx rfl (q 9 rfl) rfl ?_
    refine XS.istoreN X0.here hx rfl (q 10 rfl) rfl rfl ?_
    exact Steps.refl _)
  obtain ⟨ca, eca⟩ : ∃ y : Int32, y = (w &&& (255 : Int32)).toUInt32.toUInt16.toUInt32.toInt32 := ⟨_, rfl⟩
  have cz24 : oQ X0 S0' 14 #[sI w, sI k1, sI ca, uN, uN] [] := by
    have := cc23
    rw [← eca] at this
    exact this
  have cc25 : oQ X0 S0' 24 #[sI w, sI k1, sI ca, sI (((XT.ushr w (8 : Int32)) &&& (255 : Int32)).toUInt32.toUInt16.toUInt32.toInt32), uN] [] := Steps.trans cz24 (by
    refine XS.iloadN X0.here hx rfl (q 11 rfl) rfl ?_
    refine bipushV X0.here hx rfl 8 (q 12 rfl) (by decide) ?_
    refine XT.iushr X0.here hx rfl (q 13 rfl) rfl ?_
    refine sipushV X0.here hx rfl 255 (q 14 rfl) (by decide) ?_
    refine XS.iand X0.here hx rfl (q 15 rfl) rfl ?_
    refine XT.i2c X0.here hx rfl (q 16 rfl) rfl ?_
    refine XS.istoreN X0.here hx rfl (q 17 rfl) rfl rfl ?_
    exact Steps.refl _)
  obtain ⟨cb, ecb⟩ : ∃ y : Int32, y = ((XT.ushr w (8 : Int32)) &&& (255 : Int32)).toUInt32.toUInt16.toUInt32.toInt32 := ⟨_, rfl⟩
  have cz26 : oQ X0 S0' 24 #[sI w, sI k1, sI ca, sI cb, uN] [] := by
    have := cc25
    rw [← ecb] at this
    exact this
  have gca : ¬ ca < 0 ∧ ¬ (255 : Int32) < ca := eca ▸ own_and255 _
  have gcb : ¬ cb < 0 ∧ ¬ (255 : Int32) < cb := ecb ▸ own_and255 _
  have cc27 : oQ X0 S0' 25 #[sI w, sI k1, sI ca, sI cb, uN] [.int k1] := Steps.trans cz26 (by
    refine XS.iloadN X0.here hx rfl (q 18 rfl) rfl ?_
    exact Steps.refl _)
  by_cases q0 : k1 = 0
  · skip
    have cc28 : oQ X0 S0' 28 #[sI w, sI k1, sI ca, sI cb, uN] [] := Steps.trans cc27 (by
      refine XS.ifNo X0.here hx rfl (q 19 rfl) rfl (i0_ne_f q0) ?_
      exact Steps.refl _)
    obtain ⟨T29, h29, X29, e29, E29, A29, D29, -, st29⟩ := newO X0 hx hZ hown (W 4 rfl) (W 5 rfl) w_6 e0 (g := (mkF m 28 #[sI w, sI k1, sI ca, sI cb, uN] [])) rfl (q 20 rfl) (by decide) (by decide)
    obtain ⟨x, g_x⟩ : ∃ z, z = h0.size := ⟨_, rfl⟩
    rw [← g_x] at A29 D29 st29
    have K29 := (Keep.refl h0 ([] : List Addr)).ext E29
    have b_x : h0.size ≤ x := (Nat.le_of_eq g_x.symm)
    have gn_x := Nat.le_trans Z0 b_x
    have s0_x := Nat.le_trans KK0.1 b_x
    have D30 := CHr.ext E29 C0.1
    have C31 := C0.trans D30
    have sf_x : Safe Z EL s.vm h29 x := Safe.ext E29 C0.1 (Safe.new b_x)
    have KK1 := KK0.trans K29 all0
    have Zs1 := Nat.le_trans Z0 K29.1
    have F_value_x : zF13 Z h29 x .null := D29 (Or.inr (W 20 rfl)) (ty := (.array .byte)) (by decide)
    have F_coder_x : zF11 Z h29 x (.int (0 : Int32)) := D29 (Or.inr (W 21 rfl)) (ty := .byte) (by decide)
    have cc32 : oQ X29 S0' 33 #[sI w, sI k1, sI ca, sI cb, uN] [.int 0, .ref x, .ref x] := Steps.trans (cc28.trans (st29 _ (Steps.refl _))) (by
      refine XS.dup X29.here hx rfl (q 21 rfl) rfl rfl ?_
      refine iconstV X29.here hx rfl 0 (q 22 rfl) (by decide) ?_
      exact Steps.refl _)
    obtain ⟨T33, h33, k33, X33, e33, E33, A33, st33⟩ := newP X29 hx hZ (aty := .char) (W 7 rfl) e29 (g := (mkF m 33 #[sI w, sI k1, sI ca, sI cb, uN] [.int 0, .ref x, .ref x])) rfl (q 23 rfl) rfl (by decide) (cap := 0) (by decide) (by decide) (by decide) (by decide)
    obtain ⟨b, g_b⟩ : ∃ z, z = h29.size := ⟨_, rfl⟩
    rw [← g_b] at A33 st33
    have K33 := (Keep.refl h29 ([] : List Addr)).ext E33
    have b_b : h29.size ≤ b := (Nat.le_of_eq g_b.symm)
    have gn_b := Nat.le_trans Zs1 b_b
    have s0_b := Nat.le_trans KK1.1 b_b
    have ne_x_b := oN A29.lt b_b
    have D34 := CHr.ext E33 C31.1
    have C35 := C31.trans D34
    have sf_b : Safe Z EL s.vm h33 b := Safe.ext E33 C31.1 (Safe.new b_b)
    have KK2 := KK1.trans K33 all0
    have Zs2 := Nat.le_trans Zs1 K33.1
    have cc37 : oQ X33 S0' 35 #[sI w, sI k1, sI ca, sI cb, uN] [.ref b, .ref x, .ref x] := (cc32.trans (st33 _ (Steps.refl _)))
    have fa36 := A29.keep K33
    have fa38 := F_value_x.keep K33 nin0
    have fa39 := F_coder_x.keep K33 nin0
    obtain ⟨_, _, ⟨T40, L40, k40, n40⟩, -, X40, hs40, gr40, ⟨Lc40, hQ40, l40, y40, z40, CH40⟩, st40⟩ := X33.specialBackS hx (y := yM7) rfl hown (mvT hZ (W 8 rfl)) (mvT hZ (W 9 rfl)) (mvT hZ w_10) (by decide) (backOfSH (W := 1) (own_new1e l Z a0 hw x b k33 h33 n0 Zs2 fa36 fa38 fa39 gn_x (Arv.new A33 (by decide))) hZ w_10 w_6 (by decide) (by decide) hEL C35.1) (g := (mkF m 35 #[sI w, sI k1, sI ca, sI cb, uN] [.ref b, .ref x, .ref x])) rfl (by rw [hml]; rfl) (Steps.refl _) (a := x) (argsL := [(.ref b)]) (rest := [(.ref x)]) (lenOf own_pd45 rfl) rfl (Nat.le_of_eq rfl) (q 24 rfl) (fun _ _ => ⟨rfl, e33, nB rfl, nB rfl⟩)
    dsimp only [Pt.U, Pt.locs, Pt.cells, Pt.slots] at X40 l40 y40 z40 st40 hQ40 hs40 gr40 CH40
    subst l40 y40 z40
    obtain ⟨rfl, Nq40, Kq40, Eq40, Cq40, t, kb, q140, q240, Vq40, Aq40⟩ := hQ40
    obtain ⟨Xr40, hS40, hZ40, hown40⟩ := rebS hS0 (by rw [e33]; exact (Nat.le_trans (Nat.le_trans hk0 K29.1) K33.1)) X40 hs40 gr40 hZ hown
    have hk40 : T40.heap.size ≤ T40.heap.size := Nat.le_refl _
    have C40 := C35.trans CH40
    have N40 := Fr.app N0 Nq40
    have KK3 := KK2.trans Kq40 (allS (Or.inr s0_x) all0)
    have Zs3 := Nat.le_trans Zs2 Kq40.1
    have e40 : T40.heap = T40.heap := rfl
    have cc41 : oQ Xr40 S0' 38 #[sI w, sI k1, sI ca, sI cb, uN] [.ref x] := (Steps.trans cc37 st40)
    have cE := cc41
    rw [hS0'] at cE
    obtain ⟨fs, hr_, hrun, hended, hE⟩ := Xr40.leaveW hS40 (by rw [e40]; exact hk40) (v := some (.ref x)) (fun h => by rw [Bd.returns] at h; cases h)
    have CE := C40.trans (CHv.at Xr40 hZ40 hEL C40.1)
    refine ⟨_, _, cE.trans (Xr40.areturnOut hx (rfl) Bd.returns rfl (q 25 rfl) hr_), hrun, hended, _, _, rfl, ?_, ?_, hE.1, hE.2.1, hE.2.2.1, hE.2.2.2.mono (by first | decide | omega) (by first | decide | omega)⟩
    · show Q_own_text Z w z h0 n0 _ T40.heap _
      rw [e40]
      exact ⟨x, [], rfl, N40, KK3, s0_x, by simp, Eq40, Cq40, by simp, by simp, t, kb, Vq40, Aq40⟩
    · rw [hh]
      show CHr Z EL s.vm h0 T40.vm T40.heap
      rw [e40]
      exact CE
  · skip
    have cc28 : oQ X0 S0' 41 #[sI w, sI k1, sI ca, sI cb, uN] [.int 1, .int k1] := Steps.trans cc27 (by
      refine XS.ifYes X0.here hx rfl (pc0 := 25) rfl (q 19 rfl) rfl (i0_ne_t q0) (by decide) rfl ?_
      refine XS.iloadN X0.here hx rfl (q 26 rfl) rfl ?_
      refine iconstV X0.here hx rfl 1 (q 27 rfl) (by decide) ?_
      exact Steps.refl _)
    by_cases q1 : k1 = 1
    · skip
      have cc29 : oQ X0 S0' 45 #[sI w, sI k1, sI ca, sI cb, uN] [.int ca] := Steps.trans cc28 (by
        refine XS.icmpNo X0.here hx rfl (q 28 rfl) rfl (ii_ne_f q1) ?_
        refine XS.iloadN X0.here hx rfl (q 29 rfl) rfl ?_
        exact Steps.refl _)
      obtain ⟨_, T30, L30, X30, ⟨x, rfl, Nq30, Kq30, sq30, Hx⟩, st30⟩ := oCT (y := yM8) X0 cc29 hx hZ hown hml (q 30 rfl) e0 (W 29 rfl) (W 30 rfl) w_6 (W 31 rfl) (by decide) [.int ca] [] (lenOf own_pd46 rfl) (bO (own_vo l Z a0 hw ca z h0 n0 Z0 X00 O2 P5 gca) hZ (W 31 rfl) w_6)
      have N30 := Fr.app N0 Nq30
      have b_x : h0.size ≤ x := sq30
      have gn_x := Nat.le_trans Z0 b_x
      have s0_x := Nat.le_trans KK0.1 b_x
      have D31 := CHr.keep Kq30 sf0 C0.1
      have C32 := C0.trans D31
      have sf_x := Safe.keep Kq30 sf0 C0.1 (Safe.new b_x)
      have KK1 := KK0.trans Kq30 all0
      have Zs1 := Nat.le_trans Z0 Kq30.1
      have e30 : T30.heap = T30.heap := rfl
      have cc33 : oQ X30 S0' 48 #[sI w, sI k1, sI ca, sI cb, uN] [.ref x] := st30
      have cE := cc33
      rw [hS0'] at cE
      obtain ⟨fs, hr_, hrun, hended, hE⟩ := X30.leaveW hS0 (by rw [e30]; exact (Nat.le_trans hk0 Kq30.1)) (v := some (.ref x)) (fun h => by rw [Bd.returns] at h; cases h)
      have CE := C32.trans (CHv.at X30 hZ hEL C32.1)
      refine ⟨_, _, cE.trans (X30.areturnOut hx (rfl) Bd.returns rfl (q 31 rfl) hr_), hrun, hended, _, _, rfl, ?_, ?_, hE.1, hE.2.1, hE.2.2.1, hE.2.2.2.mono (by first | decide | omega) (by first | decide | omega)⟩
      · show Q_own_text Z w z h0 n0 _ T30.heap _
        rw [e30]
        exact ⟨x, [ca], rfl, N30, KK1, s0_x, by simp, Hx⟩
      · rw [hh]
        show CHr Z EL s.vm h0 T30.vm T30.heap
        rw [e30]
        exact CE
    · skip
      have cc29 : oQ X0 S0' 50 #[sI w, sI k1, sI ca, sI cb, uN] [.int 2] := Steps.trans cc28 (by
        refine XS.icmpYes X0.here hx rfl (pc0 := 41) rfl (q 28 rfl) rfl (ii_ne_t q1) (by decide) rfl ?_
        refine iconstV X0.here hx rfl 2 (q 32 rfl) (by decide) ?_
        exact Steps.refl _)
      obtain ⟨T30, h30, k30, X30, e30, E30, A30, st30⟩ := newP X0 hx hZ (aty := .char) (W 7 rfl) e0 (g := (mkF m 50 #[sI w, sI k1, sI ca, sI cb, uN] [.int 2])) rfl (q 33 rfl) rfl (by decide) (cap := 2) (by decide) (by decide) (by decide) (by decide)
      obtain ⟨b, g_b⟩ : ∃ z, z = h0.size := ⟨_, rfl⟩
      rw [← g_b] at A30 st30
      have K30 := (Keep.refl h0 ([] : List Addr)).ext E30
      have b_b : h0.size ≤ b := (Nat.le_of_eq g_b.symm)
      have gn_b := Nat.le_trans Z0 b_b
      have s0_b := Nat.le_trans KK0.1 b_b
      have D31 := CHr.ext E30 C0.1
      have C32 := C0.trans D31
      have sf_b : Safe Z EL s.vm h30 b := Safe.ext E30 C0.1 (Safe.new b_b)
      have KK1 := KK0.trans K30 all0
      have Zs1 := Nat.le_trans Z0 K30.1
      have V_b : Arv Z h30 b k30 .char (2 : Int32) [(.int (0 : Int32)), (.int (0 : Int32))] (.int (0 : Int32)) := (Arv.new A30 (by decide)).pad (pad_rep [] (.int (0 : Int32)) 2)
      have cc33 : oQ X30 S0' 58 #[sI w, sI k1, sI ca, sI cb, sR b] [.int ca, .int 0, .ref b] := Steps.trans (cc29.trans (st30 _ (Steps.refl _))) (by
        refine XS.astore X30.here hx rfl (q 34 rfl) rfl rfl rfl ?_
        refine XS.aload X30.here hx rfl (q 35 rfl) rfl rfl ?_
        refine iconstV X30.here hx rfl 0 (q 36 rfl) (by decide) ?_
        refine XS.iloadN X30.here hx rfl (q 37 rfl) rfl ?_
        exact Steps.refl _)
      obtain ⟨clu34, Aru34, qu34, Su34, Ngu34, Hsu34, Gsu34⟩ := id V_b
      have inu34 : ¬ ((0 : Int32) < 0 ∨ clu34.slots.size ≤ (0 : Int32).toNatClampNeg) := inb_of Su34 ⟨by decide, by decide⟩
      obtain ⟨T35, h35, X35, e35, W35, st35⟩ := stC X30 hx hZ e30 Aru34 (j := (0 : Int32)) inu34 (g := (mkF m 58 #[sI w, sI k1, sI ca, sI cb, sR b] [.int ca, .int 0, .ref b])) rfl rfl (q 38 rfl)
      have K35 := Keep.of_wr W35
      have N35 := Fr.snoc X35 N0 gn_b
      have D36 := CHr.wr W35 sf_b C32.1
      have C37 := C32.trans D36
      have KK2 := KK1.trans K35 (allS (Or.inr s0_b) all0)
      have Zs2 := Nat.le_trans Zs1 K35.1
      have V35 : Arv Z h35 b k30 .char (2 : Int32) ([(.int (nar .char ca)), (.int (0 : Int32))]) (.int (0 : Int32)) := Arv.set Aru34 qu34 Su34 Ngu34 Hsu34 Gsu34 (fits_nar_char _) W35 0 rfl (Nat.le_of_ble_eq_true rfl)
      have sf38 := D36.safe A30.lt sf_b
      have lt39 := Nat.lt_of_lt_of_le A30.lt K35.1
      have cc40 : oQ X35 S0' 63 #[sI w, sI k1, sI ca, sI cb, sR b] [.int cb, .int 1, .ref b] := Steps.trans (cc33.trans (st35 _ (Steps.refl _))) (by
        refine XS.aload X35.here hx rfl (q 39 rfl) rfl rfl ?_
        refine iconstV X35.here hx rfl 1 (q 40 rfl) (by decide) ?_
        refine XS.iloadN X35.here hx rfl (q 41 rfl) rfl ?_
        exact Steps.refl _)
      obtain ⟨clu41, Aru41, qu41, Su41, Ngu41, Hsu41, Gsu41⟩ := id V35
      have inu41 : ¬ ((1 : Int32) < 0 ∨ clu41.slots.size ≤ (1 : Int32).toNatClampNeg) := inb_of Su41 ⟨by decide, by decide⟩
      obtain ⟨T42, h42, X42, e42, W42, st42⟩ := stC X35 hx hZ e35 Aru41 (j := (1 : Int32)) inu41 (g := (mkF m 63 #[sI w, sI k1, sI ca, sI cb, sR b] [.int cb, .int 1, .ref b])) rfl rfl (q 42 rfl)
      have K42 := Keep.of_wr W42
      have N42 := Fr.snoc X42 N35 gn_b
      have D43 := CHr.wr W42 sf38 C37.1
      have C44 := C37.trans D43
      have KK3 := KK2.trans K42 (allS (Or.inr s0_b) all0)
      have Zs3 := Nat.le_trans Zs2 K42.1
      have V42 : Arv Z h42 b k30 .char (2 : Int32) ([(.int (nar .char ca)), (.int (nar .char cb))]) (.int (0 : Int32)) := Arv.set Aru41 qu41 Su41 Ngu41 Hsu41 Gsu41 (fits_nar_char _) W42 1 rfl (Nat.le_of_ble_eq_true rfl)
      have cc45 : oQ X42 S0' 64 #[sI w, sI k1, sI ca, sI cb, sR b] [] := (cc40.trans (st42 _ (Steps.refl _)))
      obtain ⟨T46, h46, X46, e46, E46, A46, D46, -, st46⟩ := newO X42 hx hZ hown (W 4 rfl) (W 5 rfl) w_6 e42 (g := (mkF m 64 #[sI w, sI k1, sI ca, sI cb, sR b] [])) rfl (q 43 rfl) (by decide) (by decide)
      obtain ⟨x, g_x⟩ : ∃ z, z = h42.size := ⟨_, rfl⟩
      rw [← g_x] at A46 D46 st46
      have K46 := (Keep.refl h42 ([] : List Addr)).ext E46
      have b_x : h42.size ≤ x := (Nat.le_of_eq g_x.symm)
      have gn_x := Nat.le_trans Zs3 b_x
      have s0_x := Nat.le_trans KK3.1 b_x
      have ne_b_x := oN V42.lt b_x
      have D47 := CHr.ext E46 C44.1
      have C48 := C44.trans D47
      have sf_x : Safe Z EL s.vm h46 x := Safe.ext E46 C44.1 (Safe.new b_x)
      have KK4 := KK3.trans K46 all0
      have Zs4 := Nat.le_trans Zs3 K46.1
      have F_value_x : zF13 Z h46 x .null := D46 (Or.inr (W 20 rfl)) (ty := (.array .byte)) (by decide)
      have F_coder_x : zF11 Z h46 x (.int (0 : Int32)) := D46 (Or.inr (W 21 rfl)) (ty := .byte) (by decide)
      have cc50 : oQ X46 S0' 70 #[sI w, sI k1, sI ca, sI cb, sR b] [.ref b, .ref x, .ref x] := Steps.trans (cc45.trans (st46 _ (Steps.refl _))) (by
        refine XS.dup X46.here hx rfl (q 44 rfl) rfl rfl ?_
        refine XS.aload X46.here hx rfl (q 45 rfl) rfl rfl ?_
        exact Steps.refl _)
      have fa49 := V42.keep K46 nin0
      have fa51 := (((X00.keep K30 all0).keep K35 (allS gn_b all0)).keep K42 (allS gn_b all0)).keep K46 all0
      obtain ⟨_, T52, L52, X52, ⟨rfl, Nq52, Kq52, Hq52⟩, st52⟩ := oCN (y := yM7) X46 cc50 hx hZ hown hml (q 46 rfl) e46 x rfl (W 8 rfl) (W 9 rfl) w_10 (by decide) [.ref b] [.ref x] (lenOf own_pd45 rfl) (bO (own_new1b l Z a0 hw x b k30 ca cb z h46 n0 Zs4 fa51 O2 P5 A46 F_value_x F_coder_x gn_x (own_arv_eq fa49 (by simp only [own_nar gca, own_nar gcb]) : Arv Z h46 b _ .char (2 : Int32) [(.int ca), (.int cb)] (.int (0 : Int32))) gca gcb) hZ w_10 w_6)
      have N52 := Fr.app N42 Nq52
      have D53 := CHr.keep Kq52 (sfS sf_x sf0) C48.1
      have C54 := C48.trans D53
      have KK5 := KK4.trans Kq52 (allS (Or.inr s0_x) all0)
      have Zs5 := Nat.le_trans Zs4 Kq52.1
      have e52 : T52.heap = T52.heap := rfl
      have cc55 : oQ X52 S0' 73 #[sI w, sI k1, sI ca, sI cb, sR b] [.ref x] := st52
      have cE := cc55
      rw [hS0'] at cE
      obtain ⟨fs, hr_, hrun, hended, hE⟩ := X52.leaveW hS0 (by rw [e52]; exact (Nat.le_trans (Nat.le_trans (Nat.le_trans (Nat.le_trans (Nat.le_trans hk0 K30.1) K35.1) K42.1) K46.1) Kq52.1)) (v := some (.ref x)) (fun h => by rw [Bd.returns] at h; cases h)
      have CE := C54.trans (CHv.at X52 hZ hEL C54.1)
      refine ⟨_, _, cE.trans (X52.areturnOut hx (rfl) Bd.returns rfl (q 47 rfl) hr_), hrun, hended, _, _, rfl, ?_, ?_, hE.1, hE.2.1, hE.2.2.1, hE.2.2.2.mono (by first | decide | omega) (by first | decide | omega)⟩
      · show Q_own_text Z w z h0 n0 _ T52.heap _
        rw [e52]
        exact ⟨x, [ca, cb], rfl, N52, KK5, s0_x, by simp, Hq52⟩
      · rw [hh]
        show CHr Z EL s.vm h0 T52.vm T52.heap
        rw [e52]
        exact CE
theorem own_seta (l r : List Value) (x v : Value) (i : Nat) (h : i = l.length) : (l ++ x :: r).set i v = l ++ v :: r := by
  subst h
  rw [List.set_append_right (h := Nat.le_refl _)]
  simp
theorem own_ne_arr {Z : State} {h : Heap} {a t : Addr} {k k' : ClassId} {n n' : Int32} {vs vs' : List Value} {dv dv' : Value} (A : Arv Z h a k .byte n vs dv) (C : Arv Z h t k' .char n' vs' dv') : a ≠ t := fun e => by
  subst e
  obtain ⟨c1, ⟨h1, ⟨-, k1, h2, sc, h3⟩, -⟩, -⟩ := A
  obtain ⟨c2, ⟨g1, ⟨-, k2, g2, sd, g3⟩, -⟩, -⟩ := C
  cases h1.symm.trans g1
  cases h2.symm.trans g2
  rw [h3] at g3
  cases g3
def Q_own_put (Z : State) (b : Addr) (kc : ClassId) (us : List Int32) (x : Addr) (cs : List Int32) (z : Int32) (f : Value) (h0 : Heap) (n0 : Nat) (v : Option Value) (h : Heap) (L : List Loc) : Prop := v = some (.int (Int32.ofNat (us ++ cs).length)) ∧ Fr n0 L ∧ Keep h0 h [b] ∧ Arv Z h b kc .char (6 : Int32) ((us ++ cs).map Value.int) (.int (0 : Int32))
theorem own_put (l : Launch) (Z : State) (a0 : Array Value) (hw : oH a0 Z) (b : Addr) (kc : ClassId) (us : List Int32) (x : Addr) (cs : List Int32) (z : Int32) (f : Value) (h0 : Heap) (n0 : Nat) (Z0 : n0 ≤ h0.size) (X00 : Old Z n0 h0) (O2 : Sta Z Z.heap "java/lang/String" "COMPACT_STRINGS" "Z" (.int z)) (P5 : ¬ z = 0) (O4 : Sta Z Z.heap "jdk/internal/util/Preconditions" "SIOOBE_FORMATTER" "Ljava/util/function/BiFunction;" f) (hf : f.isRef = true) (Hx : own_Lat Z h0 x cs) (A : Arv Z h0 b kc .char (6 : Int32) (us.map Value.int) (.int (0 : Int32))) (gb : n0 ≤ b) (hl : us.length + cs.length ≤ 6) (hc : cs.length ≤ 2) :
    oC l yM87 (.code yM87 method_4_code 3 (some .int)) rM53 #[(.ref b), (.int (Int32.ofNat us.length)), (.ref x)] Z h0 (Q_own_put Z b kc us x cs z f h0 n0) := by
  refine oO (plainFor_of_name own_pn24) hisR fun p e s m below meth c s₁ S0' Bd hS hx dB hml hown hnm hZ X0 e0 => ?_
  have N0 := Fr.nil n0
  have KK0 := Keep.refl h0 [b]
  have cc0 : oQ X0 S0' 0 #[sR b, sI (Int32.ofNat us.length), sR x] [] := oE hS rfl
  have W := @own_w Z a0 hw
  have q := @dX _ _ c D_80 @dB
  have w_6 := W 6 rfl
  have w_295 := W 295 rfl
  have w_296 := W 296 rfl
  have w_297 := W 297 rfl
  have w_298 := W 298 rfl
  have w_299 := W 299 rfl
  have w_495 := W 495 rfl
  have cc21 : oQ X0 S0' 1 #[sR b, sI (Int32.ofNat us.length), sR x] [.ref x] := Steps.trans cc0 (by
    refine XS.aloadN X0.here hx rfl (q 0 rfl) rfl rfl ?_
    exact Steps.refl _)
  have Hx' := Hx
  have lu : us.length < 7 := by omega
  rcases cs with _ | ⟨c0, _ | ⟨c1, _ | ⟨c2, cs⟩⟩⟩
  · skip
    have lu2 : us.length + 0 ≤ 6 := hl
    obtain ⟨Ex, Cx, px, lx, tx, kx, Vx, Ax⟩ := Hx'
    obtain ⟨_, T22, L22, X22, ⟨rfl, Nq22, eq22⟩, st22⟩ := oCV (y := yM55) (z := yM55) X0 cc21 hx hZ hown hml (q 1 rfl) e0 Ex w_295 w_296 (notFace_of_selects (args := #[]) (mvT hZ w_298)) w_298 w_297 (by decide) [] [] (lenOf own_pd20 rfl) (bO (own_len l Z a0 hw x ([] : List Int32) z h0 n0 Z0 X00 O2 P5 ⟨Ex, Cx, px, lx, tx, kx, Vx, Ax⟩) hZ w_299 w_6)
    have N22 := Fr.app N0 Nq22
    have cc23 : oQ X22 S0' 4 #[sR b, sI (Int32.ofNat us.length), sR x] [.int 0] := st22
    have cc24 : oQ X22 S0' 16 #[sR b, sI (Int32.ofNat us.length), sR x] [.ref x] := Steps.trans cc23 (by
      refine XS.ifYes X22.here hx rfl (pc0 := 4) rfl (q 2 rfl) rfl (i0_le_t (by decide)) (by decide) rfl ?_
      refine XS.aloadN X22.here hx rfl (q 3 rfl) rfl rfl ?_
      exact Steps.refl _)
    obtain ⟨_, T25, L25, X25, ⟨rfl, Nq25, eq25⟩, st25⟩ := oCV (y := yM55) (z := yM55) X22 cc24 hx hZ hown hml (q 4 rfl) eq22 Ex w_295 w_296 (notFace_of_selects (args := #[]) (mvT hZ w_298)) w_298 w_297 (by decide) [] [] (lenOf own_pd20 rfl) (bO (own_len l Z a0 hw x ([] : List Int32) z h0 n0 Z0 X00 O2 P5 ⟨Ex, Cx, px, lx, tx, kx, Vx, Ax⟩) hZ w_299 w_6)
    have N25 := Fr.app N22 Nq25
    have cc26 : oQ X25 S0' 19 #[sR b, sI (Int32.ofNat us.length), sR x] [.int 0] := st25
    have cc27 : oQ X25 S0' 35 #[sR b, sI (Int32.ofNat us.length), sR x] [.ref x, .int (Int32.ofNat us.length)] := Steps.trans cc26 (by
      refine iconstV X25.here hx rfl 1 (q 5 rfl) (by decide) ?_
      refine XS.icmpYes X25.here hx rfl (pc0 := 20) rfl (q 6 rfl) rfl (ii_le_t (by decide)) (by decide) rfl ?_
      refine XS.iloadN X25.here hx rfl (q 7 rfl) rfl ?_
      refine XS.aloadN X25.here hx rfl (q 8 rfl) rfl rfl ?_
      exact Steps.refl _)
    obtain ⟨_, T28, L28, X28, ⟨rfl, Nq28, eq28⟩, st28⟩ := oCV (y := yM55) (z := yM55) X25 cc27 hx hZ hown hml (q 9 rfl) eq25 Ex w_295 w_296 (notFace_of_selects (args := #[]) (mvT hZ w_298)) w_298 w_297 (by decide) [] [.int (Int32.ofNat us.length)] (lenOf own_pd20 rfl) (bO (own_len l Z a0 hw x ([] : List Int32) z h0 n0 Z0 X00 O2 P5 ⟨Ex, Cx, px, lx, tx, kx, Vx, Ax⟩) hZ w_299 w_6)
    have N28 := Fr.app N25 Nq28
    have cc29 : oQ X28 S0' 38 #[sR b, sI (Int32.ofNat us.length), sR x] [.int 0, .int (Int32.ofNat us.length)] := st28
    have cc30 : oQ X28 S0' 39 #[sR b, sI (Int32.ofNat us.length), sR x] [.int ((Int32.ofNat us.length) + (0 : Int32))] := Steps.trans cc29 (by
      refine XS.iadd X28.here hx rfl (q 10 rfl) rfl ?_
      exact Steps.refl _)
    have en : Int32.ofNat us.length + (0 : Int32) = Int32.ofNat (us ++ ([] : List Int32)).length := by rw [List.length_append]; exact add32n us.length 0
    have cz31 : oQ X28 S0' 39 #[sR b, sI (Int32.ofNat us.length), sR x] [.int (Int32.ofNat (us ++ ([] : List Int32)).length)] := by
      have := cc30
      rw [en] at this
      exact this
    exact oRI X28 Bd cz31 (q 11 rfl) rfl (rfl) (by simp) eq28 ⟨rfl, N28, KK0, own_arv_eq A (by simp)⟩
  · skip
    have lu2 : us.length + 1 ≤ 6 := hl
    obtain ⟨Ex, Cx, px, lx, tx, kx, Vx, Ax⟩ := Hx'
    have Ap : Arv Z h0 b kc .char (6 : Int32) (us.map Value.int ++ [(Value.int (0 : Int32))]) (.int (0 : Int32)) := A.pad (pad_rep _ _ 1)
    have ne_x_b : x ≠ b := own_ne_arv Ex (W 5 rfl) Ap
    have ne_tx_b : tx ≠ b := own_ne_arr Ax Ap
    obtain ⟨_, T22, L22, X22, ⟨rfl, Nq22, eq22⟩, st22⟩ := oCV (y := yM55) (z := yM55) X0 cc21 hx hZ hown hml (q 1 rfl) e0 Ex w_295 w_296 (notFace_of_selects (args := #[]) (mvT hZ w_298)) w_298 w_297 (by decide) [] [] (lenOf own_pd20 rfl) (bO (own_len l Z a0 hw x ([c0]) z h0 n0 Z0 X00 O2 P5 ⟨Ex, Cx, px, lx, tx, kx, Vx, Ax⟩) hZ w_299 w_6)
    have N22 := Fr.app N0 Nq22
    have cc23 : oQ X22 S0' 4 #[sR b, sI (Int32.ofNat us.length), sR x] [.int 1] := st22
    have cc24 : oQ X22 S0' 11 #[sR b, sI (Int32.ofNat us.length), sR x] [.int 0, .ref x, .int (Int32.ofNat us.length), .ref b] := Steps.trans cc23 (by
      refine XS.ifNo X22.here hx rfl (q 2 rfl) rfl (i0_le_f (by decide)) ?_
      refine XS.aloadN X22.here hx rfl (q 12 rfl) rfl rfl ?_
      refine XS.iloadN X22.here hx rfl (q 13 rfl) rfl ?_
      refine XS.aloadN X22.here hx rfl (q 14 rfl) rfl rfl ?_
      refine iconstV X22.here hx rfl 0 (q 15 rfl) (by decide) ?_
      exact Steps.refl _)
    obtain ⟨_, T25, L25, X25, ⟨rfl, Nq25, eq25⟩, st25⟩ := oCV (y := yM85) (z := yM85) X22 cc24 hx hZ hown hml (q 16 rfl) eq22 Ex (W 492 rfl) (W 493 rfl) (notFace_of_selects (args := #[]) (mvT hZ w_495)) w_495 (W 494 rfl) (by decide) [.int 0] [.int (Int32.ofNat us.length), .ref b] (lenOf own_pd47 rfl) (bO (own_chl l Z a0 hw x [c0] 0 z f h0 n0 Z0 X00 O2 P5 O4 hf ⟨Ex, Cx, px, lx, tx, kx, Vx, Ax⟩ (by simp)) hZ (W 496 rfl) w_6)
    have N25 := Fr.app N22 Nq25
    have cc26 : oQ X25 S0' 14 #[sR b, sI (Int32.ofNat us.length), sR x] [.int c0, .int (Int32.ofNat us.length), .ref b] := st25
    obtain ⟨clu27, Aru27, qu27, Su27, Ngu27, Hsu27, Gsu27⟩ := id Ap
    have inu27 : ¬ (Int32.ofNat us.length < 0 ∨ clu27.slots.size ≤ (Int32.ofNat us.length).toNatClampNeg) := inb_of Su27 ⟨Int32.ofNat_not_neg (by omega), lt32 (b := 6) (by decide) (by omega)⟩
    obtain ⟨T28, h28, X28, e28, W28, st28⟩ := stC X25 hx hZ eq25 Aru27 (j := Int32.ofNat us.length) inu27 (g := (mkF m 14 #[sR b, sI (Int32.ofNat us.length), sR x] [.int c0, .int (Int32.ofNat us.length), .ref b])) rfl rfl (q 17 rfl)
    have K28 := Keep.of_wr W28
    have N28 := Fr.snoc X28 N25 gb
    have KK1 := KK0.trans K28 (allS (Or.inl (lM 0 rfl)) all0)
    have Zs1 := Nat.le_trans Z0 K28.1
    have V28 : Arv Z h28 b kc .char (6 : Int32) ((us.map Value.int ++ [(Value.int (0 : Int32))]).set (us.length + 0) (.int (nar .char c0))) (.int (0 : Int32)) := Arv.set Aru27 qu27 Su27 Ngu27 Hsu27 Gsu27 (fits_nar_char _) W28 (us.length + 0) (n32 (by omega)) (by simp)
    have V29 : Arv Z h28 b kc .char (6 : Int32) (us.map Value.int ++ [(Value.int c0)]) (.int (0 : Int32)) := own_arv_eq V28 (by rw [own_nar (px _ (by simp))]; simpa using own_seta (us.map Value.int ++ []) [] (.int 0) (.int c0) (us.length + 0) (by simp))
    have cc31 : oQ X28 S0' 16 #[sR b, sI (Int32.ofNat us.length), sR x] [.ref x] := Steps.trans (cc26.trans (st28 _ (Steps.refl _))) (by
      refine XS.aloadN X28.here hx rfl (q 3 rfl) rfl rfl ?_
      exact Steps.refl _)
    have fa30 := Ex.keep K28
    have fa32 := Cx.keep K28 (ninS ne_x_b nin0)
    have fa33 := Vx.keep K28 (ninS ne_x_b nin0)
    have fa34 := Ax.keep K28 (ninS ne_tx_b nin0)
    have fa35 := X00.keep K28 (allS gb all0)
    obtain ⟨_, T36, L36, X36, ⟨rfl, Nq36, eq36⟩, st36⟩ := oCV (y := yM55) (z := yM55) X28 cc31 hx hZ hown hml (q 4 rfl) e28 fa30 w_295 w_296 (notFace_of_selects (args := #[]) (mvT hZ w_298)) w_298 w_297 (by decide) [] [] (lenOf own_pd20 rfl) (bO (own_len l Z a0 hw x ([c0]) z h28 n0 Zs1 fa35 O2 P5 ⟨fa30, fa32, px, lx, tx, kx, fa33, fa34⟩) hZ w_299 w_6)
    have N36 := Fr.app N28 Nq36
    have cc37 : oQ X36 S0' 19 #[sR b, sI (Int32.ofNat us.length), sR x] [.int 1] := st36
    have cc38 : oQ X36 S0' 35 #[sR b, sI (Int32.ofNat us.length), sR x] [.ref x, .int (Int32.ofNat us.length)] := Steps.trans cc37 (by
      refine iconstV X36.here hx rfl 1 (q 5 rfl) (by decide) ?_
      refine XS.icmpYes X36.here hx rfl (pc0 := 20) rfl (q 6 rfl) rfl (ii_le_t (by decide)) (by decide) rfl ?_
      refine XS.iloadN X36.here hx rfl (q 7 rfl) rfl ?_
      refine XS.aloadN X36.here hx rfl (q 8 rfl) rfl rfl ?_
      exact Steps.refl _)
    obtain ⟨_, T39, L39, X39, ⟨rfl, Nq39, eq39⟩, st39⟩ := oCV (y := yM55) (z := yM55) X36 cc38 hx hZ hown hml (q 9 rfl) eq36 fa30 w_295 w_296 (notFace_of_selects (args := #[]) (mvT hZ w_298)) w_298 w_297 (by decide) [] [.int (Int32.ofNat us.length)] (lenOf own_pd20 rfl) (bO (own_len l Z a0 hw x ([c0]) z h28 n0 Zs1 fa35 O2 P5 ⟨fa30, fa32, px, lx, tx, kx, fa33, fa34⟩) hZ w_299 w_6)
    have N39 := Fr.app N36 Nq39
    have cc40 : oQ X39 S0' 38 #[sR b, sI (Int32.ofNat us.length), sR x] [.int 1, .int (Int32.ofNat us.length)] := st39
    have cc41 : oQ X39 S0' 39 #[sR b, sI (Int32.ofNat us.length), sR x] [.int ((Int32.ofNat us.length) + (1 : Int32))] := Steps.trans cc40 (by
      refine XS.iadd X39.here hx rfl (q 10 rfl) rfl ?_
      exact Steps.refl _)
    have en : Int32.ofNat us.length + (1 : Int32) = Int32.ofNat (us ++ [c0]).length := by rw [List.length_append]; exact add32n us.length 1
    have cz42 : oQ X39 S0' 39 #[sR b, sI (Int32.ofNat us.length), sR x] [.int (Int32.ofNat (us ++ [c0]).length)] := by
      have := cc41
      rw [en] at this
      exact this
    exact oRI X39 Bd cz42 (q 11 rfl) rfl (rfl) (by simp) eq39 ⟨rfl, N39, KK1, own_arv_eq V29 (by simp)⟩
  · skip
    have lu2 : us.length + 2 ≤ 6 := hl
    obtain ⟨Ex, Cx, px, lx, tx, kx, Vx, Ax⟩ := Hx'
    have Ap : Arv Z h0 b kc .char (6 : Int32) (us.map Value.int ++ [(Value.int (0 : Int32)), (Value.int (0 : Int32))]) (.int (0 : Int32)) := A.pad (pad_rep _ _ 2)
    have ne_x_b : x ≠ b := own_ne_arv Ex (W 5 rfl) Ap
    have ne_tx_b : tx ≠ b := own_ne_arr Ax Ap
    obtain ⟨_, T22, L22, X22, ⟨rfl, Nq22, eq22⟩, st22⟩ := oCV (y := yM55) (z := yM55) X0 cc21 hx hZ hown hml (q 1 rfl) e0 Ex w_295 w_296 (notFace_of_selects (args := #[]) (mvT hZ w_298)) w_298 w_297 (by decide) [] [] (lenOf own_pd20 rfl) (bO (own_len l Z a0 hw x ([c0, c1]) z h0 n0 Z0 X00 O2 P5 ⟨Ex, Cx, px, lx, tx, kx, Vx, Ax⟩) hZ w_299 w_6)
    have N22 := Fr.app N0 Nq22
    have cc23 : oQ X22 S0' 4 #[sR b, sI (Int32.ofNat us.length), sR x] [.int 2] := st22
    have cc24 : oQ X22 S0' 11 #[sR b, sI (Int32.ofNat us.length), sR x] [.int 0, .ref x, .int (Int32.ofNat us.length), .ref b] := Steps.trans cc23 (by
      refine XS.ifNo X22.here hx rfl (q 2 rfl) rfl (i0_le_f (by decide)) ?_
      refine XS.aloadN X22.here hx rfl (q 12 rfl) rfl rfl ?_
      refine XS.iloadN X22.here hx rfl (q 13 rfl) rfl ?_
      refine XS.aloadN X22.here hx rfl (q 14 rfl) rfl rfl ?_
      refine iconstV X22.here hx rfl 0 (q 15 rfl) (by decide) ?_
      exact Steps.refl _)
    obtain ⟨_, T25, L25, X25, ⟨rfl, Nq25, eq25⟩, st25⟩ := oCV (y := yM85) (z := yM85) X22 cc24 hx hZ hown hml (q 16 rfl) eq22 Ex (W 492 rfl) (W 493 rfl) (notFace_of_selects (args := #[]) (mvT hZ w_495)) w_495 (W 494 rfl) (by decide) [.int 0] [.int (Int32.ofNat us.length), .ref b] (lenOf own_pd47 rfl) (bO (own_chl l Z a0 hw x [c0, c1] 0 z f h0 n0 Z0 X00 O2 P5 O4 hf ⟨Ex, Cx, px, lx, tx, kx, Vx, Ax⟩ (by simp)) hZ (W 496 rfl) w_6)
    have N25 := Fr.app N22 Nq25
    have cc26 : oQ X25 S0' 14 #[sR b, sI (Int32.ofNat us.length), sR x] [.int c0, .int (Int32.ofNat us.length), .ref b] := st25
    obtain ⟨clu27, Aru27, qu27, Su27, Ngu27, Hsu27, Gsu27⟩ := id Ap
    have inu27 : ¬ (Int32.ofNat us.length < 0 ∨ clu27.slots.size ≤ (Int32.ofNat us.length).toNatClampNeg) := inb_of Su27 ⟨Int32.ofNat_not_neg (by omega), lt32 (b := 6) (by decide) (by omega)⟩
    obtain ⟨T28, h28, X28, e28, W28, st28⟩ := stC X25 hx hZ eq25 Aru27 (j := Int32.ofNat us.length) inu27 (g := (mkF m 14 #[sR b, sI (Int32.ofNat us.length), sR x] [.int c0, .int (Int32.ofNat us.length), .ref b])) rfl rfl (q 17 rfl)
    have K28 := Keep.of_wr W28
    have N28 := Fr.snoc X28 N25 gb
    have KK1 := KK0.trans K28 (allS (Or.inl (lM 0 rfl)) all0)
    have Zs1 := Nat.le_trans Z0 K28.1
    have V28 : Arv Z h28 b kc .char (6 : Int32) ((us.map Value.int ++ [(Value.int (0 : Int32)), (Value.int (0 : Int32))]).set (us.length + 0) (.int (nar .char c0))) (.int (0 : Int32)) := Arv.set Aru27 qu27 Su27 Ngu27 Hsu27 Gsu27 (fits_nar_char _) W28 (us.length + 0) (n32 (by omega)) (by simp)
    have V29 : Arv Z h28 b kc .char (6 : Int32) (us.map Value.int ++ [(Value.int c0), (Value.int (0 : Int32))]) (.int (0 : Int32)) := own_arv_eq V28 (by rw [own_nar (px _ (by simp))]; simpa using own_seta (us.map Value.int ++ []) [(Value.int (0 : Int32))] (.int 0) (.int c0) (us.length + 0) (by simp))
    have cc31 : oQ X28 S0' 16 #[sR b, sI (Int32.ofNat us.length), sR x] [.ref x] := Steps.trans (cc26.trans (st28 _ (Steps.refl _))) (by
      refine XS.aloadN X28.here hx rfl (q 3 rfl) rfl rfl ?_
      exact Steps.refl _)
    have fa30 := Ex.keep K28
    have fa32 := Cx.keep K28 (ninS ne_x_b nin0)
    have fa33 := Vx.keep K28 (ninS ne_x_b nin0)
    have fa34 := Ax.keep K28 (ninS ne_tx_b nin0)
    have fa35 := X00.keep K28 (allS gb all0)
    obtain ⟨_, T36, L36, X36, ⟨rfl, Nq36, eq36⟩, st36⟩ := oCV (y := yM55) (z := yM55) X28 cc31 hx hZ hown hml (q 4 rfl) e28 fa30 w_295 w_296 (notFace_of_selects (args := #[]) (mvT hZ w_298)) w_298 w_297 (by decide) [] [] (lenOf own_pd20 rfl) (bO (own_len l Z a0 hw x ([c0, c1]) z h28 n0 Zs1 fa35 O2 P5 ⟨fa30, fa32, px, lx, tx, kx, fa33, fa34⟩) hZ w_299 w_6)
    have N36 := Fr.app N28 Nq36
    have cc37 : oQ X36 S0' 19 #[sR b, sI (Int32.ofNat us.length), sR x] [.int 2] := st36
    have cc38 : oQ X36 S0' 29 #[sR b, sI (Int32.ofNat us.length), sR x] [.int 1, .ref x, .int ((Int32.ofNat us.length) + (1 : Int32)), .ref b] := Steps.trans cc37 (by
      refine iconstV X36.here hx rfl 1 (q 5 rfl) (by decide) ?_
      refine XS.icmpNo X36.here hx rfl (q 6 rfl) rfl (ii_le_f (by decide)) ?_
      refine XS.aloadN X36.here hx rfl (q 18 rfl) rfl rfl ?_
      refine XS.iloadN X36.here hx rfl (q 19 rfl) rfl ?_
      refine iconstV X36.here hx rfl 1 (q 20 rfl) (by decide) ?_
      refine XS.iadd X36.here hx rfl (q 21 rfl) rfl ?_
      refine XS.aloadN X36.here hx rfl (q 22 rfl) rfl rfl ?_
      refine iconstV X36.here hx rfl 1 (q 23 rfl) (by decide) ?_
      exact Steps.refl _)
    have cz39 : oQ X36 S0' 29 #[sR b, sI (Int32.ofNat us.length), sR x] [.int 1, .ref x, .int (Int32.ofNat (us.length + 1)), .ref b] := by
      have := cc38
      rw [succ32] at this
      exact this
    obtain ⟨_, T40, L40, X40, ⟨rfl, Nq40, eq40⟩, st40⟩ := oCV (y := yM85) (z := yM85) X36 cz39 hx hZ hown hml (q 24 rfl) eq36 fa30 (W 492 rfl) (W 493 rfl) (notFace_of_selects (args := #[]) (mvT hZ w_495)) w_495 (W 494 rfl) (by decide) [.int 1] [.int (Int32.ofNat (us.length + 1)), .ref b] (lenOf own_pd47 rfl) (bO (own_chl l Z a0 hw x [c0, c1] 1 z f h28 n0 Zs1 fa35 O2 P5 O4 hf ⟨fa30, fa32, px, lx, tx, kx, fa33, fa34⟩ (by simp)) hZ (W 496 rfl) w_6)
    have N40 := Fr.app N36 Nq40
    have cc41 : oQ X40 S0' 32 #[sR b, sI (Int32.ofNat us.length), sR x] [.int c1, .int (Int32.ofNat (us.length + 1)), .ref b] := st40
    obtain ⟨clu42, Aru42, qu42, Su42, Ngu42, Hsu42, Gsu42⟩ := id V29
    have inu42 : ¬ (Int32.ofNat (us.length + 1) < 0 ∨ clu42.slots.size ≤ (Int32.ofNat (us.length + 1)).toNatClampNeg) := inb_of Su42 ⟨Int32.ofNat_not_neg (by omega), lt32 (b := 6) (by decide) (by omega)⟩
    obtain ⟨T43, h43, X43, e43, W43, st43⟩ := stC X40 hx hZ eq40 Aru42 (j := Int32.ofNat (us.length + 1)) inu42 (g := (mkF m 32 #[sR b, sI (Int32.ofNat us.length), sR x] [.int c1, .int (Int32.ofNat (us.length + 1)), .ref b])) rfl rfl (q 25 rfl)
    have K43 := Keep.of_wr W43
    have N43 := Fr.snoc X43 N40 gb
    have KK2 := KK1.trans K43 (allS (Or.inl (lM 0 rfl)) all0)
    have Zs2 := Nat.le_trans Zs1 K43.1
    have V43 : Arv Z h43 b kc .char (6 : Int32) ((us.map Value.int ++ [(Value.int c0), (Value.int (0 : Int32))]).set (us.length + 1) (.int (nar .char c1))) (.int (0 : Int32)) := Arv.set Aru42 qu42 Su42 Ngu42 Hsu42 Gsu42 (fits_nar_char _) W43 (us.length + 1) (n32 (by omega)) (by simp)
    have V44 : Arv Z h43 b kc .char (6 : Int32) (us.map Value.int ++ [(Value.int c0), (Value.int c1)]) (.int (0 : Int32)) := own_arv_eq V43 (by rw [own_nar (px _ (by simp))]; simpa using own_seta (us.map Value.int ++ [(Value.int c0)]) [] (.int 0) (.int c1) (us.length + 1) (by simp))
    have cc46 : oQ X43 S0' 35 #[sR b, sI (Int32.ofNat us.length), sR x] [.ref x, .int (Int32.ofNat us.length)] := Steps.trans (cc41.trans (st43 _ (Steps.refl _))) (by
      refine XS.iloadN X43.here hx rfl (q 7 rfl) rfl ?_
      refine XS.aloadN X43.here hx rfl (q 8 rfl) rfl rfl ?_
      exact Steps.refl _)
    have fa45 := fa30.keep K43
    have fa47 := fa32.keep K43 (ninS ne_x_b nin0)
    have fa48 := fa33.keep K43 (ninS ne_x_b nin0)
    have fa49 := fa34.keep K43 (ninS ne_tx_b nin0)
    have fa50 := fa35.keep K43 (allS gb all0)
    obtain ⟨_, T51, L51, X51, ⟨rfl, Nq51, eq51⟩, st51⟩ := oCV (y := yM55) (z := yM55) X43 cc46 hx hZ hown hml (q 9 rfl) e43 fa45 w_295 w_296 (notFace_of_selects (args := #[]) (mvT hZ w_298)) w_298 w_297 (by decide) [] [.int (Int32.ofNat us.length)] (lenOf own_pd20 rfl) (bO (own_len l Z a0 hw x ([c0, c1]) z h43 n0 Zs2 fa50 O2 P5 ⟨fa45, fa47, px, lx, tx, kx, fa48, fa49⟩) hZ w_299 w_6)
    have N51 := Fr.app N43 Nq51
    have cc52 : oQ X51 S0' 38 #[sR b, sI (Int32.ofNat us.length), sR x] [.int 2, .int (Int32.ofNat us.length)] := st51
    have cc53 : oQ X51 S0' 39 #[sR b, sI (Int32.ofNat us.length), sR x] [.int ((Int32.ofNat us.length) + (2 : Int32))] := Steps.trans cc52 (by
      refine XS.iadd X51.here hx rfl (q 10 rfl) rfl ?_
      exact Steps.refl _)
    have en : Int32.ofNat us.length + (2 : Int32) = Int32.ofNat (us ++ [c0, c1]).length := by rw [List.length_append]; exact add32n us.length 2
    have cz54 : oQ X51 S0' 39 #[sR b, sI (Int32.ofNat us.length), sR x] [.int (Int32.ofNat (us ++ [c0, c1]).length)] := by
      have := cc53
      rw [en] at this
      exact this
    exact oRI X51 Bd cz54 (q 11 rfl) rfl (rfl) (by simp) eq51 ⟨rfl, N51, KK2, own_arv_eq V44 (by simp)⟩
  · exact absurd hc (by simp)
theorem own_nlt32 {i n : Nat} (hn : n ≤ 6) (h : ¬ i < n) (hi : i ≤ 6 := by decide) : ¬ Int32.ofNat i < Int32.ofNat n := by
  have t : ∀ (k : Fin 7) , ¬ i < k.val → i ≤ 6 → ¬ Int32.ofNat i < Int32.ofNat k.val := by
    intro k hk hi
    have : ∀ (a : Fin 7) (b : Fin 7), ¬ a.val < b.val → ¬ Int32.ofNat a.val < Int32.ofNat b.val := by decide +kernel
    exact this ⟨i, by omega⟩ k hk
  exact t ⟨n, by omega⟩ h hi
theorem own_getm (us : List Int32) (i : Nat) (h : i < us.length) : (us.map Value.int).getD i (.int (0 : Int32)) = .int (us.getD i 0) := by
  simp [List.getD_eq_getElem?_getD, h]
def Q_own_same (Z : State) (x b : Addr) (kc : ClassId) (us : List Int32) (z : Int32) (f : Value) (h0 : Heap) (n0 : Nat) (v : Option Value) (h : Heap) (L : List Loc) : Prop := v = some (.int 1) ∧ Fr n0 L ∧ h = h0
theorem own_same (l : Launch) (Z : State) (a0 : Array Value) (hw : oH a0 Z) (x b : Addr) (kc : ClassId) (us : List Int32) (z : Int32) (f : Value) (h0 : Heap) (n0 : Nat) (Z0 : n0 ≤ h0.size) (X00 : Old Z n0 h0) (O2 : Sta Z Z.heap "java/lang/String" "COMPACT_STRINGS" "Z" (.int z)) (P5 : ¬ z = 0) (O4 : Sta Z Z.heap "jdk/internal/util/Preconditions" "SIOOBE_FORMATTER" "Ljava/util/function/BiFunction;" f) (hf : f.isRef = true) (Hx : own_Lat Z h0 x us) (A : Arv Z h0 b kc .char (6 : Int32) (us.map Value.int) (.int (0 : Int32))) (hl : us.length ≤ 6) :
    oC l yM88 (.code yM88 method_5_code 3 (some .boolean)) rM53 #[(.ref x), (.ref b), (.int (Int32.ofNat us.length))] Z h0 (Q_own_same Z x b kc us z f h0 n0) := by
  refine oO (plainFor_of_name own_pn24) hisR fun p e s m below meth c s₁ S0' Bd hS hx dB hml hown hnm hZ X0 e0 => ?_
  have N0 := Fr.nil n0
  have KK0 := Keep.refl h0 ([] : List Addr)
  have cc0 : oQ X0 S0' 0 #[sR x, sR b, sI (Int32.ofNat us.length)] [] := oE hS rfl
  have W := @own_w Z a0 hw
  have q := @dX _ _ c D_81 @dB
  have w_6 := W 6 rfl
  have w_492 := W 492 rfl
  have w_493 := W 493 rfl
  have w_494 := W 494 rfl
  have w_495 := W 495 rfl
  have w_496 := W 496 rfl
  have Hx' := Hx
  obtain ⟨Ex, Cx, px, lx, tx, kx, Vx, Ax⟩ := Hx'
  have cc21 : oQ X0 S0' 1 #[sR x, sR b, sI (Int32.ofNat us.length)] [.ref x] := Steps.trans cc0 (by
    refine XS.aloadN X0.here hx rfl (q 0 rfl) rfl rfl ?_
    exact Steps.refl _)
  obtain ⟨_, T22, L22, X22, ⟨rfl, Nq22, eq22⟩, st22⟩ := oCV (y := yM55) (z := yM55) X0 cc21 hx hZ hown hml (q 1 rfl) e0 Ex (W 295 rfl) (W 296 rfl) (notFace_of_selects (args := #[]) (mvT hZ (W 298 rfl))) (W 298 rfl) (W 297 rfl) (by decide) [] [] (lenOf own_pd20 rfl) (bO (own_len l Z a0 hw x us z h0 n0 Z0 X00 O2 P5 ⟨Ex, Cx, px, lx, tx, kx, Vx, Ax⟩) hZ (W 299 rfl) w_6)
  have N22 := Fr.app N0 Nq22
  have cc23 : oQ X22 S0' 10 #[sR x, sR b, sI (Int32.ofNat us.length)] [] := Steps.trans st22 (by
    refine XS.iloadN X22.here hx rfl (q 2 rfl) rfl ?_
    refine XS.icmpYes X22.here hx rfl (pc0 := 5) rfl (q 3 rfl) rfl (ii_eq_t rfl) (by decide) rfl ?_
    exact Steps.refl _)
  have cc24 : oQ X22 S0' 11 #[sR x, sR b, sI (Int32.ofNat us.length)] [.int (Int32.ofNat us.length)] := Steps.trans cc23 (by
    refine XS.iloadN X22.here hx rfl (q 4 rfl) rfl ?_
    exact Steps.refl _)
  obtain ⟨Tj0, Lj0, Xj0, ej0, Nj0, cj0⟩ : ∃ (T' : State) (L' : List Loc), Stand p l e rM53 s m #[(.ref x), (.ref b), (.int (Int32.ofNat us.length))] below meth c T' L' 0 0 ∧ T'.heap = h0 ∧ Fr n0 L' ∧ Steps p.tables e below S0' (T'.setTop (mkF m 27 #[sR x, sR b, sI (Int32.ofNat us.length)] [])) := by
    by_cases hi : 0 < us.length
    · skip
      have cc25 : oQ X22 S0' 16 #[sR x, sR b, sI (Int32.ofNat us.length)] [.int 0, .ref x] := Steps.trans cc24 (by
        refine XS.ifNo X22.here hx rfl (q 5 rfl) rfl (i0_le_f (lt32 (a := 0) (by omega) hi)) ?_
        refine XS.aloadN X22.here hx rfl (q 6 rfl) rfl rfl ?_
        refine iconstV X22.here hx rfl 0 (q 7 rfl) (by decide) ?_
        exact Steps.refl _)
      obtain ⟨_, T26, L26, X26, ⟨rfl, Nq26, eq26⟩, st26⟩ := oCV (y := yM85) (z := yM85) X22 cc25 hx hZ hown hml (q 8 rfl) eq22 Ex w_492 w_493 (notFace_of_selects (args := #[]) (mvT hZ w_495)) w_495 w_494 (by decide) [.int 0] [] (lenOf own_pd47 rfl) (bO (own_chl l Z a0 hw x us 0 z f h0 n0 Z0 X00 O2 P5 O4 hf Hx hi) hZ w_496 w_6)
      have N26 := Fr.app N22 Nq26
      have cc27 : oQ X26 S0' 21 #[sR x, sR b, sI (Int32.ofNat us.length)] [.int 0, .ref b, .int (us.getD 0 0)] := Steps.trans st26 (by
        refine XS.aloadN X26.here hx rfl (q 9 rfl) rfl rfl ?_
        refine iconstV X26.here hx rfl 0 (q 10 rfl) (by decide) ?_
        exact Steps.refl _)
      obtain ⟨clu28, Aru28, qu28, Su28, Ngu28, Hsu28, Gsu28⟩ := id A
      have inu28 : ¬ ((0 : Int32) < 0 ∨ clu28.slots.size ≤ ((0 : Int32)).toNatClampNeg) := inb_of Su28 ⟨by decide, by decide⟩
      have atu28 : clu28.slots[((0 : Int32)).toNatClampNeg]? = some (.int (us.getD 0 0)) := Hsu28.at inu28 (own_getm us 0 hi)
      have cc29 : oQ X26 S0' 27 #[sR x, sR b, sI (Int32.ofNat us.length)] [] := Steps.trans cc27 (by
        refine X26.caload hx (j := (0 : Int32)) (v := (.int (us.getD 0 0))) (by rw [eq26]; exact Aru28.1) (State.isArrayOf_alike (hZ).alike Aru28.2.1) Aru28.2.2 inu28 atu28 (g := (mkF m 21 #[sR x, sR b, sI (Int32.ofNat us.length)] [.int 0, .ref b, .int (us.getD 0 0)])) rfl rfl (q 11 rfl) _ ?_
        refine XS.icmpYes X26.here hx rfl (pc0 := 22) rfl (q 12 rfl) rfl (ii_eq_t rfl) (by decide) rfl ?_
        exact Steps.refl _)
      exact ⟨_, _, X26, eq26, N26, cc29⟩
    · skip
      have cc25 : oQ X22 S0' 27 #[sR x, sR b, sI (Int32.ofNat us.length)] [] := Steps.trans cc24 (by
        refine XS.ifYes X22.here hx rfl (pc0 := 11) rfl (q 5 rfl) rfl (i0_le_t (own_nlt32 hl hi)) (by decide) rfl ?_
        exact Steps.refl _)
      exact ⟨_, _, X22, eq22, N22, cc25⟩
  have cc30 : oQ Xj0 S0' 29 #[sR x, sR b, sI (Int32.ofNat us.length)] [.int 1, .int (Int32.ofNat us.length)] := Steps.trans cj0 (by
    refine XS.iloadN Xj0.here hx rfl (q 13 rfl) rfl ?_
    refine iconstV Xj0.here hx rfl 1 (q 14 rfl) (by decide) ?_
    exact Steps.refl _)
  obtain ⟨Tj1, Lj1, Xj1, ej1, Nj1, cj1⟩ : ∃ (T' : State) (L' : List Loc), Stand p l e rM53 s m #[(.ref x), (.ref b), (.int (Int32.ofNat us.length))] below meth c T' L' 0 0 ∧ T'.heap = h0 ∧ Fr n0 L' ∧ Steps p.tables e below S0' (T'.setTop (mkF m 45 #[sR x, sR b, sI (Int32.ofNat us.length)] [])) := by
    by_cases hi : 1 < us.length
    · skip
      have cc31 : oQ Xj0 S0' 34 #[sR x, sR b, sI (Int32.ofNat us.length)] [.int 1, .ref x] := Steps.trans cc30 (by
        refine XS.icmpNo Xj0.here hx rfl (q 15 rfl) rfl (ii_le_f (lt32 (a := 1) (by omega) hi)) ?_
        refine XS.aloadN Xj0.here hx rfl (q 16 rfl) rfl rfl ?_
        refine iconstV Xj0.here hx rfl 1 (q 17 rfl) (by decide) ?_
        exact Steps.refl _)
      obtain ⟨_, T32, L32, X32, ⟨rfl, Nq32, eq32⟩, st32⟩ := oCV (y := yM85) (z := yM85) Xj0 cc31 hx hZ hown hml (q 18 rfl) ej0 Ex w_492 w_493 (notFace_of_selects (args := #[]) (mvT hZ w_495)) w_495 w_494 (by decide) [.int 1] [] (lenOf own_pd47 rfl) (bO (own_chl l Z a0 hw x us 1 z f h0 n0 Z0 X00 O2 P5 O4 hf Hx hi) hZ w_496 w_6)
      have N32 := Fr.app Nj0 Nq32
      have cc33 : oQ X32 S0' 39 #[sR x, sR b, sI (Int32.ofNat us.length)] [.int 1, .ref b, .int (us.getD 1 0)] := Steps.trans st32 (by
        refine XS.aloadN X32.here hx rfl (q 19 rfl) rfl rfl ?_
        refine iconstV X32.here hx rfl 1 (q 20 rfl) (by decide) ?_
        exact Steps.refl _)
      obtain ⟨clu34, Aru34, qu34, Su34, Ngu34, Hsu34, Gsu34⟩ := id A
      have inu34 : ¬ ((1 : Int32) < 0 ∨ clu34.slots.size ≤ ((1 : Int32)).toNatClampNeg) := inb_of Su34 ⟨by decide, by decide⟩
      have atu34 : clu34.slots[((1 : Int32)).toNatClampNeg]? = some (.int (us.getD 1 0)) := Hsu34.at inu34 (own_getm us 1 hi)
      have cc35 : oQ X32 S0' 45 #[sR x, sR b, sI (Int32.ofNat us.length)] [] := Steps.trans cc33 (by
        refine X32.caload hx (j := (1 : Int32)) (v := (.int (us.getD 1 0))) (by rw [eq32]; exact Aru34.1) (State.isArrayOf_alike (hZ).alike Aru34.2.1) Aru34.2.2 inu34 atu34 (g := (mkF m 39 #[sR x, sR b, sI (Int32.ofNat us.length)] [.int 1, .ref b, .int (us.getD 1 0)])) rfl rfl (q 21 rfl) _ ?_
        refine XS.icmpYes X32.here hx rfl (pc0 := 40) rfl (q 22 rfl) rfl (ii_eq_t rfl) (by decide) rfl ?_
        exact Steps.refl _)
      exact ⟨_, _, X32, eq32, N32, cc35⟩
    · skip
      have cc31 : oQ Xj0 S0' 45 #[sR x, sR b, sI (Int32.ofNat us.length)] [] := Steps.trans cc30 (by
        refine XS.icmpYes Xj0.here hx rfl (pc0 := 29) rfl (q 15 rfl) rfl (ii_le_t (own_nlt32 hl hi)) (by decide) rfl ?_
        exact Steps.refl _)
      exact ⟨_, _, Xj0, ej0, Nj0, cc31⟩
  have cc36 : oQ Xj1 S0' 47 #[sR x, sR b, sI (Int32.ofNat us.length)] [.int 2, .int (Int32.ofNat us.length)] := Steps.trans cj1 (by
    refine XS.iloadN Xj1.here hx rfl (q 23 rfl) rfl ?_
    refine iconstV Xj1.here hx rfl 2 (q 24 rfl) (by decide) ?_
    exact Steps.refl _)
  obtain ⟨Tj2, Lj2, Xj2, ej2, Nj2, cj2⟩ : ∃ (T' : State) (L' : List Loc), Stand p l e rM53 s m #[(.ref x), (.ref b), (.int (Int32.ofNat us.length))] below meth c T' L' 0 0 ∧ T'.heap = h0 ∧ Fr n0 L' ∧ Steps p.tables e below S0' (T'.setTop (mkF m 63 #[sR x, sR b, sI (Int32.ofNat us.length)] [])) := by
    by_cases hi : 2 < us.length
    · skip
      have cc37 : oQ Xj1 S0' 52 #[sR x, sR b, sI (Int32.ofNat us.length)] [.int 2, .ref x] := Steps.trans cc36 (by
        refine XS.icmpNo Xj1.here hx rfl (q 25 rfl) rfl (ii_le_f (lt32 (a := 2) (by omega) hi)) ?_
        refine XS.aloadN Xj1.here hx rfl (q 26 rfl) rfl rfl ?_
        refine iconstV Xj1.here hx rfl 2 (q 27 rfl) (by decide) ?_
        exact Steps.refl _)
      obtain ⟨_, T38, L38, X38, ⟨rfl, Nq38, eq38⟩, st38⟩ := oCV (y := yM85) (z := yM85) Xj1 cc37 hx hZ hown hml (q 28 rfl) ej1 Ex w_492 w_493 (notFace_of_selects (args := #[]) (mvT hZ w_495)) w_495 w_494 (by decide) [.int 2] [] (lenOf own_pd47 rfl) (bO (own_chl l Z a0 hw x us 2 z f h0 n0 Z0 X00 O2 P5 O4 hf Hx hi) hZ w_496 w_6)
      have N38 := Fr.app Nj1 Nq38
      have cc39 : oQ X38 S0' 57 #[sR x, sR b, sI (Int32.ofNat us.length)] [.int 2, .ref b, .int (us.getD 2 0)] := Steps.trans st38 (by
        refine XS.aloadN X38.here hx rfl (q 29 rfl) rfl rfl ?_
        refine iconstV X38.here hx rfl 2 (q 30 rfl) (by decide) ?_
        exact Steps.refl _)
      obtain ⟨clu40, Aru40, qu40, Su40, Ngu40, Hsu40, Gsu40⟩ := id A
      have inu40 : ¬ ((2 : Int32) < 0 ∨ clu40.slots.size ≤ ((2 : Int32)).toNatClampNeg) := inb_of Su40 ⟨by decide, by decide⟩
      have atu40 : clu40.slots[((2 : Int32)).toNatClampNeg]? = some (.int (us.getD 2 0)) := Hsu40.at inu40 (own_getm us 2 hi)
      have cc41 : oQ X38 S0' 63 #[sR x, sR b, sI (Int32.ofNat us.length)] [] := Steps.trans cc39 (by
        refine X38.caload hx (j := (2 : Int32)) (v := (.int (us.getD 2 0))) (by rw [eq38]; exact Aru40.1) (State.isArrayOf_alike (hZ).alike Aru40.2.1) Aru40.2.2 inu40 atu40 (g := (mkF m 57 #[sR x, sR b, sI (Int32.ofNat us.length)] [.int 2, .ref b, .int (us.getD 2 0)])) rfl rfl (q 31 rfl) _ ?_
        refine XS.icmpYes X38.here hx rfl (pc0 := 58) rfl (q 32 rfl) rfl (ii_eq_t rfl) (by decide) rfl ?_
        exact Steps.refl _)
      exact ⟨_, _, X38, eq38, N38, cc41⟩
    · skip
      have cc37 : oQ Xj1 S0' 63 #[sR x, sR b, sI (Int32.ofNat us.length)] [] := Steps.trans cc36 (by
        refine XS.icmpYes Xj1.here hx rfl (pc0 := 47) rfl (q 25 rfl) rfl (ii_le_t (own_nlt32 hl hi)) (by decide) rfl ?_
        exact Steps.refl _)
      exact ⟨_, _, Xj1, ej1, Nj1, cc37⟩
  have cc42 : oQ Xj2 S0' 65 #[sR x, sR b, sI (Int32.ofNat us.length)] [.int 3, .int (Int32.ofNat us.length)] := Steps.trans cj2 (by
    refine XS.iloadN Xj2.here hx rfl (q 33 rfl) rfl ?_
    refine iconstV Xj2.here hx rfl 3 (q 34 rfl) (by decide) ?_
    exact Steps.refl _)
  obtain ⟨Tj3, Lj3, Xj3, ej3, Nj3, cj3⟩ : ∃ (T' : State) (L' : List Loc), Stand p l e rM53 s m #[(.ref x), (.ref b), (.int (Int32.ofNat us.length))] below meth c T' L' 0 0 ∧ T'.heap = h0 ∧ Fr n0 L' ∧ Steps p.tables e below S0' (T'.setTop (mkF m 81 #[sR x, sR b, sI (Int32.ofNat us.length)] [])) := by
    by_cases hi : 3 < us.length
    · skip
      have cc43 : oQ Xj2 S0' 70 #[sR x, sR b, sI (Int32.ofNat us.length)] [.int 3, .ref x] := Steps.trans cc42 (by
        refine XS.icmpNo Xj2.here hx rfl (q 35 rfl) rfl (ii_le_f (lt32 (a := 3) (by omega) hi)) ?_
        refine XS.aloadN Xj2.here hx rfl (q 36 rfl) rfl rfl ?_
        refine iconstV Xj2.here hx rfl 3 (q 37 rfl) (by decide) ?_
        exact Steps.refl _)
      obtain ⟨_, T44, L44, X44, ⟨rfl, Nq44, eq44⟩, st44⟩ := oCV (y := yM85) (z := yM85) Xj2 cc43 hx hZ hown hml (q 38 rfl) ej2 Ex w_492 w_493 (notFace_of_selects (args := #[]) (mvT hZ w_495)) w_495 w_494 (by decide) [.int 3] [] (lenOf own_pd47 rfl) (bO (own_chl l Z a0 hw x us 3 z f h0 n0 Z0 X00 O2 P5 O4 hf Hx hi) hZ w_496 w_6)
      have N44 := Fr.app Nj2 Nq44
      have cc45 : oQ X44 S0' 75 #[sR x, sR b, sI (Int32.ofNat us.length)] [.int 3, .ref b, .int (us.getD 3 0)] := Steps.trans st44 (by
        refine XS.aloadN X44.here hx rfl (q 39 rfl) rfl rfl ?_
        refine iconstV X44.here hx rfl 3 (q 40 rfl) (by decide) ?_
        exact Steps.refl _)
      obtain ⟨clu46, Aru46, qu46, Su46, Ngu46, Hsu46, Gsu46⟩ := id A
      have inu46 : ¬ ((3 : Int32) < 0 ∨ clu46.slots.size ≤ ((3 : Int32)).toNatClampNeg) := inb_of Su46 ⟨by decide, by decide⟩
      have atu46 : clu46.slots[((3 : Int32)).toNatClampNeg]? = some (.int (us.getD 3 0)) := Hsu46.at inu46 (own_getm us 3 hi)
      have cc47 : oQ X44 S0' 81 #[sR x, sR b, sI (Int32.ofNat us.length)] [] := Steps.trans cc45 (by
        refine X44.caload hx (j := (3 : Int32)) (v := (.int (us.getD 3 0))) (by rw [eq44]; exact Aru46.1) (State.isArrayOf_alike (hZ).alike Aru46.2.1) Aru46.2.2 inu46 atu46 (g := (mkF m 75 #[sR x, sR b, sI (Int32.ofNat us.length)] [.int 3, .ref b, .int (us.getD 3 0)])) rfl rfl (q 41 rfl) _ ?_
        refine XS.icmpYes X44.here hx rfl (pc0 := 76) rfl (q 42 rfl) rfl (ii_eq_t rfl) (by decide) rfl ?_
        exact Steps.refl _)
      exact ⟨_, _, X44, eq44, N44, cc47⟩
    · skip
      have cc43 : oQ Xj2 S0' 81 #[sR x, sR b, sI (Int32.ofNat us.length)] [] := Steps.trans cc42 (by
        refine XS.icmpYes Xj2.here hx rfl (pc0 := 65) rfl (q 35 rfl) rfl (ii_le_t (own_nlt32 hl hi)) (by decide) rfl ?_
        exact Steps.refl _)
      exact ⟨_, _, Xj2, ej2, Nj2, cc43⟩
  have cc48 : oQ Xj3 S0' 83 #[sR x, sR b, sI (Int32.ofNat us.length)] [.int 4, .int (Int32.ofNat us.length)] := Steps.trans cj3 (by
    refine XS.iloadN Xj3.here hx rfl (q 43 rfl) rfl ?_
    refine iconstV Xj3.here hx rfl 4 (q 44 rfl) (by decide) ?_
    exact Steps.refl _)
  obtain ⟨Tj4, Lj4, Xj4, ej4, Nj4, cj4⟩ : ∃ (T' : State) (L' : List Loc), Stand p l e rM53 s m #[(.ref x), (.ref b), (.int (Int32.ofNat us.length))] below meth c T' L' 0 0 ∧ T'.heap = h0 ∧ Fr n0 L' ∧ Steps p.tables e below S0' (T'.setTop (mkF m 99 #[sR x, sR b, sI (Int32.ofNat us.length)] [])) := by
    by_cases hi : 4 < us.length
    · skip
      have cc49 : oQ Xj3 S0' 88 #[sR x, sR b, sI (Int32.ofNat us.length)] [.int 4, .ref x] := Steps.trans cc48 (by
        refine XS.icmpNo Xj3.here hx rfl (q 45 rfl) rfl (ii_le_f (lt32 (a := 4) (by omega) hi)) ?_
        refine XS.aloadN Xj3.here hx rfl (q 46 rfl) rfl rfl ?_
        refine iconstV Xj3.here hx rfl 4 (q 47 rfl) (by decide) ?_
        exact Steps.refl _)
      obtain ⟨_, T50, L50, X50, ⟨rfl, Nq50, eq50⟩, st50⟩ := oCV (y := yM85) (z := yM85) Xj3 cc49 hx hZ hown hml (q 48 rfl) ej3 Ex w_492 w_493 (notFace_of_selects (args := #[]) (mvT hZ w_495)) w_495 w_494 (by decide) [.int 4] [] (lenOf own_pd47 rfl) (bO (own_chl l Z a0 hw x us 4 z f h0 n0 Z0 X00 O2 P5 O4 hf Hx hi) hZ w_496 w_6)
      have N50 := Fr.app Nj3 Nq50
      have cc51 : oQ X50 S0' 93 #[sR x, sR b, sI (Int32.ofNat us.length)] [.int 4, .ref b, .int (us.getD 4 0)] := Steps.trans st50 (by
        refine XS.aloadN X50.here hx rfl (q 49 rfl) rfl rfl ?_
        refine iconstV X50.here hx rfl 4 (q 50 rfl) (by decide) ?_
        exact Steps.refl _)
      obtain ⟨clu52, Aru52, qu52, Su52, Ngu52, Hsu52, Gsu52⟩ := id A
      have inu52 : ¬ ((4 : Int32) < 0 ∨ clu52.slots.size ≤ ((4 : Int32)).toNatClampNeg) := inb_of Su52 ⟨by decide, by decide⟩
      have atu52 : clu52.slots[((4 : Int32)).toNatClampNeg]? = some (.int (us.getD 4 0)) := Hsu52.at inu52 (own_getm us 4 hi)
      have cc53 : oQ X50 S0' 99 #[sR x, sR b, sI (Int32.ofNat us.length)] [] := Steps.trans cc51 (by
        refine X50.caload hx (j := (4 : Int32)) (v := (.int (us.getD 4 0))) (by rw [eq50]; exact Aru52.1) (State.isArrayOf_alike (hZ).alike Aru52.2.1) Aru52.2.2 inu52 atu52 (g := (mkF m 93 #[sR x, sR b, sI (Int32.ofNat us.length)] [.int 4, .ref b, .int (us.getD 4 0)])) rfl rfl (q 51 rfl) _ ?_
        refine XS.icmpYes X50.here hx rfl (pc0 := 94) rfl (q 52 rfl) rfl (ii_eq_t rfl) (by decide) rfl ?_
        exact Steps.refl _)
      exact ⟨_, _, X50, eq50, N50, cc53⟩
    · skip
      have cc49 : oQ Xj3 S0' 99 #[sR x, sR b, sI (Int32.ofNat us.length)] [] := Steps.trans cc48 (by
        refine XS.icmpYes Xj3.here hx rfl (pc0 := 83) rfl (q 45 rfl) rfl (ii_le_t (own_nlt32 hl hi)) (by decide) rfl ?_
        exact Steps.refl _)
      exact ⟨_, _, Xj3, ej3, Nj3, cc49⟩
  have cc54 : oQ Xj4 S0' 101 #[sR x, sR b, sI (Int32.ofNat us.length)] [.int 5, .int (Int32.ofNat us.length)] := Steps.trans cj4 (by
    refine XS.iloadN Xj4.here hx rfl (q 53 rfl) rfl ?_
    refine iconstV Xj4.here hx rfl 5 (q 54 rfl) (by decide) ?_
    exact Steps.refl _)
  obtain ⟨Tj5, Lj5, Xj5, ej5, Nj5, cj5⟩ : ∃ (T' : State) (L' : List Loc), Stand p l e rM53 s m #[(.ref x), (.ref b), (.int (Int32.ofNat us.length))] below meth c T' L' 0 0 ∧ T'.heap = h0 ∧ Fr n0 L' ∧ Steps p.tables e below S0' (T'.setTop (mkF m 117 #[sR x, sR b, sI (Int32.ofNat us.length)] [])) := by
    by_cases hi : 5 < us.length
    · skip
      have cc55 : oQ Xj4 S0' 106 #[sR x, sR b, sI (Int32.ofNat us.length)] [.int 5, .ref x] := Steps.trans cc54 (by
        refine XS.icmpNo Xj4.here hx rfl (q 55 rfl) rfl (ii_le_f (lt32 (a := 5) (by omega) hi)) ?_
        refine XS.aloadN Xj4.here hx rfl (q 56 rfl) rfl rfl ?_
        refine iconstV Xj4.here hx rfl 5 (q 57 rfl) (by decide) ?_
        exact Steps.refl _)
      obtain ⟨_, T56, L56, X56, ⟨rfl, Nq56, eq56⟩, st56⟩ := oCV (y := yM85) (z := yM85) Xj4 cc55 hx hZ hown hml (q 58 rfl) ej4 Ex w_492 w_493 (notFace_of_selects (args := #[]) (mvT hZ w_495)) w_495 w_494 (by decide) [.int 5] [] (lenOf own_pd47 rfl) (bO (own_chl l Z a0 hw x us 5 z f h0 n0 Z0 X00 O2 P5 O4 hf Hx hi) hZ w_496 w_6)
      have N56 := Fr.app Nj4 Nq56
      have cc57 : oQ X56 S0' 111 #[sR x, sR b, sI (Int32.ofNat us.length)] [.int 5, .ref b, .int (us.getD 5 0)] := Steps.trans st56 (by
        refine XS.aloadN X56.here hx rfl (q 59 rfl) rfl rfl ?_
        refine iconstV X56.here hx rfl 5 (q 60 rfl) (by decide) ?_
        exact Steps.refl _)
      obtain ⟨clu58, Aru58, qu58, Su58, Ngu58, Hsu58, Gsu58⟩ := id A
      have inu58 : ¬ ((5 : Int32) < 0 ∨ clu58.slots.size ≤ ((5 : Int32)).toNatClampNeg) := inb_of Su58 ⟨by decide, by decide⟩
      have atu58 : clu58.slots[((5 : Int32)).toNatClampNeg]? = some (.int (us.getD 5 0)) := Hsu58.at inu58 (own_getm us 5 hi)
      have cc59 : oQ X56 S0' 117 #[sR x, sR b, sI (Int32.ofNat us.length)] [] := Steps.trans cc57 (by
        refine X56.caload hx (j := (5 : Int32)) (v := (.int (us.getD 5 0))) (by rw [eq56]; exact Aru58.1) (State.isArrayOf_alike (hZ).alike Aru58.2.1) Aru58.2.2 inu58 atu58 (g := (mkF m 111 #[sR x, sR b, sI (Int32.ofNat us.length)] [.int 5, .ref b, .int (us.getD 5 0)])) rfl rfl (q 61 rfl) _ ?_
        refine XS.icmpYes X56.here hx rfl (pc0 := 112) rfl (q 62 rfl) rfl (ii_eq_t rfl) (by decide) rfl ?_
        exact Steps.refl _)
      exact ⟨_, _, X56, eq56, N56, cc59⟩
    · skip
      have cc55 : oQ Xj4 S0' 117 #[sR x, sR b, sI (Int32.ofNat us.length)] [] := Steps.trans cc54 (by
        refine XS.icmpYes Xj4.here hx rfl (pc0 := 101) rfl (q 55 rfl) rfl (ii_le_t (own_nlt32 hl hi)) (by decide) rfl ?_
        exact Steps.refl _)
      exact ⟨_, _, Xj4, ej4, Nj4, cc55⟩
  have cc60 : oQ Xj5 S0' 118 #[sR x, sR b, sI (Int32.ofNat us.length)] [.int 1] := Steps.trans cj5 (by
    refine iconstV Xj5.here hx rfl 1 (q 63 rfl) (by decide) ?_
    exact Steps.refl _)
  exact oRI Xj5 Bd cc60 (q 64 rfl) rfl (rfl) (by simp) ej5 ⟨rfl, Nj5, rfl⟩
theorem own_and3 (x : Int32) : (x &&& (3 : Int32)) = 0 ∨ (x &&& (3 : Int32)) = 1 ∨ (x &&& (3 : Int32)) = 2 ∨ (x &&& (3 : Int32)) = 3 := by
  have t : ∀ k : Fin 4, Int32.ofNat k.val = 0 ∨ Int32.ofNat k.val = 1 ∨ Int32.ofNat k.val = 2 ∨ Int32.ofNat k.val = 3 := by decide +kernel
  have h : (x &&& 3).toBitVec.toNat < 4 := by
    simp only [Int32.toBitVec_and, BitVec.toNat_and]
    exact Nat.lt_succ_of_le Nat.and_le_right
  have e : (x &&& 3) = Int32.ofNat (x &&& 3).toBitVec.toNat := by
    apply Int32.toBitVec_inj.mp
    show _ = BitVec.ofNat 32 _
    rw [BitVec.ofNat_toNat]; simp
  rw [e]
  exact t ⟨_, h⟩
theorem own_len0 {Z : State} {args : Array Value} {t : Jvm.Term} {ty : FieldType} {a : Addr} (ev : t.eval args Z none [] Z = some (.ref a)) (ha : (Jvm.Cond.arrayOf t ty).before args Z = true) (hl : (Jvm.Cond.eq (Jvm.Term.length t) (Jvm.Term.int (0 : Int32))).before args Z = true) : ∃ k, Arv Z Z.heap a k ty (0 : Int32) [] .null := by
  obtain ⟨c, A⟩ := Arr.start ev (Cond.before_iff.mp ha)
  have hz : c.slots.size = 0 := by
    have hv := Cond.before_iff.mp hl
    obtain ⟨x, y, hx, hy, -, hk⟩ := cmp_v (Or.inl hv)
    obtain rfl : y = .int 0 := Option.some.inj (hy.symm.trans (Term.int_eval 0))
    obtain ⟨z, rfl⟩ := hk
    have e0 : z = 0 := gotT (Cond.eq_ints hx (Term.int_eval 0)) hv
    have h2 : Z.arrayAt? a = some c := Arr.fin (Vm.Alike.refl _) A
    by_cases p : c.slots.size < 2 ^ 31
    · have e2 := hx.symm.trans (len_f ev h2 p)
      have e3 : z = c.slots.size.toInt32 := by simpa using e2
      have e4 := len_toInt p
      rw [← e3, e0] at e4
      have e5 : (0 : Int32).toInt = 0 := rfl
      omega
    · simp [Term.eval, ev, h2, p] at hx
  exact ⟨c.cls, c, A, rfl, hz, by decide, fun j hj => absurd hj (by omega), fun j hj => absurd hj (by omega)⟩
def Q_own_law (Z : State) (p1 p2 p3 p4 p5 z : Int32) (f : Value) (dd mr el g0 em oe : Addr) (kd kg0 : ClassId) (h0 : Heap) (n0 : Nat) (v : Option Value) (h : Heap) (L : List Loc) : Prop := v = some (.int 1) ∧ Fr n0 L
set_option maxRecDepth 65536 in
set_option maxHeartbeats 40000000 in
theorem own_law (l : Launch) (Z : State) (a0 : Array Value) (hw : ∀ d ∈ tables_1, d.before a0 Z = true) (ws : List Jvm.Cond) (p1 p2 p3 p4 p5 z : Int32) (f : Value) (dd mr el g0 em oe : Addr) (kd kg0 : ClassId) (h0 : Heap) (n0 : Nat) (Z0 : n0 ≤ h0.size) (X00 : Old Z n0 h0) (O2 : Sta Z Z.heap "java/lang/String" "COMPACT_STRINGS" "Z" (.int z)) (P5 : ¬ z = 0) (O4 : Sta Z Z.heap "jdk/internal/util/Preconditions" "SIOOBE_FORMATTER" "Ljava/util/function/BiFunction;" f) (hf : f.isRef = true) (OD : Sta Z Z.heap "java/util/ArrayList" "DEFAULTCAPACITY_EMPTY_ELEMENTDATA" "[Ljava/lang/Object;" (.ref dd)) (Ad : Arv Z Z.heap dd kd (.object "java/lang/Object") (0 : Int32) [] .null) (OL : Sta Z Z.heap "java/util/ImmutableCollections" "EMPTY_LIST" "Ljava/util/ImmutableCollections$ListN;" (.ref el)) (N1 : zE3 Z Z.heap el) (N2 : zF8 Z Z.heap el (.ref g0)) (N3 : Arv Z Z.heap g0 kg0 (.object "java/lang/Object") (0 : Int32) [] .null) (OE : Sta Z Z.heap "java/util/ImmutableCollections" "EMPTY" "Ljava/lang/Object;" (.ref em)) (EM : Exa Z Z.heap em "java/lang/Object") (OO : Sta Z Z.heap "java/util/Optional" "EMPTY" "Ljava/util/Optional;" (.ref oe)) (EO : zE7 Z Z.heap oe) (FO : zF15 Z Z.heap oe .null) (MM : own_Mir Z "[Ljava/lang/Object;" mr) :
    MetFree l x (head1 (Jvm.Cond.code x code maxLocals ret :: ws) room_1) (fun a_ U_ => a_ = #[(.int p1), (.int p2), (.int p3), (.int p4), (.int p5)] ∧ Z.Warmed39 U_.vm ∧ U_.heap = h0 ∧ CHv Z EL U_.vm h0) (fun _ _ _ _ _ => True) (fun _ U_ o_ V_ => ∃ v_ L_, o_ = .returned v_ ∧ Q_own_law Z p1 p2 p3 p4 p5 z f dd mr el g0 em oe kd kg0 h0 n0 v_ V_.heap L_ ∧ CHr Z EL U_.vm U_.heap V_.vm V_.heap ∧ ReturnedEndW U_ o_ V_ L_ room_1.cells room_1.slots) := by
  refine MetFree.of_bodySF (plainFor_of_name own_pn24) hisR ?_
  intro p e s m args below meth c s₁ Bd hml0 hP hK
  obtain ⟨rfl, hZ, hh, hCH⟩ := hP
  have hx := Bd.exec
  have hby := Bd.bytes
  have dB := @own_d c _ hby
  have hml : c.maxLocals = 25 := hml0
  have hown : s.vm.findClass "com/example/ontology_over_tables/ontologyovertables/mapping/TermMapConstantPinLaw" = some m.cls := findClass_of_methodNamed Bd.named
  have hnm := (name_of_methodNamed Bd.named Bd.method).1
  have X0 : Stand p l e room_1 (s.setVm s.vm) m #[(.int p1), (.int p2), (.int p3), (.int p4), (.int p5)] below meth c s₁ [] 0 0 := Stand.of_body Bd
  have e0 : s₁.heap = h0 := by rw [← hh, Bd.state]; rfl
  have N0 := Fr.nil n0
  have KK0 := Keep.refl h0 ([] : List Addr)
  have C0 := CHr.refl hCH
  have hS0 : s.Since s.vm 0 := (State.WarmedH.refl s).since 0
  have hk0 : 0 ≤ h0.size := Nat.zero_le _
  have hEL : EW Z a0 EL := own_EW hw
  have cc0 : Steps p.tables e below (s₁.setTop (entryFrame m #[(.int p1), (.int p2), (.int p3), (.int p4), (.int p5)] maxLocals)) (s₁.setTop (mkF m 0 #[sI p1, sI p2, sI p3, sI p4, sI p5, uN, uN, uN, uN, uN, uN, uN, uN, uN, uN, uN, uN, uN, uN, uN, uN, uN, uN, uN, uN] [])) := XT.entry rfl
  obtain ⟨S0', hS0'⟩ : ∃ S, S = (s₁.setTop (entryFrame m #[(.int p1), (.int p2), (.int p3), (.int p4), (.int p5)] maxLocals)) := ⟨_, rfl⟩
  rw [← hS0'] at cc0
  have W := @own_w Z a0 hw
  have w_2 := W 2 rfl
  have w_3 := W 3 rfl
  have w_4 := W 4 rfl
  have w_7 := W 7 rfl
  have w_73 := W 73 rfl
  have w_76 := W 76 rfl
  have w_84 := W 84 rfl
  have w_106 := W 106 rfl
  have w_107 := W 107 rfl
  have w_108 := W 108 rfl
  have w_109 := W 109 rfl
  have w_110 := W 110 rfl
  have w_111 := W 111 rfl
  have w_143 := W 143 rfl
  have w_145 := W 145 rfl
  have w_147 := W 147 rfl
  have w_148 := W 148 rfl
  have w_149 := W 149 rfl
  have w_150 := W 150 rfl
  have w_151 := W 151 rfl
  have w_152 := W 152 rfl
  have w_268 := W 268 rfl
  have w_282 := W 282 rfl
  have w_283 := W 283 rfl
  have w_284 := W 284 rfl
  have w_285 := W 285 rfl
  have w_286 := W 286 rfl
  have w_287 := W 287 rfl
  have w_288 := W 288 rfl
  have w_289 := W 289 rfl
  have w_290 := W 290 rfl
  have w_291 := W 291 rfl
  have w_292 := W 292 rfl
  have w_293 := W 293 rfl
  have w_294 := W 294 rfl
  have w_305 := W 305 rfl
  have w_306 := W 306 rfl
  have w_307 := W 307 rfl
  have w_308 := W 308 rfl
  have w_309 := W 309 rfl
  have w_440 := W 440 rfl
  have w_441 := W 441 rfl
  have w_442 := W 442 rfl
  have cc21 : oQ X0 S0' 7 #[sI p1, sI p2, sI p3, sI p4, sI p5, sI ((XT.ushr p1 (3 : Int32)) &&& (3 : Int32)), uN, uN, uN, uN, uN, uN, uN, uN, uN, uN, uN, uN, uN, uN, uN, uN, uN, uN, uN] [] := Steps.trans cc0 (by
    refine XS.iloadN X0.here hx rfl (dB at_0) rfl ?_
    refine iconstV X0.here hx rfl 3 (dB at_1) (by decide) ?_
    refine XT.iushr X0.here hx rfl (dB at_2) rfl ?_
    refine iconstV X0.here hx rfl 3 (dB at_3) (by decide) ?_
    refine XS.iand X0.here hx rfl (dB at_4) rfl ?_
    refine XS.istore X0.here hx rfl (dB at_5) rfl rfl ?_
    exact Steps.refl _)
  obtain ⟨nn, enn⟩ : ∃ y : Int32, y = (XT.ushr p1 (3 : Int32)) &&& (3 : Int32) := ⟨_, rfl⟩
  have cz22 : oQ X0 S0' 7 #[sI p1, sI p2, sI p3, sI p4, sI p5, sI nn, uN, uN, uN, uN, uN, uN, uN, uN, uN, uN, uN, uN, uN, uN, uN, uN, uN, uN, uN] [] := by
    have := cc21
    rw [← enn] at this
    exact this
  have hn4 := own_and3 (XT.ushr p1 3)
  rw [← enn] at hn4
  have cc23 : oQ X0 S0' 10 #[sI p1, sI p2, sI p3, sI p4, sI p5, sI nn, uN, uN, uN, uN, uN, uN, uN, uN, uN, uN, uN, uN, uN, uN, uN, uN, uN, uN, uN] [.int (p1 &&& (1 : Int32))] := Steps.trans cz22 (by
    refine XS.iloadN X0.here hx rfl (dB at_7) rfl ?_
    refine iconstV X0.here hx rfl 1 (dB at_8) (by decide) ?_
    refine XS.iand X0.here hx rfl (dB at_9) rfl ?_
    exact Steps.refl _)
  obtain ⟨b0, hb0, c_b0⟩ : ∃ b0 : Int32, (b0 = 0 ∧ p1 &&& (1 : Int32) = 0 ∨ b0 = 1 ∧ ¬ p1 &&& (1 : Int32) = 0) ∧ Steps p.tables e below S0' (s₁.setTop (mkF m 18 #[sI p1, sI p2, sI p3, sI p4, sI p5, sI nn, uN, uN, uN, uN, uN, uN, uN, uN, uN, uN, uN, uN, uN, uN, uN, uN, uN, uN, uN] [.int b0])) := by
    by_cases hq : p1 &&& (1 : Int32) = 0
    · refine ⟨0, Or.inl ⟨rfl, hq⟩, cc23.trans ?_⟩
      refine XS.ifYes X0.here hx rfl (pc0 := 10) rfl (dB at_10) rfl (i0_eq_t hq) (by decide) rfl ?_
      refine iconstV X0.here hx rfl 0 (dB at_17) (by decide) ?_
      exact Steps.refl _
    · refine ⟨1, Or.inr ⟨rfl, hq⟩, cc23.trans ?_⟩
      refine XS.ifNo X0.here hx rfl (dB at_10) rfl (i0_eq_f hq) ?_
      refine iconstV X0.here hx rfl 1 (dB at_13) (by decide) ?_
      refine XS.goto X0.here hx rfl (pc0 := 14) rfl (dB at_14) (by decide) rfl ?_
      exact Steps.refl _
  have cc24 : oQ X0 S0' 23 #[sI p1, sI p2, sI p3, sI p4, sI p5, sI nn, sI b0, uN, uN, uN, uN, uN, uN, uN, uN, uN, uN, uN, uN, uN, uN, uN, uN, uN, uN] [.int (p1 &&& (2 : Int32))] := Steps.trans c_b0 (by
    refine XS.istore X0.here hx rfl (dB at_18) rfl rfl ?_
    refine XS.iloadN X0.here hx rfl (dB at_20) rfl ?_
    refine iconstV X0.here hx rfl 2 (dB at_21) (by decide) ?_
    refine XS.iand X0.here hx rfl (dB at_22) rfl ?_
    exact Steps.refl _)
  obtain ⟨b1, hb1, c_b1⟩ : ∃ b1 : Int32, (b1 = 0 ∧ p1 &&& (2 : Int32) = 0 ∨ b1 = 1 ∧ ¬ p1 &&& (2 : Int32) = 0) ∧ Steps p.tables e below S0' (s₁.setTop (mkF m 31 #[sI p1, sI p2, sI p3, sI p4, sI p5, sI nn, sI b0, uN, uN, uN, uN, uN, uN, uN, uN, uN, uN, uN, uN, uN, uN, uN, uN, uN, uN] [.int b1])) := by
    by_cases hq : p1 &&& (2 : Int32) = 0
    · refine ⟨0, Or.inl ⟨rfl, hq⟩, cc24.trans ?_⟩
      refine XS.ifYes X0.here hx rfl (pc0 := 23) rfl (dB at_23) rfl (i0_eq_t hq) (by decide) rfl ?_
      refine iconstV X0.here hx rfl 0 (dB at_30) (by decide) ?_
      exact Steps.refl _
    · refine ⟨1, Or.inr ⟨rfl, hq⟩, cc24.trans ?_⟩
      refine XS.ifNo X0.here hx rfl (dB at_23) rfl (i0_eq_f hq) ?_
      refine iconstV X0.here hx rfl 1 (dB at_26) (by decide) ?_
      refine XS.goto X0.here hx rfl (pc0 := 27) rfl (dB at_27) (by decide) rfl ?_
      exact Steps.refl _
  have cc25 : oQ X0 S0' 36 #[sI p1, sI p2, sI p3, sI p4, sI p5, sI nn, sI b0, sI b1, uN, uN, uN, uN, uN, uN, uN, uN, uN, uN, uN, uN, uN, uN, uN, uN, uN] [.int (p1 &&& (4 : Int32))] := Steps.trans c_b1 (by
    refine XS.istore X0.here hx rfl (dB at_31) rfl rfl ?_
    refine XS.iloadN X0.here hx rfl (dB at_33) rfl ?_
    refine iconstV X0.here hx rfl 4 (dB at_34) (by decide) ?_
    refine XS.iand X0.here hx rfl (dB at_35) rfl ?_
    exact Steps.refl _)
  obtain ⟨b2, hb2, c_b2⟩ : ∃ b2 : Int32, (b2 = 0 ∧ p1 &&& (4 : Int32) = 0 ∨ b2 = 1 ∧ ¬ p1 &&& (4 : Int32) = 0) ∧ Steps p.tables e below S0' (s₁.setTop (mkF m 44 #[sI p1, sI p2, sI p3, sI p4, sI p5, sI nn, sI b0, sI b1, uN, uN, uN, uN, uN, uN, uN, uN, uN, uN, uN, uN, uN, uN, uN, uN, uN] [.int b2])) := by
    by_cases hq : p1 &&& (4 : Int32) = 0
    · refine ⟨0, Or.inl ⟨rfl, hq⟩, cc25.trans ?_⟩
      refine XS.ifYes X0.here hx rfl (pc0 := 36) rfl (dB at_36) rfl (i0_eq_t hq) (by decide) rfl ?_
      refine iconstV X0.here hx rfl 0 (dB at_43) (by decide) ?_
      exact Steps.refl _
    · refine ⟨1, Or.inr ⟨rfl, hq⟩, cc25.trans ?_⟩
      refine XS.ifNo X0.here hx rfl (dB at_36) rfl (i0_eq_f hq) ?_
      refine iconstV X0.here hx rfl 1 (dB at_39) (by decide) ?_
      refine XS.goto X0.here hx rfl (pc0 := 40) rfl (dB at_40) (by decide) rfl ?_
      exact Steps.refl _
  have cc26 : oQ X0 S0' 50 #[sI p1, sI p2, sI p3, sI p4, sI p5, sI nn, sI b0, sI b1, sI b2, uN, uN, uN, uN, uN, uN, uN, uN, uN, uN, uN, uN, uN, uN, uN, uN] [.int (p1 &&& (32 : Int32))] := Steps.trans c_b2 (by
    refine XS.istore X0.here hx rfl (dB at_44) rfl rfl ?_
    refine XS.iloadN X0.here hx rfl (dB at_46) rfl ?_
    refine bipushV X0.here hx rfl 32 (dB at_47) (by decide) ?_
    refine XS.iand X0.here hx rfl (dB at_49) rfl ?_
    exact Steps.refl _)
  obtain ⟨b3, hb3, c_b3⟩ : ∃ b3 : Int32, (b3 = 0 ∧ p1 &&& (32 : Int32) = 0 ∨ b3 = 1 ∧ ¬ p1 &&& (32 : Int32) = 0) ∧ Steps p.tables e below S0' (s₁.setTop (mkF m 58 #[sI p1, sI p2, sI p3, sI p4, sI p5, sI nn, sI b0, sI b1, sI b2, uN, uN, uN, uN, uN, uN, uN, uN, uN, uN, uN, uN, uN, uN, uN, uN] [.int b3])) := by
    by_cases hq : p1 &&& (32 : Int32) = 0
    · refine ⟨0, Or.inl ⟨rfl, hq⟩, cc26.trans ?_⟩
      refine XS.ifYes X0.here hx rfl (pc0 := 50) rfl (dB at_50) rfl (i0_eq_t hq) (by decide) rfl ?_
      refine iconstV X0.here hx rfl 0 (dB at_57) (by decide) ?_
      exact Steps.refl _
    · refine ⟨1, Or.inr ⟨rfl, hq⟩, cc26.trans ?_⟩
      refine XS.ifNo X0.here hx rfl (dB at_50) rfl (i0_eq_f hq) ?_
      refine iconstV X0.here hx rfl 1 (dB at_53) (by decide) ?_
      refine XS.goto X0.here hx rfl (pc0 := 54) rfl (dB at_54) (by decide) rfl ?_
      exact Steps.refl _
  have cc27 : oQ X0 S0' 64 #[sI p1, sI p2, sI p3, sI p4, sI p5, sI nn, sI b0, sI b1, sI b2, sI b3, uN, uN, uN, uN, uN, uN, uN, uN, uN, uN, uN, uN, uN, uN, uN] [.int (p1 &&& (64 : Int32))] := Steps.trans c_b3 (by
    refine XS.istore X0.here hx rfl (dB at_58) rfl rfl ?_
    refine XS.iloadN X0.here hx rfl (dB at_60) rfl ?_
    refine bipushV X0.here hx rfl 64 (dB at_61) (by decide) ?_
    refine XS.iand X0.here hx rfl (dB at_63) rfl ?_
    exact Steps.refl _)
  obtain ⟨b4, hb4, c_b4⟩ : ∃ b4 : Int32, (b4 = 0 ∧ p1 &&& (64 : Int32) = 0 ∨ b4 = 1 ∧ ¬ p1 &&& (64 : Int32) = 0) ∧ Steps p.tables e below S0' (s₁.setTop (mkF m 72 #[sI p1, sI p2, sI p3, sI p4, sI p5, sI nn, sI b0, sI b1, sI b2, sI b3, uN, uN, uN, uN, uN, uN, uN, uN, uN, uN, uN, uN, uN, uN, uN] [.int b4])) := by
    by_cases hq : p1 &&& (64 : Int32) = 0
    · refine ⟨0, Or.inl ⟨rfl, hq⟩, cc27.trans ?_⟩
      refine XS.ifYes X0.here hx rfl (pc0 := 64) rfl (dB at_64) rfl (i0_eq_t hq) (by decide) rfl ?_
      refine iconstV X0.here hx rfl 0 (dB at_71) (by decide) ?_
      exact Steps.refl _
    · refine ⟨1, Or.inr ⟨rfl, hq⟩, cc27.trans ?_⟩
      refine XS.ifNo X0.here hx rfl (dB at_64) rfl (i0_eq_f hq) ?_
      refine iconstV X0.here hx rfl 1 (dB at_67) (by decide) ?_
      refine XS.goto X0.here hx rfl (pc0 := 68) rfl (dB at_68) (by decide) rfl ?_
      exact Steps.refl _
  have zb3 : b3 = 0 ∨ b3 = 1 := hb3.imp And.left And.left
  have zb4 : b4 = 0 ∨ b4 = 1 := hb4.imp And.left And.left
  have cc28 : oQ X0 S0' 75 #[sI p1, sI p2, sI p3, sI p4, sI p5, sI nn, sI b0, sI b1, sI b2, sI b3, sI b4, uN, uN, uN, uN, uN, uN, uN, uN, uN, uN, uN, uN, uN, uN] [.int p2] := Steps.trans c_b4 (by
    refine XS.istore X0.here hx rfl (dB at_72) rfl rfl ?_
    refine XS.iloadN X0.here hx rfl (dB at_74) rfl ?_
    exact Steps.refl _)
  obtain ⟨_, _, ⟨T29, L29, k29, n29⟩, -, X29, hs29, gr29, ⟨Lc29, hQ29, l29, y29, z29, CH29⟩, st29⟩ := callSS X0 hx (y := yM86) hown (mvT hZ (W 0 rfl)) (mvT hZ (W 1 rfl)) (mvT hZ w_2) (mvT hZ w_3) (by decide) (backOfSH (W := 0) (own_text l Z a0 hw p2 z h0 n0 Z0 X00 O2 P5) hZ w_3 w_2 (by decide) (by decide) hEL C0.1) (g := (mkF m 75 #[sI p1, sI p2, sI p3, sI p4, sI p5, sI nn, sI b0, sI b1, sI b2, sI b3, sI b4, uN, uN, uN, uN, uN, uN, uN, uN, uN, uN, uN, uN, uN, uN] [.int p2])) rfl (by rw [hml]; rfl) (argsL := [(.int p2)]) (rest := []) (lenOf own_pd48 rfl) rfl (Nat.le_of_eq rfl) (dB at_75) (fun _ _ => ⟨rfl, e0, nB rfl, nB rfl⟩)
  dsimp only [Pt.U, Pt.locs, Pt.cells, Pt.slots] at X29 l29 y29 z29 st29 hQ29 hs29 gr29 CH29
  subst l29 y29 z29
  obtain ⟨x0, cs0, rfl, Nq29, Kq29, sq29, lc0, Hx0⟩ := hQ29
  obtain ⟨Xr29, hS29, hZ29, hown29⟩ := rebS hS0 (by rw [e0]; exact hk0) X29 hs29 gr29 hZ hown
  have hk29 : T29.heap.size ≤ T29.heap.size := Nat.le_refl _
  have C29 := C0.trans CH29
  have N29 := Fr.app N0 Nq29
  have b_x0 : h0.size ≤ x0 := sq29
  have gn_x0 := Nat.le_trans Z0 b_x0
  have s0_x0 := Nat.le_trans KK0.1 b_x0
  have KK1 := KK0.trans Kq29 all0
  have Zs1 := Nat.le_trans Z0 Kq29.1
  have e29 : T29.heap = T29.heap := rfl
  have cc31 : oQ Xr29 S0' 81 #[sI p1, sI p2, sI p3, sI p4, sI p5, sI nn, sI b0, sI b1, sI b2, sI b3, sI b4, sR x0, uN, uN, uN, uN, uN, uN, uN, uN, uN, uN, uN, uN, uN] [.int p3] := Steps.trans (Steps.trans cc28 st29) (by
    refine XS.astore Xr29.here hx rfl (dB at_78) rfl rfl rfl ?_
    refine XS.iloadN Xr29.here hx rfl (dB at_80) rfl ?_
    exact Steps.refl _)
  have fa30 := X00.keep Kq29 all0
  obtain ⟨_, _, ⟨T32, L32, k32, n32⟩, -, X32, hs32, gr32, ⟨Lc32, hQ32, l32, y32, z32, CH32⟩, st32⟩ := callSS Xr29 hx (y := yM86) hown29 (mvT hZ29 (W 0 rfl)) (mvT hZ29 (W 1 rfl)) (mvT hZ29 w_2) (mvT hZ29 w_3) (by decide) (backOfSH (W := 0) (own_text l Z a0 hw p3 z T29.heap n0 Zs1 fa30 O2 P5) hZ29 w_3 w_2 (by decide) (by decide) hEL C29.1) (g := (mkF m 81 #[sI p1, sI p2, sI p3, sI p4, sI p5, sI nn, sI b0, sI b1, sI b2, sI b3, sI b4, sR x0, uN, uN, uN, uN, uN, uN, uN, uN, uN, uN, uN, uN, uN] [.int p3])) rfl (by rw [hml]; rfl) (argsL := [(.int p3)]) (rest := []) (lenOf own_pd48 rfl) rfl (Nat.le_of_eq rfl) (dB at_81) (fun _ _ => ⟨rfl, e29, nB rfl, nB rfl⟩)
  dsimp only [Pt.U, Pt.locs, Pt.cells, Pt.slots] at X32 l32 y32 z32 st32 hQ32 hs32 gr32 CH32
  subst l32 y32 z32
  obtain ⟨x1, cs1, rfl, Nq32, Kq32, sq32, lc1, Hx1⟩ := hQ32
  obtain ⟨Xr32, hS32, hZ32, hown32⟩ := rebS hS29 (by rw [e29]; exact hk29) X32 hs32 gr32 hZ29 hown29
  have hk32 : T32.heap.size ≤ T32.heap.size := Nat.le_refl _
  have C32 := C29.trans CH32
  have N32 := Fr.app N29 Nq32
  have b_x1 : T29.heap.size ≤ x1 := sq32
  have gn_x1 := Nat.le_trans Zs1 b_x1
  have s0_x1 := Nat.le_trans KK1.1 b_x1
  have KK2 := KK1.trans Kq32 all0
  have Zs2 := Nat.le_trans Zs1 Kq32.1
  have e32 : T32.heap = T32.heap := rfl
  have cc34 : oQ Xr32 S0' 87 #[sI p1, sI p2, sI p3, sI p4, sI p5, sI nn, sI b0, sI b1, sI b2, sI b3, sI b4, sR x0, sR x1, uN, uN, uN, uN, uN, uN, uN, uN, uN, uN, uN, uN] [.int p4] := Steps.trans (Steps.trans cc31 st32) (by
    refine XS.astore Xr32.here hx rfl (dB at_84) rfl rfl rfl ?_
    refine XS.iloadN Xr32.here hx rfl (dB at_86) rfl ?_
    exact Steps.refl _)
  have fa33 := fa30.keep Kq32 all0
  obtain ⟨_, _, ⟨T35, L35, k35, n35⟩, -, X35, hs35, gr35, ⟨Lc35, hQ35, l35, y35, z35, CH35⟩, st35⟩ := callSS Xr32 hx (y := yM86) hown32 (mvT hZ32 (W 0 rfl)) (mvT hZ32 (W 1 rfl)) (mvT hZ32 w_2) (mvT hZ32 w_3) (by decide) (backOfSH (W := 0) (own_text l Z a0 hw p4 z T32.heap n0 Zs2 fa33 O2 P5) hZ32 w_3 w_2 (by decide) (by decide) hEL C32.1) (g := (mkF m 87 #[sI p1, sI p2, sI p3, sI p4, sI p5, sI nn, sI b0, sI b1, sI b2, sI b3, sI b4, sR x0, sR x1, uN, uN, uN, uN, uN, uN, uN, uN, uN, uN, uN, uN] [.int p4])) rfl (by rw [hml]; rfl) (argsL := [(.int p4)]) (rest := []) (lenOf own_pd48 rfl) rfl (Nat.le_of_eq rfl) (dB at_87) (fun _ _ => ⟨rfl, e32, nB rfl, nB rfl⟩)
  dsimp only [Pt.U, Pt.locs, Pt.cells, Pt.slots] at X35 l35 y35 z35 st35 hQ35 hs35 gr35 CH35
  subst l35 y35 z35
  obtain ⟨x2, cs2, rfl, Nq35, Kq35, sq35, lc2, Hx2⟩ := hQ35
  obtain ⟨Xr35, hS35, hZ35, hown35⟩ := rebS hS32 (by rw [e32]; exact hk32) X35 hs35 gr35 hZ32 hown32
  have hk35 : T35.heap.size ≤ T35.heap.size := Nat.le_refl _
  have C35 := C32.trans CH35
  have N35 := Fr.app N32 Nq35
  have b_x2 : T32.heap.size ≤ x2 := sq35
  have gn_x2 := Nat.le_trans Zs2 b_x2
  have s0_x2 := Nat.le_trans KK2.1 b_x2
  have KK3 := KK2.trans Kq35 all0
  have Zs3 := Nat.le_trans Zs2 Kq35.1
  have e35 : T35.heap = T35.heap := rfl
  have LM0 := own_LM.of ((Hx0.keep0 Kq32).keep0 Kq35) (Nat.le_refl _)
  have LM1 := own_LM.of (Hx1.keep0 Kq35) (Nat.le_refl _)
  have LM2 := own_LM.of Hx2 (Nat.le_refl _)
  have cc36 : oQ Xr35 S0' 90 #[sI p1, sI p2, sI p3, sI p4, sI p5, sI nn, sI b0, sI b1, sI b2, sI b3, sI b4, sR x0, sR x1, uN, uN, uN, uN, uN, uN, uN, uN, uN, uN, uN, uN] [.ref x2] := (Steps.trans cc34 st35)
  have cc37 : oQ Xr35 S0' 92 #[sI p1, sI p2, sI p3, sI p4, sI p5, sI nn, sI b0, sI b1, sI b2, sI b3, sI b4, sR x0, sR x1, sR x2, uN, uN, uN, uN, uN, uN, uN, uN, uN, uN, uN] [] := Steps.trans cc36 (by
    refine XS.astore Xr35.here hx rfl (dB at_90) rfl rfl rfl ?_
    exact Steps.refl _)
  obtain ⟨T38, h38, X38, e38, E38, A38, D38, -, st38⟩ := newO Xr35 hx hZ35 hown35 (W 26 rfl) (W 27 rfl) (W 28 rfl) e35 (g := (mkF m 92 #[sI p1, sI p2, sI p3, sI p4, sI p5, sI nn, sI b0, sI b1, sI b2, sI b3, sI b4, sR x0, sR x1, sR x2, uN, uN, uN, uN, uN, uN, uN, uN, uN, uN, uN] [])) rfl (dB at_92) (by decide) (by decide)
  obtain ⟨sq, g_sq⟩ : ∃ z, z = T35.heap.size := ⟨_, rfl⟩
  rw [← g_sq] at A38 D38 st38
  have K38 := (Keep.refl T35.heap ([] : List Addr)).ext E38
  have b_sq : T35.heap.size ≤ sq := (Nat.le_of_eq g_sq.symm)
  have gn_sq := Nat.le_trans Zs3 b_sq
  have s0_sq := Nat.le_trans KK3.1 b_sq
  have ml_sq := Nat.le_trans (Nat.le_refl _) b_sq
  have D39 := CHr.ext E38 C35.1
  have C40 := C35.trans D39
  have sf_sq : Safe Z EL T35.vm h38 sq := Safe.ext E38 C35.1 (Safe.new b_sq)
  have KK4 := KK3.trans K38 all0
  have Zs4 := Nat.le_trans Zs3 K38.1
  have Ms4 := Nat.le_trans (Nat.le_refl _) K38.1
  have F_name_sq : Fld Z h38 sq "com/example/ontology_over_tables/ontologyovertables/mapping/SqlIdentifier" "name" "Ljava/lang/String;" .null := D38 (Or.inr (W 54 rfl)) (ty := (.object "java/lang/String")) (by decide)
  have F_delimited_sq : Fld Z h38 sq "com/example/ontology_over_tables/ontologyovertables/mapping/SqlIdentifier" "delimited" "Z" (.int (0 : Int32)) := D38 (Or.inr (W 56 rfl)) (ty := .boolean) (by decide)
  have cc42 : oQ X38 S0' 103 #[sI p1, sI p2, sI p3, sI p4, sI p5, sI nn, sI b0, sI b1, sI b2, sI b3, sI b4, sR x0, sR x1, sR x2, uN, uN, uN, uN, uN, uN, uN, uN, uN, uN, uN] [.int ((p5 &&& (255 : Int32)).toUInt32.toUInt16.toUInt32.toInt32), .ref sq, .ref sq] := Steps.trans (cc37.trans (st38 _ (Steps.refl _))) (by
    refine XS.dup X38.here hx rfl (dB at_95) rfl rfl ?_
    refine XS.iload X38.here hx rfl (dB at_96) rfl ?_
    refine sipushV X38.here hx rfl 255 (dB at_98) (by decide) ?_
    refine XS.iand X38.here hx rfl (dB at_101) rfl ?_
    refine XT.i2c X38.here hx rfl (dB at_102) rfl ?_
    exact Steps.refl _)
  have fa41 := (fa33.keep Kq35 all0).keep K38 all0
  obtain ⟨_, T43, L43, X43, ⟨x3, rfl, Nq43, Kq43, sq43, Hx3⟩, st43⟩ := oCT (y := yM8) X38 cc42 hx hZ35 hown35 hml (dB at_103) e38 (W 29 rfl) (W 30 rfl) (W 6 rfl) (W 31 rfl) (by decide) [.int ((p5 &&& (255 : Int32)).toUInt32.toUInt16.toUInt32.toInt32)] [.ref sq, .ref sq] (lenOf own_pd46 rfl) (bO (own_vo l Z a0 hw ((p5 &&& (255 : Int32)).toUInt32.toUInt16.toUInt32.toInt32) z h38 n0 Zs4 fa41 O2 P5 (own_and255 _)) hZ35 (W 31 rfl) (W 6 rfl))
  have N43 := Fr.app N35 Nq43
  have b_x3 : h38.size ≤ x3 := sq43
  have gn_x3 := Nat.le_trans Zs4 b_x3
  have s0_x3 := Nat.le_trans KK4.1 b_x3
  have ml_x3 := Nat.le_trans Ms4 b_x3
  have ne_sq_x3 := oN A38.lt b_x3
  have D44 := CHr.keep Kq43 sf0 C40.1
  have C45 := C40.trans D44
  have sf_x3 := Safe.keep Kq43 sf0 C40.1 (Safe.new b_x3)
  have KK5 := KK4.trans Kq43 all0
  have Zs5 := Nat.le_trans Zs4 Kq43.1
  have Ms5 := Nat.le_trans Ms4 Kq43.1
  have e43 : T43.heap = T43.heap := rfl
  have cc46 : oQ X43 S0' 113 #[sI p1, sI p2, sI p3, sI p4, sI p5, sI nn, sI b0, sI b1, sI b2, sI b3, sI b4, sR x0, sR x1, sR x2, uN, uN, uN, uN, uN, uN, uN, uN, uN, uN, uN] [.int ((p5 >>> ((8 : Int32) &&& 31)) &&& (1 : Int32)), .ref x3, .ref sq, .ref sq] := Steps.trans st43 (by
    refine XS.iload X43.here hx rfl (dB at_106) rfl ?_
    refine bipushV X43.here hx rfl 8 (dB at_108) (by decide) ?_
    refine XT.ishr X43.here hx rfl (dB at_110) rfl ?_
    refine iconstV X43.here hx rfl 1 (dB at_111) (by decide) ?_
    refine XS.iand X43.here hx rfl (dB at_112) rfl ?_
    exact Steps.refl _)
  obtain ⟨b5, hb5, c_b5⟩ : ∃ b5 : Int32, (b5 = 0 ∧ (p5 >>> ((8 : Int32) &&& 31)) &&& (1 : Int32) = 0 ∨ b5 = 1 ∧ ¬ (p5 >>> ((8 : Int32) &&& 31)) &&& (1 : Int32) = 0) ∧ Steps p.tables e below S0' (T43.setTop (mkF m 121 #[sI p1, sI p2, sI p3, sI p4, sI p5, sI nn, sI b0, sI b1, sI b2, sI b3, sI b4, sR x0, sR x1, sR x2, uN, uN, uN, uN, uN, uN, uN, uN, uN, uN, uN] [.int b5, .ref x3, .ref sq, .ref sq])) := by
    by_cases hq : (p5 >>> ((8 : Int32) &&& 31)) &&& (1 : Int32) = 0
    · refine ⟨0, Or.inl ⟨rfl, hq⟩, cc46.trans ?_⟩
      refine XS.ifYes X43.here hx rfl (pc0 := 113) rfl (dB at_113) rfl (i0_eq_t hq) (by decide) rfl ?_
      refine iconstV X43.here hx rfl 0 (dB at_120) (by decide) ?_
      exact Steps.refl _
    · refine ⟨1, Or.inr ⟨rfl, hq⟩, cc46.trans ?_⟩
      refine XS.ifNo X43.here hx rfl (dB at_113) rfl (i0_eq_f hq) ?_
      refine iconstV X43.here hx rfl 1 (dB at_116) (by decide) ?_
      refine XS.goto X43.here hx rfl (pc0 := 117) rfl (dB at_117) (by decide) rfl ?_
      exact Steps.refl _
  have zb5 : b5 = 0 ∨ b5 = 1 := hb5.imp And.left And.left
  have fa47 := A38.keep Kq43
  have fa48 := F_name_sq.keep Kq43 nin0
  have fa49 := F_delimited_sq.keep Kq43 nin0
  obtain ⟨_, T50, L50, X50, ⟨rfl, Nq50, Kq50⟩, st50⟩ := oCN (y := yM9) X43 c_b5 hx hZ35 hown35 hml (dB at_121) e43 sq rfl (W 44 rfl) (W 45 rfl) (W 46 rfl) (by decide) [.ref x3, .int b5] [.ref sq] (lenOf own_pd49 rfl) (bO (own_sqi l Z a0 hw sq x3 b5 T43.heap n0 Zs5 fa47 fa48 fa49 gn_sq zb5) hZ35 (W 46 rfl) (W 28 rfl))
  have N50 := Fr.app N43 Nq50
  have sf51 := D44.safe A38.lt sf_sq
  have lt52 := Nat.lt_of_lt_of_le A38.lt Kq43.1
  have D53 := CHr.keep Kq50 (sfS sf51 sf0) C45.1
  have C54 := C45.trans D53
  have KK6 := KK5.trans Kq50 (allS (Or.inr s0_sq) all0)
  have Zs6 := Nat.le_trans Zs5 Kq50.1
  have Ms6 := Nat.le_trans Ms5 Kq50.1
  have e50 : T50.heap = T50.heap := rfl
  have cc55 : oQ X50 S0' 126 #[sI p1, sI p2, sI p3, sI p4, sI p5, sI nn, sI b0, sI b1, sI b2, sI b3, sI b4, sR x0, sR x1, sR x2, sR sq, uN, uN, uN, uN, uN, uN, uN, uN, uN, uN] [] := Steps.trans st50 (by
    refine XS.astore X50.here hx rfl (dB at_124) rfl rfl rfl ?_
    exact Steps.refl _)
  obtain ⟨T56, h56, X56, e56, E56, A56, D56, -, st56⟩ := newO X50 hx hZ35 hown35 (W 57 rfl) (W 58 rfl) (W 59 rfl) e50 (g := (mkF m 126 #[sI p1, sI p2, sI p3, sI p4, sI p5, sI nn, sI b0, sI b1, sI b2, sI b3, sI b4, sR x0, sR x1, sR x2, sR sq, uN, uN, uN, uN, uN, uN, uN, uN, uN, uN] [])) rfl (dB at_126) (by decide) (by decide)
  obtain ⟨co, g_co⟩ : ∃ z, z = T50.heap.size := ⟨_, rfl⟩
  rw [← g_co] at A56 D56 st56
  have K56 := (Keep.refl T50.heap ([] : List Addr)).ext E56
  have b_co : T50.heap.size ≤ co := (Nat.le_of_eq g_co.symm)
  have gn_co := Nat.le_trans Zs6 b_co
  have s0_co := Nat.le_trans KK6.1 b_co
  have ml_co := Nat.le_trans Ms6 b_co
  have D57 := CHr.ext E56 C54.1
  have C58 := C54.trans D57
  have sf_co : Safe Z EL T35.vm h56 co := Safe.ext E56 C54.1 (Safe.new b_co)
  have KK7 := KK6.trans K56 all0
  have Zs7 := Nat.le_trans Zs6 K56.1
  have Ms7 := Nat.le_trans Ms6 K56.1
  have F_name_co : Fld Z h56 co "com/example/ontology_over_tables/ontologyovertables/mapping/TriplesMap$TermMap$Column" "name" "Lcom/example/ontology_over_tables/ontologyovertables/mapping/SqlIdentifier;" .null := D56 (Or.inr (W 70 rfl)) (ty := (.object "com/example/ontology_over_tables/ontologyovertables/mapping/SqlIdentifier")) (by decide)
  have cc59 : oQ X56 S0' 132 #[sI p1, sI p2, sI p3, sI p4, sI p5, sI nn, sI b0, sI b1, sI b2, sI b3, sI b4, sR x0, sR x1, sR x2, sR sq, uN, uN, uN, uN, uN, uN, uN, uN, uN, uN] [.ref sq, .ref co, .ref co] := Steps.trans (cc55.trans (st56 _ (Steps.refl _))) (by
    refine XS.dup X56.here hx rfl (dB at_129) rfl rfl ?_
    refine XS.aload X56.here hx rfl (dB at_130) rfl rfl ?_
    exact Steps.refl _)
  obtain ⟨_, _, ⟨T60, L60, k60, n60⟩, -, X60, hs60, gr60, ⟨Lc60, hQ60, l60, y60, z60, CH60⟩, st60⟩ := X56.specialBackS hx (y := yM10) rfl hown35 (mvT hZ35 (W 60 rfl)) (mvT hZ35 (W 61 rfl)) (mvT hZ35 (W 62 rfl)) (by decide) (backOfSH (W := 1) (own_coi l Z a0 hw co sq h56 n0 Zs7 A56 F_name_co gn_co) hZ35 (W 62 rfl) (W 59 rfl) (by decide) (by decide) hEL C58.1) (g := (mkF m 132 #[sI p1, sI p2, sI p3, sI p4, sI p5, sI nn, sI b0, sI b1, sI b2, sI b3, sI b4, sR x0, sR x1, sR x2, sR sq, uN, uN, uN, uN, uN, uN, uN, uN, uN, uN] [.ref sq, .ref co, .ref co])) rfl (by rw [hml]; rfl) (Steps.refl _) (a := co) (argsL := [(.ref sq)]) (rest := [(.ref co)]) (lenOf own_pd50 rfl) rfl (Nat.le_of_eq rfl) (dB at_132) (fun _ _ => ⟨rfl, e56, nB rfl, nB rfl⟩)
  dsimp only [Pt.U, Pt.locs, Pt.cells, Pt.slots] at X60 l60 y60 z60 st60 hQ60 hs60 gr60 CH60
  subst l60 y60 z60
  obtain ⟨rfl, Nq60, Kq60, Fq60⟩ := hQ60
  obtain ⟨Xr60, hS60, hZ60, hown60⟩ := rebS hS35 (by rw [e56]; exact (Nat.le_trans (Nat.le_trans (Nat.le_trans (Nat.le_trans hk35 K38.1) Kq43.1) Kq50.1) K56.1)) X60 hs60 gr60 hZ35 hown35
  have hk60 : T60.heap.size ≤ T60.heap.size := Nat.le_refl _
  have C60 := C58.trans CH60
  have N60 := Fr.app N50 Nq60
  have KK8 := KK7.trans Kq60 (allS (Or.inr s0_co) all0)
  have Zs8 := Nat.le_trans Zs7 Kq60.1
  have Ms8 := Nat.le_trans Ms7 Kq60.1
  have e60 : T60.heap = T60.heap := rfl
  have cc61 : oQ Xr60 S0' 137 #[sI p1, sI p2, sI p3, sI p4, sI p5, sI nn, sI b0, sI b1, sI b2, sI b3, sI b4, sR x0, sR x1, sR x2, sR sq, sR co, uN, uN, uN, uN, uN, uN, uN, uN, uN] [] := Steps.trans (Steps.trans cc59 st60) (by
    refine XS.astore Xr60.here hx rfl (dB at_135) rfl rfl rfl ?_
    exact Steps.refl _)
  obtain ⟨T62, h62, X62, e62, E62, A62, D62, -, st62⟩ := newO Xr60 hx hZ60 hown60 (W 71 rfl) (W 72 rfl) w_73 e60 (g := (mkF m 137 #[sI p1, sI p2, sI p3, sI p4, sI p5, sI nn, sI b0, sI b1, sI b2, sI b3, sI b4, sR x0, sR x1, sR x2, sR sq, sR co, uN, uN, uN, uN, uN, uN, uN, uN, uN] [])) rfl (dB at_137) (by decide) (by decide)
  obtain ⟨q0, g_q0⟩ : ∃ z, z = T60.heap.size := ⟨_, rfl⟩
  rw [← g_q0] at A62 D62 st62
  have K62 := (Keep.refl T60.heap ([] : List Addr)).ext E62
  have b_q0 : T60.heap.size ≤ q0 := (Nat.le_of_eq g_q0.symm)
  have gn_q0 := Nat.le_trans Zs8 b_q0
  have s0_q0 := Nat.le_trans KK8.1 b_q0
  have ml_q0 := Nat.le_trans Ms8 b_q0
  have fa63 := A56.keep Kq60
  have ne_co_q0 := oN fa63.lt b_q0
  have D64 := CHr.ext E62 C60.1
  have C65 := C60.trans D64
  have sf_q0 : Safe Z EL T60.vm h62 q0 := Safe.ext E62 C60.1 (Safe.new b_q0)
  have KK9 := KK8.trans K62 all0
  have Zs9 := Nat.le_trans Zs8 K62.1
  have Ms9 := Nat.le_trans Ms8 K62.1
  have F_text_q0 : zF18 Z h62 q0 .null := D62 (Or.inr (W 81 rfl)) (ty := (.object "java/lang/String")) (by decide)
  have cc66 : oQ X62 S0' 143 #[sI p1, sI p2, sI p3, sI p4, sI p5, sI nn, sI b0, sI b1, sI b2, sI b3, sI b4, sR x0, sR x1, sR x2, sR sq, sR co, uN, uN, uN, uN, uN, uN, uN, uN, uN] [.ref x0, .ref q0, .ref q0] := Steps.trans (cc61.trans (st62 _ (Steps.refl _))) (by
    refine XS.dup X62.here hx rfl (dB at_140) rfl rfl ?_
    refine XS.aload X62.here hx rfl (dB at_141) rfl rfl ?_
    exact Steps.refl _)
  obtain ⟨_, _, ⟨T67, L67, k67, n67⟩, -, X67, hs67, gr67, ⟨Lc67, hQ67, l67, y67, z67, CH67⟩, st67⟩ := X62.specialBackS hx (y := yM11) rfl hown60 (mvT hZ60 (W 74 rfl)) (mvT hZ60 (W 75 rfl)) (mvT hZ60 w_76) (by decide) (backOfSH (W := 1) (own_txi l Z a0 hw q0 x0 h62 n0 Zs9 A62 F_text_q0 gn_q0) hZ60 w_76 w_73 (by decide) (by decide) hEL C65.1) (g := (mkF m 143 #[sI p1, sI p2, sI p3, sI p4, sI p5, sI nn, sI b0, sI b1, sI b2, sI b3, sI b4, sR x0, sR x1, sR x2, sR sq, sR co, uN, uN, uN, uN, uN, uN, uN, uN, uN] [.ref x0, .ref q0, .ref q0])) rfl (by rw [hml]; rfl) (Steps.refl _) (a := q0) (argsL := [(.ref x0)]) (rest := [(.ref q0)]) (lenOf own_pd28 rfl) rfl (Nat.le_of_eq rfl) (dB at_143) (fun _ _ => ⟨rfl, e62, nB rfl, nB rfl⟩)
  dsimp only [Pt.U, Pt.locs, Pt.cells, Pt.slots] at X67 l67 y67 z67 st67 hQ67 hs67 gr67 CH67
  subst l67 y67 z67
  obtain ⟨rfl, Nq67, Kq67, Fq67⟩ := hQ67
  obtain ⟨Xr67, hS67, hZ67, hown67⟩ := rebS hS60 (by rw [e62]; exact (Nat.le_trans hk60 K62.1)) X67 hs67 gr67 hZ60 hown60
  have hk67 : T67.heap.size ≤ T67.heap.size := Nat.le_refl _
  have C67 := C65.trans CH67
  have N67 := Fr.app N60 Nq67
  have KK10 := KK9.trans Kq67 (allS (Or.inr s0_q0) all0)
  have Zs10 := Nat.le_trans Zs9 Kq67.1
  have Ms10 := Nat.le_trans Ms9 Kq67.1
  have e67 : T67.heap = T67.heap := rfl
  have cc68 : oQ Xr67 S0' 148 #[sI p1, sI p2, sI p3, sI p4, sI p5, sI nn, sI b0, sI b1, sI b2, sI b3, sI b4, sR x0, sR x1, sR x2, sR sq, sR co, sR q0, uN, uN, uN, uN, uN, uN, uN, uN] [] := Steps.trans (Steps.trans cc66 st67) (by
    refine XS.astore Xr67.here hx rfl (dB at_146) rfl rfl rfl ?_
    exact Steps.refl _)
  obtain ⟨T69, h69, X69, e69, E69, A69, D69, -, st69⟩ := newO Xr67 hx hZ67 hown67 (W 71 rfl) (W 72 rfl) w_73 e67 (g := (mkF m 148 #[sI p1, sI p2, sI p3, sI p4, sI p5, sI nn, sI b0, sI b1, sI b2, sI b3, sI b4, sR x0, sR x1, sR x2, sR sq, sR co, sR q0, uN, uN, uN, uN, uN, uN, uN, uN] [])) rfl (dB at_148) (by decide) (by decide)
  obtain ⟨q1, g_q1⟩ : ∃ z, z = T67.heap.size := ⟨_, rfl⟩
  rw [← g_q1] at A69 D69 st69
  have K69 := (Keep.refl T67.heap ([] : List Addr)).ext E69
  have b_q1 : T67.heap.size ≤ q1 := (Nat.le_of_eq g_q1.symm)
  have gn_q1 := Nat.le_trans Zs10 b_q1
  have s0_q1 := Nat.le_trans KK10.1 b_q1
  have ml_q1 := Nat.le_trans Ms10 b_q1
  have fa70 := (fa63.keep K62).keep Kq67
  have ne_co_q1 := oN fa70.lt b_q1
  have fa71 := A62.keep Kq67
  have ne_q0_q1 := oN fa71.lt b_q1
  have D72 := CHr.ext E69 C67.1
  have C73 := C67.trans D72
  have sf_q1 : Safe Z EL T67.vm h69 q1 := Safe.ext E69 C67.1 (Safe.new b_q1)
  have KK11 := KK10.trans K69 all0
  have Zs11 := Nat.le_trans Zs10 K69.1
  have Ms11 := Nat.le_trans Ms10 K69.1
  have F_text_q1 : zF18 Z h69 q1 .null := D69 (Or.inr (W 81 rfl)) (ty := (.object "java/lang/String")) (by decide)
  have cc74 : oQ X69 S0' 154 #[sI p1, sI p2, sI p3, sI p4, sI p5, sI nn, sI b0, sI b1, sI b2, sI b3, sI b4, sR x0, sR x1, sR x2, sR sq, sR co, sR q0, uN, uN, uN, uN, uN, uN, uN, uN] [.ref x1, .ref q1, .ref q1] := Steps.trans (cc68.trans (st69 _ (Steps.refl _))) (by
    refine XS.dup X69.here hx rfl (dB at_151) rfl rfl ?_
    refine XS.aload X69.here hx rfl (dB at_152) rfl rfl ?_
    exact Steps.refl _)
  obtain ⟨_, _, ⟨T75, L75, k75, n75⟩, -, X75, hs75, gr75, ⟨Lc75, hQ75, l75, y75, z75, CH75⟩, st75⟩ := X69.specialBackS hx (y := yM11) rfl hown67 (mvT hZ67 (W 74 rfl)) (mvT hZ67 (W 75 rfl)) (mvT hZ67 w_76) (by decide) (backOfSH (W := 1) (own_txi l Z a0 hw q1 x1 h69 n0 Zs11 A69 F_text_q1 gn_q1) hZ67 w_76 w_73 (by decide) (by decide) hEL C73.1) (g := (mkF m 154 #[sI p1, sI p2, sI p3, sI p4, sI p5, sI nn, sI b0, sI b1, sI b2, sI b3, sI b4, sR x0, sR x1, sR x2, sR sq, sR co, sR q0, uN, uN, uN, uN, uN, uN, uN, uN] [.ref x1, .ref q1, .ref q1])) rfl (by rw [hml]; rfl) (Steps.refl _) (a := q1) (argsL := [(.ref x1)]) (rest := [(.ref q1)]) (lenOf own_pd28 rfl) rfl (Nat.le_of_eq rfl) (dB at_154) (fun _ _ => ⟨rfl, e69, nB rfl, nB rfl⟩)
  dsimp only [Pt.U, Pt.locs, Pt.cells, Pt.slots] at X75 l75 y75 z75 st75 hQ75 hs75 gr75 CH75
  subst l75 y75 z75
  obtain ⟨rfl, Nq75, Kq75, Fq75⟩ := hQ75
  obtain ⟨Xr75, hS75, hZ75, hown75⟩ := rebS hS67 (by rw [e69]; exact (Nat.le_trans hk67 K69.1)) X75 hs75 gr75 hZ67 hown67
  have hk75 : T75.heap.size ≤ T75.heap.size := Nat.le_refl _
  have C75 := C73.trans CH75
  have N75 := Fr.app N67 Nq75
  have KK12 := KK11.trans Kq75 (allS (Or.inr s0_q1) all0)
  have Zs12 := Nat.le_trans Zs11 Kq75.1
  have Ms12 := Nat.le_trans Ms11 Kq75.1
  have e75 : T75.heap = T75.heap := rfl
  have cc76 : oQ Xr75 S0' 159 #[sI p1, sI p2, sI p3, sI p4, sI p5, sI nn, sI b0, sI b1, sI b2, sI b3, sI b4, sR x0, sR x1, sR x2, sR sq, sR co, sR q0, sR q1, uN, uN, uN, uN, uN, uN, uN] [] := Steps.trans (Steps.trans cc74 st75) (by
    refine XS.astore Xr75.here hx rfl (dB at_157) rfl rfl rfl ?_
    exact Steps.refl _)
  obtain ⟨T77, h77, X77, e77, E77, A77, D77, -, st77⟩ := newO Xr75 hx hZ75 hown75 (W 71 rfl) (W 72 rfl) w_73 e75 (g := (mkF m 159 #[sI p1, sI p2, sI p3, sI p4, sI p5, sI nn, sI b0, sI b1, sI b2, sI b3, sI b4, sR x0, sR x1, sR x2, sR sq, sR co, sR q0, sR q1, uN, uN, uN, uN, uN, uN, uN] [])) rfl (dB at_159) (by decide) (by decide)
  obtain ⟨q2, g_q2⟩ : ∃ z, z = T75.heap.size := ⟨_, rfl⟩
  rw [← g_q2] at A77 D77 st77
  have K77 := (Keep.refl T75.heap ([] : List Addr)).ext E77
  have b_q2 : T75.heap.size ≤ q2 := (Nat.le_of_eq g_q2.symm)
  have gn_q2 := Nat.le_trans Zs12 b_q2
  have s0_q2 := Nat.le_trans KK12.1 b_q2
  have ml_q2 := Nat.le_trans Ms12 b_q2
  have fa78 := (fa70.keep K69).keep Kq75
  have ne_co_q2 := oN fa78.lt b_q2
  have fa79 := (fa71.keep K69).keep Kq75
  have ne_q0_q2 := oN fa79.lt b_q2
  have fa80 := A69.keep Kq75
  have ne_q1_q2 := oN fa80.lt b_q2
  have D81 := CHr.ext E77 C75.1
  have C82 := C75.trans D81
  have sf_q2 : Safe Z EL T75.vm h77 q2 := Safe.ext E77 C75.1 (Safe.new b_q2)
  have KK13 := KK12.trans K77 all0
  have Zs13 := Nat.le_trans Zs12 K77.1
  have Ms13 := Nat.le_trans Ms12 K77.1
  have F_text_q2 : zF18 Z h77 q2 .null := D77 (Or.inr (W 81 rfl)) (ty := (.object "java/lang/String")) (by decide)
  have cc83 : oQ X77 S0' 165 #[sI p1, sI p2, sI p3, sI p4, sI p5, sI nn, sI b0, sI b1, sI b2, sI b3, sI b4, sR x0, sR x1, sR x2, sR sq, sR co, sR q0, sR q1, uN, uN, uN, uN, uN, uN, uN] [.ref x2, .ref q2, .ref q2] := Steps.trans (cc76.trans (st77 _ (Steps.refl _))) (by
    refine XS.dup X77.here hx rfl (dB at_162) rfl rfl ?_
    refine XS.aload X77.here hx rfl (dB at_163) rfl rfl ?_
    exact Steps.refl _)
  obtain ⟨_, _, ⟨T84, L84, k84, n84⟩, -, X84, hs84, gr84, ⟨Lc84, hQ84, l84, y84, z84, CH84⟩, st84⟩ := X77.specialBackS hx (y := yM11) rfl hown75 (mvT hZ75 (W 74 rfl)) (mvT hZ75 (W 75 rfl)) (mvT hZ75 w_76) (by decide) (backOfSH (W := 1) (own_txi l Z a0 hw q2 x2 h77 n0 Zs13 A77 F_text_q2 gn_q2) hZ75 w_76 w_73 (by decide) (by decide) hEL C82.1) (g := (mkF m 165 #[sI p1, sI p2, sI p3, sI p4, sI p5, sI nn, sI b0, sI b1, sI b2, sI b3, sI b4, sR x0, sR x1, sR x2, sR sq, sR co, sR q0, sR q1, uN, uN, uN, uN, uN, uN, uN] [.ref x2, .ref q2, .ref q2])) rfl (by rw [hml]; rfl) (Steps.refl _) (a := q2) (argsL := [(.ref x2)]) (rest := [(.ref q2)]) (lenOf own_pd28 rfl) rfl (Nat.le_of_eq rfl) (dB at_165) (fun _ _ => ⟨rfl, e77, nB rfl, nB rfl⟩)
  dsimp only [Pt.U, Pt.locs, Pt.cells, Pt.slots] at X84 l84 y84 z84 st84 hQ84 hs84 gr84 CH84
  subst l84 y84 z84
  obtain ⟨rfl, Nq84, Kq84, Fq84⟩ := hQ84
  obtain ⟨Xr84, hS84, hZ84, hown84⟩ := rebS hS75 (by rw [e77]; exact (Nat.le_trans hk75 K77.1)) X84 hs84 gr84 hZ75 hown75
  have hk84 : T84.heap.size ≤ T84.heap.size := Nat.le_refl _
  have C84 := C82.trans CH84
  have N84 := Fr.app N75 Nq84
  have KK14 := KK13.trans Kq84 (allS (Or.inr s0_q2) all0)
  have Zs14 := Nat.le_trans Zs13 Kq84.1
  have Ms14 := Nat.le_trans Ms13 Kq84.1
  have e84 : T84.heap = T84.heap := rfl
  have cc85 : oQ Xr84 S0' 170 #[sI p1, sI p2, sI p3, sI p4, sI p5, sI nn, sI b0, sI b1, sI b2, sI b3, sI b4, sR x0, sR x1, sR x2, sR sq, sR co, sR q0, sR q1, sR q2, uN, uN, uN, uN, uN, uN] [] := Steps.trans (Steps.trans cc83 st84) (by
    refine XS.astore Xr84.here hx rfl (dB at_168) rfl rfl rfl ?_
    exact Steps.refl _)
  have fa86 := ((((((((((LM0.up K38 all0).up Kq43 all0).up Kq50 (allS ml_sq all0)).up K56 all0).up Kq60 (allS ml_co all0)).up K62 all0).up Kq67 (allS ml_q0 all0)).up K69 all0).up Kq75 (allS ml_q1 all0)).up K77 all0).up Kq84 (allS ml_q2 all0)
  have LN0 := fa86.mono Ms14
  have fa87 := ((((((((((LM1.up K38 all0).up Kq43 all0).up Kq50 (allS ml_sq all0)).up K56 all0).up Kq60 (allS ml_co all0)).up K62 all0).up Kq67 (allS ml_q0 all0)).up K69 all0).up Kq75 (allS ml_q1 all0)).up K77 all0).up Kq84 (allS ml_q2 all0)
  have LN1 := fa87.mono Ms14
  have fa88 := ((((((((((LM2.up K38 all0).up Kq43 all0).up Kq50 (allS ml_sq all0)).up K56 all0).up Kq60 (allS ml_co all0)).up K62 all0).up Kq67 (allS ml_q0 all0)).up K69 all0).up Kq75 (allS ml_q1 all0)).up K77 all0).up Kq84 (allS ml_q2 all0)
  have LN2 := fa88.mono Ms14
  have fa89 := (fa78.keep K77).keep Kq84
  have PC : own_P Z T84.heap T84.heap.size co none := ⟨fa89.lt, Or.inl ⟨rfl, fa89⟩⟩
  have fa90 := (fa79.keep K77).keep Kq84
  have fa91 := (((Fq67.keep K69 nin0).keep Kq75 (ninS ne_q0_q1 nin0)).keep K77 nin0).keep Kq84 (ninS ne_q0_q2 nin0)
  have PQ0 : own_P Z T84.heap T84.heap.size q0 (some cs0) := ⟨fa90.lt, Or.inr ⟨cs0, x0, rfl, lc0, fa90, fa91, LN0⟩⟩
  have fa92 := (fa80.keep K77).keep Kq84
  have fa93 := (Fq75.keep K77 nin0).keep Kq84 (ninS ne_q1_q2 nin0)
  have PQ1 : own_P Z T84.heap T84.heap.size q1 (some cs1) := ⟨fa92.lt, Or.inr ⟨cs1, x1, rfl, lc1, fa92, fa93, LN1⟩⟩
  have fa94 := A77.keep Kq84
  have PQ2 : own_P Z T84.heap T84.heap.size q2 (some cs2) := ⟨fa94.lt, Or.inr ⟨cs2, x2, rfl, lc2, fa94, Fq84, LN2⟩⟩
  obtain ⟨m4, em4⟩ : ∃ y, y = T84.heap.size := ⟨_, rfl⟩
  rw [← em4] at LN0 LN1 LN2 PC PQ0 PQ1 PQ2
  obtain ⟨T95, h95, X95, e95, E95, A95, D95, -, st95⟩ := newO Xr84 hx hZ84 hown84 (W 82 rfl) (W 83 rfl) w_84 e84 (g := (mkF m 170 #[sI p1, sI p2, sI p3, sI p4, sI p5, sI nn, sI b0, sI b1, sI b2, sI b3, sI b4, sR x0, sR x1, sR x2, sR sq, sR co, sR q0, sR q1, sR q2, uN, uN, uN, uN, uN, uN] [])) rfl (dB at_170) (by decide) (by decide)
  obtain ⟨a, g_a⟩ : ∃ z, z = T84.heap.size := ⟨_, rfl⟩
  rw [← g_a] at A95 D95 st95
  have K95 := (Keep.refl T84.heap ([] : List Addr)).ext E95
  have b_a : T84.heap.size ≤ a := (Nat.le_of_eq g_a.symm)
  have gn_a := Nat.le_trans Zs14 b_a
  have s0_a := Nat.le_trans KK14.1 b_a
  have ml_a := Nat.le_trans (Nat.le_of_eq em4) b_a
  have D96 := CHr.ext E95 C84.1
  have C97 := C84.trans D96
  have sf_a : Safe Z EL T84.vm h95 a := Safe.ext E95 C84.1 (Safe.new b_a)
  have KK15 := KK14.trans K95 all0
  have Zs15 := Nat.le_trans Zs14 K95.1
  have Ms15 := Nat.le_trans (Nat.le_of_eq em4) K95.1
  have F_modCount_a : zF2 Z h95 a (.int (0 : Int32)) := D95 (Or.inl (W 102 rfl)) (ty := .int) (by decide)
  have F_size_a : zF0 Z h95 a (.int (0 : Int32)) := D95 (Or.inl (W 137 rfl)) (ty := .int) (by decide)
  have F_elementData_a : zF1 Z h95 a .null := D95 (Or.inl (W 105 rfl)) (ty := (.array (.object "java/lang/Object"))) (by decide)
  have cc99 : oQ X95 S0' 174 #[sI p1, sI p2, sI p3, sI p4, sI p5, sI nn, sI b0, sI b1, sI b2, sI b3, sI b4, sR x0, sR x1, sR x2, sR sq, sR co, sR q0, sR q1, sR q2, uN, uN, uN, uN, uN, uN] [.ref a, .ref a] := Steps.trans (cc85.trans (st95 _ (Steps.refl _))) (by
    refine XS.dup X95.here hx rfl (dB at_173) rfl rfl ?_
    exact Steps.refl _)
  have fa98 := ((((((((((fa41.keep Kq43 all0).keep Kq50 (allS gn_sq all0)).keep K56 all0).keep Kq60 (allS gn_co all0)).keep K62 all0).keep Kq67 (allS gn_q0 all0)).keep K69 all0).keep Kq75 (allS gn_q1 all0)).keep K77 all0).keep Kq84 (allS gn_q2 all0)).keep K95 all0
  obtain ⟨_, T100, L100, X100, ⟨rfl, Nq100, Kq100, G1100, G2100, G3100⟩, st100⟩ := oCN (y := yM15) X95 cc99 hx hZ84 hown84 hml (dB at_174) e95 a rfl (W 85 rfl) (W 86 rfl) (W 87 rfl) (by decide) [] [.ref a] (lenOf own_pd4 rfl) (bO (own_ali l Z a0 hw a dd h95 n0 Zs15 fa98 A95 F_modCount_a F_size_a F_elementData_a gn_a OD) hZ84 (W 87 rfl) w_84)
  have N100 := Fr.app N84 Nq100
  have D101 := CHr.keep Kq100 (sfS sf_a sf0) C97.1
  have C102 := C97.trans D101
  have KK16 := KK15.trans Kq100 (allS (Or.inr s0_a) all0)
  have Zs16 := Nat.le_trans Zs15 Kq100.1
  have Ms16 := Nat.le_trans Ms15 Kq100.1
  have e100 : T100.heap = T100.heap := rfl
  have cc104 : oQ X100 S0' 177 #[sI p1, sI p2, sI p3, sI p4, sI p5, sI nn, sI b0, sI b1, sI b2, sI b3, sI b4, sR x0, sR x1, sR x2, sR sq, sR co, sR q0, sR q1, sR q2, uN, uN, uN, uN, uN, uN] [.ref a] := st100
  have fa103 := A95.keep Kq100
  have fa105 := fa98.keep Kq100 (allS gn_a all0)
  have ne_a_dd : a ≠ dd := Ne.symm (fa105.ne Ad.lt gn_a)
  have cc107 : oQ X100 S0' 179 #[sI p1, sI p2, sI p3, sI p4, sI p5, sI nn, sI b0, sI b1, sI b2, sI b3, sI b4, sR x0, sR x1, sR x2, sR sq, sR co, sR q0, sR q1, sR q2, sR a, uN, uN, uN, uN, uN] [] := Steps.trans cc104 (by
    refine XS.astore X100.here hx rfl (dB at_177) rfl rfl rfl ?_
    exact Steps.refl _)
  have fa106 := (PC.up K95 all0).up Kq100 (allS ml_a all0)
  have fa108 := (PQ0.up K95 all0).up Kq100 (allS ml_a all0)
  have fa109 := (PQ1.up K95 all0).up Kq100 (allS ml_a all0)
  have fa110 := (PQ2.up K95 all0).up Kq100 (allS ml_a all0)
  have fa111 := (LN0.up K95 all0).up Kq100 (allS ml_a all0)
  have fa112 := (LN1.up K95 all0).up Kq100 (allS ml_a all0)
  have fa113 := (LN2.up K95 all0).up Kq100 (allS ml_a all0)
  rcases hn4 with rfl | rfl | rfl | rfl
  · skip
    have cz114 : oQ X100 S0' 179 #[sI p1, sI p2, sI p3, sI p4, sI p5, sI 0, sI b0, sI b1, sI b2, sI b3, sI b4, sR x0, sR x1, sR x2, sR sq, sR co, sR q0, sR q1, sR q2, sR a, uN, uN, uN, uN, uN] [] := cc107
    have cc115 : oQ X100 S0' 268 #[sI p1, sI p2, sI p3, sI p4, sI p5, sI 0, sI b0, sI b1, sI b2, sI b3, sI b4, sR x0, sR x1, sR x2, sR sq, sR co, sR q0, sR q1, sR q2, sR a, uN, uN, uN, uN, uN] [] := Steps.trans cz114 (by
      refine XS.iload X100.here hx rfl (dB at_179) rfl ?_
      refine XS.ifYes X100.here hx rfl (pc0 := 181) rfl (dB at_181) rfl (i0_le_t (by decide)) (by decide) rfl ?_
      refine XS.iload X100.here hx rfl (dB at_208) rfl ?_
      refine iconstV X100.here hx rfl 1 (dB at_210) (by decide) ?_
      refine XS.icmpYes X100.here hx rfl (pc0 := 211) rfl (dB at_211) rfl (ii_le_t (by decide)) (by decide) rfl ?_
      refine XS.iload X100.here hx rfl (dB at_238) rfl ?_
      refine iconstV X100.here hx rfl 2 (dB at_240) (by decide) ?_
      refine XS.icmpYes X100.here hx rfl (pc0 := 241) rfl (dB at_241) rfl (ii_le_t (by decide)) (by decide) rfl ?_
      exact Steps.refl _)
    obtain ⟨T116, h116, X116, e116, E116, A116, D116, -, st116⟩ := newO X100 hx hZ84 hown84 w_106 w_107 w_108 e100 (g := (mkF m 268 #[sI p1, sI p2, sI p3, sI p4, sI p5, sI 0, sI b0, sI b1, sI b2, sI b3, sI b4, sR x0, sR x1, sR x2, sR sq, sR co, sR q0, sR q1, sR q2, sR a, uN, uN, uN, uN, uN] [])) rfl (dB at_268) (by decide) (by decide)
    obtain ⟨tm, g_tm⟩ : ∃ z, z = T100.heap.size := ⟨_, rfl⟩
    rw [← g_tm] at A116 D116 st116
    have K116 := (Keep.refl T100.heap ([] : List Addr)).ext E116
    have b_tm : T100.heap.size ≤ tm := (Nat.le_of_eq g_tm.symm)
    have gn_tm := Nat.le_trans Zs16 b_tm
    have s0_tm := Nat.le_trans KK16.1 b_tm
    have ml_tm := Nat.le_trans Ms16 b_tm
    have ne_a_tm := oN fa103.lt b_tm
    have D117 := CHr.ext E116 C102.1
    have C118 := C102.trans D117
    have sf_tm : Safe Z EL T84.vm h116 tm := Safe.ext E116 C102.1 (Safe.new b_tm)
    have KK17 := KK16.trans K116 all0
    have Zs17 := Nat.le_trans Zs16 K116.1
    have Ms17 := Nat.le_trans Ms16 K116.1
    have F_parts_tm : zF14 Z h116 tm .null := D116 (Or.inr w_143) (ty := (.object "java/util/List")) (by decide)
    have F_iri_tm : zF16 Z h116 tm (.int (0 : Int32)) := D116 (Or.inr w_145) (ty := .boolean) (by decide)
    have F_iriSafe_tm : zF17 Z h116 tm (.int (0 : Int32)) := D116 (Or.inr w_147) (ty := .boolean) (by decide)
    have cc120 : oQ X116 S0' 278 #[sI p1, sI p2, sI p3, sI p4, sI p5, sI 0, sI b0, sI b1, sI b2, sI b3, sI b4, sR x0, sR x1, sR x2, sR sq, sR co, sR q0, sR q1, sR q2, sR a, uN, uN, uN, uN, uN] [.int b4, .int b3, .ref a, .ref tm, .ref tm] := Steps.trans (cc115.trans (st116 _ (Steps.refl _))) (by
      refine XS.dup X116.here hx rfl (dB at_271) rfl rfl ?_
      refine XS.aload X116.here hx rfl (dB at_272) rfl rfl ?_
      refine XS.iload X116.here hx rfl (dB at_274) rfl ?_
      refine XS.iload X116.here hx rfl (dB at_276) rfl ?_
      exact Steps.refl _)
    have fa119 := fa105.keep K116 all0
    have fa121 := fa103.keep K116
    have fa122 := G2100.keep K116 nin0
    obtain ⟨_, T123, L123, X123, ⟨rfl, Nq123, Kq123, Fp⟩, st123⟩ := oCN (y := yM38) X116 cc120 hx hZ84 hown84 hml (dB at_278) e116 tm rfl w_109 w_110 w_111 (by decide) [.ref a, .int b3, .int b4] [.ref tm] (lenOf own_pd51 rfl) (bO (own_tmi0 l Z a0 hw tm b3 b4 a el h116 n0 Zs17 A116 F_parts_tm F_iri_tm F_iriSafe_tm gn_tm zb3 zb4 fa119 OL fa121 fa122) hZ84 w_111 w_108)
    have N123 := Fr.app N100 Nq123
    have D124 := CHr.keep Kq123 (sfS sf_tm sf0) C118.1
    have C125 := C118.trans D124
    have KK18 := KK17.trans Kq123 (allS (Or.inr s0_tm) all0)
    have Zs18 := Nat.le_trans Zs17 Kq123.1
    have Ms18 := Nat.le_trans Ms17 Kq123.1
    have e123 : T123.heap = T123.heap := rfl
    have cc127 : oQ X123 S0' 285 #[sI p1, sI p2, sI p3, sI p4, sI p5, sI 0, sI b0, sI b1, sI b2, sI b3, sI b4, sR x0, sR x1, sR x2, sR sq, sR co, sR q0, sR q1, sR q2, sR a, sR tm, uN, uN, uN, uN] [.ref tm] := Steps.trans st123 (by
      refine XS.astore X123.here hx rfl (dB at_281) rfl rfl rfl ?_
      refine XS.aload X123.here hx rfl (dB at_283) rfl rfl ?_
      exact Steps.refl _)
    have fa126 := fa119.keep Kq123 (allS gn_tm all0)
    have fa128 := A116.keep Kq123
    obtain ⟨_, T129, L129, X129, ⟨o, rfl, Nq129, Kq129, Eo, Ho⟩, st129⟩ := oCV (y := yM79) (z := yM79) X123 cc127 hx hZ84 hown84 hml (dB at_285) e123 fa128 w_148 w_149 (notFace_of_selects (args := #[]) (mvT hZ84 w_151)) w_151 w_150 (by decide) [] [] (lenOf own_pd41 rfl) (bO (own_ct0 l Z a0 hw tm el g0 kg0 oe z m4  T123.heap n0 Zs18 fa126 O2 P5 Fp (N1.ext fa126.2) (N2.ext fa126.2) (N3.ext fa126.2) OO EO FO  Ms18) hZ84 w_152 w_108)
    have N129 := Fr.app N123 Nq129
    have D130 := CHr.keep Kq129 sf0 C125.1
    have C131 := C125.trans D130
    have KK19 := KK18.trans Kq129 all0
    have Zs19 := Nat.le_trans Zs18 Kq129.1
    have Ms19 := Nat.le_trans Ms18 Kq129.1
    have e129 : T129.heap = T129.heap := rfl
    have hA : own_all [] [] = some ([] : List Int32) := by simp only [own_all]
    rw [hA] at Ho
    rcases Ho with ⟨hN, -⟩ | ⟨ct, xt, hT, Fo, Hx⟩
    · cases hN
    cases hT
    have cc132 : oQ X129 S0' 350 #[sI p1, sI p2, sI p3, sI p4, sI p5, sI 0, sI b0, sI b1, sI b2, sI b3, sI b4, sR x0, sR x1, sR x2, sR sq, sR co, sR q0, sR q1, sR q2, sR a, sR tm, sR o, sI 0, uN, uN] [.ref o] := Steps.trans st129 (by
      refine XS.astore X129.here hx rfl (dB at_288) rfl rfl rfl ?_
      refine XS.iload X129.here hx rfl (dB at_290) rfl ?_
      refine XS.ifYes X129.here hx rfl (pc0 := 292) rfl (dB at_292) rfl (i0_le_t (by decide)) (by decide) rfl ?_
      refine XS.iload X129.here hx rfl (dB at_300) rfl ?_
      refine iconstV X129.here hx rfl 1 (dB at_302) (by decide) ?_
      refine XS.icmpYes X129.here hx rfl (pc0 := 303) rfl (dB at_303) rfl (ii_le_t (by decide)) (by decide) rfl ?_
      refine XS.iload X129.here hx rfl (dB at_311) rfl ?_
      refine iconstV X129.here hx rfl 2 (dB at_313) (by decide) ?_
      refine XS.icmpYes X129.here hx rfl (pc0 := 314) rfl (dB at_314) rfl (ii_le_t (by decide)) (by decide) rfl ?_
      refine iconstV X129.here hx rfl 0 (dB at_326) (by decide) ?_
      refine XS.istore X129.here hx rfl (dB at_327) rfl rfl ?_
      refine XS.iload X129.here hx rfl (dB at_329) rfl ?_
      refine XS.ifYes X129.here hx rfl (pc0 := 331) rfl (dB at_331) rfl (i0_eq_t rfl) (by decide) rfl ?_
      refine XS.aload X129.here hx rfl (dB at_348) rfl rfl ?_
      exact Steps.refl _)
    obtain ⟨_, T133, L133, X133, ⟨rfl, Nq133, eq133⟩, st133⟩ := oCV (y := yM52) (z := yM52) X129 cc132 hx hZ84 hown84 hml (dB at_350) e129 Eo w_282 w_283 (notFace_of_selects (args := #[]) (mvT hZ84 w_285)) w_285 w_284 (by decide) [] [] (lenOf own_pd17 rfl) (bO (own_opp1 l Z a0 hw o xt T129.heap n0 Zs19 Fo) hZ84 w_286 w_268)
    have N133 := Fr.app N129 Nq133
    have cc134 : oQ X133 S0' 358 #[sI p1, sI p2, sI p3, sI p4, sI p5, sI 0, sI b0, sI b1, sI b2, sI b3, sI b4, sR x0, sR x1, sR x2, sR sq, sR co, sR q0, sR q1, sR q2, sR a, sR tm, sR o, sI 0, uN, uN] [] := Steps.trans st133 (by
      refine XS.ifYes X133.here hx rfl (pc0 := 353) rfl (dB at_353) rfl (i0_ne_t (by decide)) (by decide) rfl ?_
      exact Steps.refl _)
    have LX := own_LM.of Hx (Nat.le_refl _)
    have cc135 : oQ X133 S0' 360 #[sI p1, sI p2, sI p3, sI p4, sI p5, sI 0, sI b0, sI b1, sI b2, sI b3, sI b4, sR x0, sR x1, sR x2, sR sq, sR co, sR q0, sR q1, sR q2, sR a, sR tm, sR o, sI 0, uN, uN] [.int 6] := Steps.trans cc134 (by
      refine bipushV X133.here hx rfl 6 (dB at_358) (by decide) ?_
      exact Steps.refl _)
    obtain ⟨T136, h136, k136, X136, e136, E136, A136, st136⟩ := newP X133 hx hZ84 (aty := .char) w_7 eq133 (g := (mkF m 360 #[sI p1, sI p2, sI p3, sI p4, sI p5, sI 0, sI b0, sI b1, sI b2, sI b3, sI b4, sR x0, sR x1, sR x2, sR sq, sR co, sR q0, sR q1, sR q2, sR a, sR tm, sR o, sI 0, uN, uN] [.int 6])) rfl (dB at_360) rfl (by decide) (cap := 6) (by decide) (by decide) (by decide) (by decide)
    obtain ⟨b, g_b⟩ : ∃ z, z = T129.heap.size := ⟨_, rfl⟩
    rw [← g_b] at A136 st136
    have K136 := (Keep.refl T129.heap ([] : List Addr)).ext E136
    have b_b : T129.heap.size ≤ b := (Nat.le_of_eq g_b.symm)
    have gn_b := Nat.le_trans Zs19 b_b
    have s0_b := Nat.le_trans KK19.1 b_b
    have ml_b := Nat.le_trans (Nat.le_refl _) b_b
    have fa137 := (fa121.keep Kq123).keep Kq129
    have ne_a_b := oN fa137.lt b_b
    have fa138 := fa128.keep Kq129
    have ne_tm_b := oN fa138.lt b_b
    have ne_o_b := oN Eo.lt b_b
    have D139 := CHr.ext E136 C131.1
    have C140 := C131.trans D139
    have sf_b : Safe Z EL T84.vm h136 b := Safe.ext E136 C131.1 (Safe.new b_b)
    have KK20 := KK19.trans K136 all0
    have Zs20 := Nat.le_trans Zs19 K136.1
    have Ms20 := Nat.le_trans (Nat.le_refl _) K136.1
    have cc142 : oQ X136 S0' 419 #[sI p1, sI p2, sI p3, sI p4, sI p5, sI 0, sI b0, sI b1, sI b2, sI b3, sI b4, sR x0, sR x1, sR x2, sR sq, sR co, sR q0, sR q1, sR q2, sR a, sR tm, sR o, sI 0, sR b, sI 0] [.ref o] := Steps.trans (cc135.trans (st136 _ (Steps.refl _))) (by
      refine XS.astore X136.here hx rfl (dB at_362) rfl rfl rfl ?_
      refine iconstV X136.here hx rfl 0 (dB at_364) (by decide) ?_
      refine XS.istore X136.here hx rfl (dB at_365) rfl rfl ?_
      refine XS.iload X136.here hx rfl (dB at_367) rfl ?_
      refine XS.ifYes X136.here hx rfl (pc0 := 369) rfl (dB at_369) rfl (i0_le_t (by decide)) (by decide) rfl ?_
      refine XS.iload X136.here hx rfl (dB at_383) rfl ?_
      refine iconstV X136.here hx rfl 1 (dB at_385) (by decide) ?_
      refine XS.icmpYes X136.here hx rfl (pc0 := 386) rfl (dB at_386) rfl (ii_le_t (by decide)) (by decide) rfl ?_
      refine XS.iload X136.here hx rfl (dB at_400) rfl ?_
      refine iconstV X136.here hx rfl 2 (dB at_402) (by decide) ?_
      refine XS.icmpYes X136.here hx rfl (pc0 := 403) rfl (dB at_403) rfl (ii_le_t (by decide)) (by decide) rfl ?_
      refine XS.aload X136.here hx rfl (dB at_417) rfl rfl ?_
      exact Steps.refl _)
    have fa141 := Fo.keep K136 nin0
    have fa143 := Eo.keep K136
    obtain ⟨_, T144, L144, X144, ⟨rfl, Nq144, eq144⟩, st144⟩ := oCV (y := yM53) (z := yM53) X136 cc142 hx hZ84 hown84 hml (dB at_419) e136 fa143 w_287 w_288 (notFace_of_selects (args := #[]) (mvT hZ84 w_290)) w_290 w_289 (by decide) [] [] (lenOf own_pd40 rfl) (bO (own_opg l Z a0 hw o xt h136 n0 Zs20 fa141) hZ84 w_291 w_268)
    have N144 := Fr.app N133 Nq144
    have cc146 : oQ X144 S0' 422 #[sI p1, sI p2, sI p3, sI p4, sI p5, sI 0, sI b0, sI b1, sI b2, sI b3, sI b4, sR x0, sR x1, sR x2, sR sq, sR co, sR q0, sR q1, sR q2, sR a, sR tm, sR o, sI 0, sR b, sI 0] [.ref xt] := st144
    have fa145 := LX.up K136 all0
    obtain ⟨T147, X147, e147, st147⟩ := castY X144 hx hZ84 hown84 w_4 eq144 (Ins.self fa145.1.1) (g := (mkF m 422 #[sI p1, sI p2, sI p3, sI p4, sI p5, sI 0, sI b0, sI b1, sI b2, sI b3, sI b4, sR x0, sR x1, sR x2, sR sq, sR co, sR q0, sR q1, sR q2, sR a, sR tm, sR o, sI 0, sR b, sI 0] [.ref xt])) rfl rfl (dB at_422)
    have cc149 : oQ X147 S0' 429 #[sI p1, sI p2, sI p3, sI p4, sI p5, sI 0, sI b0, sI b1, sI b2, sI b3, sI b4, sR x0, sR x1, sR x2, sR sq, sR co, sR q0, sR q1, sR q2, sR a, sR tm, sR o, sI 0, sR b, sI 0] [.int 0, .ref b, .ref xt] := Steps.trans (cc146.trans (st147 _ (Steps.refl _))) (by
      refine XS.aload X147.here hx rfl (dB at_425) rfl rfl ?_
      refine XS.iload X147.here hx rfl (dB at_427) rfl ?_
      exact Steps.refl _)
    have fa148 := (fa126.keep Kq129 all0).keep K136 all0
    obtain ⟨_, T150, L150, X150, ⟨rfl, Nq150, eq150⟩, st150⟩ := oCT (y := yM88) X147 cc149 hx hZ84 hown84 hml (dB at_429) e147 w_292 w_293 w_2 w_294 (by decide) [.ref xt, .ref b, .int 0] [] (lenOf own_pd52 rfl) (bO (own_same l Z a0 hw xt b k136 ([] : List Int32) z f h136 n0 Zs20 fa148 O2 P5 O4 hf fa145.1 (Arv.new A136 (by decide)) (by simp)) hZ84 w_294 w_2)
    have N150 := Fr.app N144 Nq150
    have cc151 : oQ X150 S0' 432 #[sI p1, sI p2, sI p3, sI p4, sI p5, sI 0, sI b0, sI b1, sI b2, sI b3, sI b4, sR x0, sR x1, sR x2, sR sq, sR co, sR q0, sR q1, sR q2, sR a, sR tm, sR o, sI 0, sR b, sI 0] [.int 1] := st150
    have cE := cc151
    rw [hS0'] at cE
    obtain ⟨fs, hr_, hrun, hended, hE⟩ := X150.leaveW hS84 (by rw [eq150]; exact (Nat.le_trans (Nat.le_trans (Nat.le_trans (Nat.le_trans (Nat.le_trans (Nat.le_trans hk84 K95.1) Kq100.1) K116.1) Kq123.1) Kq129.1) K136.1)) (v := some (.int 1)) (fun h => by rw [Bd.returns] at h; cases h)
    have CE := C140.trans (CHv.at X150 hZ84 hEL C140.1)
    refine ⟨_, _, cE.trans (X150.ireturnOut hx Bd.returns (rfl) (by simp) (dB at_432) hr_), hrun, hended, _, _, rfl, ?_, ?_, hE.1, hE.2.1, hE.2.2.1, hE.2.2.2.mono (by first | decide | omega) (by first | decide | omega)⟩
    · show Q_own_law Z p1 p2 p3 p4 p5 z f dd mr el g0 em oe kd kg0 h0 n0 _ T150.heap _
      rw [eq150]
      exact ⟨rfl, N150⟩
    · rw [hh]
      show CHr Z EL s.vm h0 T150.vm T150.heap
      rw [eq150]
      exact CE
  · skip
    have cz114 : oQ X100 S0' 179 #[sI p1, sI p2, sI p3, sI p4, sI p5, sI 1, sI b0, sI b1, sI b2, sI b3, sI b4, sR x0, sR x1, sR x2, sR sq, sR co, sR q0, sR q1, sR q2, sR a, uN, uN, uN, uN, uN] [] := cc107
    have cc115 : oQ X100 S0' 186 #[sI p1, sI p2, sI p3, sI p4, sI p5, sI 1, sI b0, sI b1, sI b2, sI b3, sI b4, sR x0, sR x1, sR x2, sR sq, sR co, sR q0, sR q1, sR q2, sR a, uN, uN, uN, uN, uN] [.int b0] := Steps.trans cz114 (by
      refine XS.iload X100.here hx rfl (dB at_179) rfl ?_
      refine XS.ifNo X100.here hx rfl (dB at_181) rfl (i0_le_f (by decide)) ?_
      refine XS.iload X100.here hx rfl (dB at_184) rfl ?_
      exact Steps.refl _)
    obtain ⟨u0, Tj0, Lj0, t, kt, gu0, Pj0, Xj0, Nj0, Kj0, sj0, G1j0, G2j0, G3j0, Ot, Etj0, Atj0, Cj0, cj0⟩ : ∃ (u0 : Addr) (Tj0 : State) (Lj0 : List Loc) (t : Addr) (kt : ClassId) , n0 ≤ u0 ∧ own_P Z Tj0.heap m4 u0 (if b0 = 0 then some cs0 else none) ∧ Stand p l e room_1 (s.setVm T84.vm) m #[(.int p1), (.int p2), (.int p3), (.int p4), (.int p5)] below meth c Tj0 Lj0 35 168 ∧ Fr n0 Lj0 ∧ Keep T100.heap Tj0.heap [a] ∧ T100.heap.size ≤ t ∧ zF2 Z Tj0.heap a (.int (0 + 1)) ∧ zF0 Z Tj0.heap a (.int (1 : Int32)) ∧ zF1 Z Tj0.heap a (.ref t) ∧ Ovr Z kt "java/lang/Object" ∧ zE0 Z Tj0.heap t ∧ Arv Z Tj0.heap t kt (.object "java/lang/Object") (10 : Int32) [(.ref u0)] .null ∧ CHr Z EL s.vm h0 T84.vm Tj0.heap ∧ Steps p.tables e below S0' (Tj0.setTop (mkF m 208 #[sI p1, sI p2, sI p3, sI p4, sI p5, sI 1, sI b0, sI b1, sI b2, sI b3, sI b4, sR x0, sR x1, sR x2, sR sq, sR co, sR q0, sR q1, sR q2, sR a, uN, uN, uN, uN, uN] [])) := by
      by_cases hq : b0 = 0
      · skip
        have cc116 : oQ X100 S0' 204 #[sI p1, sI p2, sI p3, sI p4, sI p5, sI 1, sI b0, sI b1, sI b2, sI b3, sI b4, sR x0, sR x1, sR x2, sR sq, sR co, sR q0, sR q1, sR q2, sR a, uN, uN, uN, uN, uN] [.ref q0, .ref a] := Steps.trans cc115 (by
          refine XS.ifYes X100.here hx rfl (pc0 := 186) rfl (dB at_186) rfl (i0_eq_t hq) (by decide) rfl ?_
          refine XS.aload X100.here hx rfl (dB at_200) rfl rfl ?_
          refine XS.aload X100.here hx rfl (dB at_202) rfl rfl ?_
          exact Steps.refl _)
        obtain ⟨_, T117, L117, X117, ⟨t, kt, rfl, Nq117, Kq117, sq117, G1117, G2117, G3117, Ot117, Et117, At117⟩, st117⟩ := oCV (y := yM20) (z := yM20) X100 cc116 hx hZ84 hown84 hml (dB at_204) e100 fa103 w_305 w_306 (notFace_of_selects (args := #[]) (mvT hZ84 w_308)) w_308 w_307 (by decide) [.ref q0] [] (lenOf own_pd53 rfl) (bO (own_add1 l Z a0 hw a dd kd 0 m4 q0 (some cs0) T100.heap n0 Zs16 fa105 fa103 G1100 G2100 G3100 gn_a OD (Ad.ext fa105.2) fa108 Ms16 ml_a ne_a_dd) hZ84 w_309 w_84)
        have N117 := Fr.app N100 Nq117
        have D118 := CHr.keep Kq117 (sfS (Safe.exa (hZ84).alike fa103 (by decide) (by decide)) sf0) C102.1
        have C119 := C102.trans D118
        have KK17 := KK16.trans Kq117 (allS (Or.inr s0_a) all0)
        have Zs17 := Nat.le_trans Zs16 Kq117.1
        have Ms17 := Nat.le_trans Ms16 Kq117.1
        have e117 : T117.heap = T117.heap := rfl
        have cc120 : oQ X117 S0' 208 #[sI p1, sI p2, sI p3, sI p4, sI p5, sI 1, sI b0, sI b1, sI b2, sI b3, sI b4, sR x0, sR x1, sR x2, sR sq, sR co, sR q0, sR q1, sR q2, sR a, uN, uN, uN, uN, uN] [] := Steps.trans st117 (by
          refine XT.pop X117.here hx rfl (dB at_207) rfl rfl ?_
          exact Steps.refl _)
        exact ⟨q0, T117, _, t, kt, gn_q0, by rw [if_pos hq]; exact (fa108.up Kq117 (allS ml_a all0)), X117, N117, Kq117, sq117, G1117, G2117, G3117, Ot117, Et117, At117, C119, cc120⟩
      · skip
        have cc116 : oQ X100 S0' 193 #[sI p1, sI p2, sI p3, sI p4, sI p5, sI 1, sI b0, sI b1, sI b2, sI b3, sI b4, sR x0, sR x1, sR x2, sR sq, sR co, sR q0, sR q1, sR q2, sR a, uN, uN, uN, uN, uN] [.ref co, .ref a] := Steps.trans cc115 (by
          refine XS.ifNo X100.here hx rfl (dB at_186) rfl (i0_eq_f hq) ?_
          refine XS.aload X100.here hx rfl (dB at_189) rfl rfl ?_
          refine XS.aload X100.here hx rfl (dB at_191) rfl rfl ?_
          exact Steps.refl _)
        obtain ⟨_, T117, L117, X117, ⟨t, kt, rfl, Nq117, Kq117, sq117, G1117, G2117, G3117, Ot117, Et117, At117⟩, st117⟩ := oCV (y := yM20) (z := yM20) X100 cc116 hx hZ84 hown84 hml (dB at_193) e100 fa103 w_305 w_306 (notFace_of_selects (args := #[]) (mvT hZ84 w_308)) w_308 w_307 (by decide) [.ref co] [] (lenOf own_pd53 rfl) (bO (own_add1 l Z a0 hw a dd kd 0 m4 co none T100.heap n0 Zs16 fa105 fa103 G1100 G2100 G3100 gn_a OD (Ad.ext fa105.2) fa106 Ms16 ml_a ne_a_dd) hZ84 w_309 w_84)
        have N117 := Fr.app N100 Nq117
        have D118 := CHr.keep Kq117 (sfS (Safe.exa (hZ84).alike fa103 (by decide) (by decide)) sf0) C102.1
        have C119 := C102.trans D118
        have KK17 := KK16.trans Kq117 (allS (Or.inr s0_a) all0)
        have Zs17 := Nat.le_trans Zs16 Kq117.1
        have Ms17 := Nat.le_trans Ms16 Kq117.1
        have e117 : T117.heap = T117.heap := rfl
        have cc120 : oQ X117 S0' 208 #[sI p1, sI p2, sI p3, sI p4, sI p5, sI 1, sI b0, sI b1, sI b2, sI b3, sI b4, sR x0, sR x1, sR x2, sR sq, sR co, sR q0, sR q1, sR q2, sR a, uN, uN, uN, uN, uN] [] := Steps.trans st117 (by
          refine XT.pop X117.here hx rfl (dB at_196) rfl rfl ?_
          refine XS.goto X117.here hx rfl (pc0 := 197) rfl (dB at_197) (by decide) rfl ?_
          exact Steps.refl _)
        exact ⟨co, T117, _, t, kt, gn_co, by rw [if_neg hq]; exact (fa106.up Kq117 (allS ml_a all0)), X117, N117, Kq117, sq117, G1117, G2117, G3117, Ot117, Et117, At117, C119, cc120⟩
    have b_t : T100.heap.size ≤ t := sj0
    have gn_t := Nat.le_trans Zs16 b_t
    have s0_t := Nat.le_trans KK16.1 b_t
    have ml_t := Nat.le_trans Ms16 b_t
    have ne_a_t := oN fa103.lt b_t
    have KK17 := KK16.trans Kj0 (allS (Or.inr s0_a) all0)
    have Zs17 := Nat.le_trans Zs16 Kj0.1
    have Ms17 := Nat.le_trans Ms16 Kj0.1
    have ej0 : Tj0.heap = Tj0.heap := rfl
    have fa121 := fa103.keep Kj0
    have cc122 : oQ Xj0 S0' 268 #[sI p1, sI p2, sI p3, sI p4, sI p5, sI 1, sI b0, sI b1, sI b2, sI b3, sI b4, sR x0, sR x1, sR x2, sR sq, sR co, sR q0, sR q1, sR q2, sR a, uN, uN, uN, uN, uN] [] := Steps.trans cj0 (by
      refine XS.iload Xj0.here hx rfl (dB at_208) rfl ?_
      refine iconstV Xj0.here hx rfl 1 (dB at_210) (by decide) ?_
      refine XS.icmpYes Xj0.here hx rfl (pc0 := 211) rfl (dB at_211) rfl (ii_le_t (by decide)) (by decide) rfl ?_
      refine XS.iload Xj0.here hx rfl (dB at_238) rfl ?_
      refine iconstV Xj0.here hx rfl 2 (dB at_240) (by decide) ?_
      refine XS.icmpYes Xj0.here hx rfl (pc0 := 241) rfl (dB at_241) rfl (ii_le_t (by decide)) (by decide) rfl ?_
      exact Steps.refl _)
    obtain ⟨T123, h123, X123, e123, E123, A123, D123, -, st123⟩ := newO Xj0 hx hZ84 hown84 w_106 w_107 w_108 ej0 (g := (mkF m 268 #[sI p1, sI p2, sI p3, sI p4, sI p5, sI 1, sI b0, sI b1, sI b2, sI b3, sI b4, sR x0, sR x1, sR x2, sR sq, sR co, sR q0, sR q1, sR q2, sR a, uN, uN, uN, uN, uN] [])) rfl (dB at_268) (by decide) (by decide)
    obtain ⟨tm, g_tm⟩ : ∃ z, z = Tj0.heap.size := ⟨_, rfl⟩
    rw [← g_tm] at A123 D123 st123
    have K123 := (Keep.refl Tj0.heap ([] : List Addr)).ext E123
    have b_tm : Tj0.heap.size ≤ tm := (Nat.le_of_eq g_tm.symm)
    have gn_tm := Nat.le_trans Zs17 b_tm
    have s0_tm := Nat.le_trans KK17.1 b_tm
    have ml_tm := Nat.le_trans Ms17 b_tm
    have ne_a_tm := oN fa121.lt b_tm
    have ne_t_tm := oN Etj0.lt b_tm
    have D124 := CHr.ext E123 Cj0.1
    have C125 := Cj0.trans D124
    have sf_tm : Safe Z EL T84.vm h123 tm := Safe.ext E123 Cj0.1 (Safe.new b_tm)
    have KK18 := KK17.trans K123 all0
    have Zs18 := Nat.le_trans Zs17 K123.1
    have Ms18 := Nat.le_trans Ms17 K123.1
    have F_parts_tm : zF14 Z h123 tm .null := D123 (Or.inr w_143) (ty := (.object "java/util/List")) (by decide)
    have F_iri_tm : zF16 Z h123 tm (.int (0 : Int32)) := D123 (Or.inr w_145) (ty := .boolean) (by decide)
    have F_iriSafe_tm : zF17 Z h123 tm (.int (0 : Int32)) := D123 (Or.inr w_147) (ty := .boolean) (by decide)
    have cc127 : oQ X123 S0' 278 #[sI p1, sI p2, sI p3, sI p4, sI p5, sI 1, sI b0, sI b1, sI b2, sI b3, sI b4, sR x0, sR x1, sR x2, sR sq, sR co, sR q0, sR q1, sR q2, sR a, uN, uN, uN, uN, uN] [.int b4, .int b3, .ref a, .ref tm, .ref tm] := Steps.trans (cc122.trans (st123 _ (Steps.refl _))) (by
      refine XS.dup X123.here hx rfl (dB at_271) rfl rfl ?_
      refine XS.aload X123.here hx rfl (dB at_272) rfl rfl ?_
      refine XS.iload X123.here hx rfl (dB at_274) rfl ?_
      refine XS.iload X123.here hx rfl (dB at_276) rfl ?_
      exact Steps.refl _)
    have fa126 := fa121.keep K123
    have fa128 := G2j0.keep K123 nin0
    have fa129 := G3j0.keep K123 nin0
    have fa130 := Etj0.keep K123
    have fa131 := Atj0.keep K123 nin0
    have fa132 := (fa105.keep Kj0 (allS gn_a all0)).keep K123 all0
    have fa133 := Pj0.up K123 all0
    obtain ⟨_, T134, L134, X134, ⟨y, rfl, Nq134, Kq134, sy134, R1134, R2134, R3134, Fp⟩, st134⟩ := oCN (y := yM38) X123 cc127 hx hZ84 hown84 hml (dB at_278) e123 tm rfl w_109 w_110 w_111 (by decide) [.ref a, .int b3, .int b4] [.ref tm] (lenOf own_pd51 rfl) (bO (own_tmi1 l Z a0 hw tm b3 b4 a t mr kt m4 u0 (if b0 = 0 then some cs0 else none) em h123 n0 Zs18 A123 F_parts_tm F_iri_tm F_iriSafe_tm gn_tm zb3 zb4 fa126 fa128 fa129 fa130 fa131 MM fa132 OE fa133 Ms18) hZ84 w_111 w_108)
    have N134 := Fr.app Nj0 Nq134
    have b_y : h123.size ≤ y := sy134
    have gn_y := Nat.le_trans Zs18 b_y
    have s0_y := Nat.le_trans KK18.1 b_y
    have ml_y := Nat.le_trans Ms18 b_y
    have ne_a_y := oN fa126.lt b_y
    have ne_t_y := oN fa130.lt b_y
    have ne_tm_y := oN A123.lt b_y
    have D135 := CHr.keep Kq134 (sfS sf_tm sf0) C125.1
    have C136 := C125.trans D135
    have sf_y := Safe.keep Kq134 (sfS sf_tm sf0) C125.1 (Safe.new b_y)
    have KK19 := KK18.trans Kq134 (allS (Or.inr s0_tm) all0)
    have Zs19 := Nat.le_trans Zs18 Kq134.1
    have Ms19 := Nat.le_trans Ms18 Kq134.1
    have e134 : T134.heap = T134.heap := rfl
    have cc138 : oQ X134 S0' 285 #[sI p1, sI p2, sI p3, sI p4, sI p5, sI 1, sI b0, sI b1, sI b2, sI b3, sI b4, sR x0, sR x1, sR x2, sR sq, sR co, sR q0, sR q1, sR q2, sR a, sR tm, uN, uN, uN, uN] [.ref tm] := Steps.trans st134 (by
      refine XS.astore X134.here hx rfl (dB at_281) rfl rfl rfl ?_
      refine XS.aload X134.here hx rfl (dB at_283) rfl rfl ?_
      exact Steps.refl _)
    have fa137 := fa132.keep Kq134 (allS gn_tm all0)
    have fa139 := fa133.up Kq134 (allS ml_tm all0)
    have fa140 := A123.keep Kq134
    obtain ⟨_, T141, L141, X141, ⟨o, rfl, Nq141, Kq141, Eo, Ho⟩, st141⟩ := oCV (y := yM79) (z := yM79) X134 cc138 hx hZ84 hown84 hml (dB at_285) e134 fa140 w_148 w_149 (notFace_of_selects (args := #[]) (mvT hZ84 w_151)) w_151 w_150 (by decide) [] [] (lenOf own_pd41 rfl) (bO (own_ct1 l Z a0 hw tm y u0 em oe z m4 (if b0 = 0 then some cs0 else none) T134.heap n0 Zs19 fa137 O2 P5 Fp R1134 R2134 R3134 OE OO EO FO fa139 Ms19) hZ84 w_152 w_108)
    have N141 := Fr.app N134 Nq141
    have D142 := CHr.keep Kq141 sf0 C136.1
    have C143 := C136.trans D142
    have KK20 := KK19.trans Kq141 all0
    have Zs20 := Nat.le_trans Zs19 Kq141.1
    have Ms20 := Nat.le_trans Ms19 Kq141.1
    have e141 : T141.heap = T141.heap := rfl
    have cc144 : oQ X141 S0' 297 #[sI p1, sI p2, sI p3, sI p4, sI p5, sI 1, sI b0, sI b1, sI b2, sI b3, sI b4, sR x0, sR x1, sR x2, sR sq, sR co, sR q0, sR q1, sR q2, sR a, sR tm, sR o, uN, uN, uN] [.int b0] := Steps.trans st141 (by
      refine XS.astore X141.here hx rfl (dB at_288) rfl rfl rfl ?_
      refine XS.iload X141.here hx rfl (dB at_290) rfl ?_
      refine XS.ifNo X141.here hx rfl (dB at_292) rfl (i0_le_f (by decide)) ?_
      refine XS.iload X141.here hx rfl (dB at_295) rfl ?_
      exact Steps.refl _)
    by_cases hq0 : b0 = 0
    · skip
      have hA : own_all [] [(if b0 = 0 then some cs0 else none)] = some (([] : List Int32) ++ cs0) := by simp only [if_pos hq0, own_all]
      rw [hA] at Ho
      rcases Ho with ⟨hN, -⟩ | ⟨ct, xt, hT, Fo, Hx⟩
      · cases hN
      cases hT
      have cc145 : oQ X141 S0' 350 #[sI p1, sI p2, sI p3, sI p4, sI p5, sI 1, sI b0, sI b1, sI b2, sI b3, sI b4, sR x0, sR x1, sR x2, sR sq, sR co, sR q0, sR q1, sR q2, sR a, sR tm, sR o, sI 0, uN, uN] [.ref o] := Steps.trans cc144 (by
        refine XS.ifNo X141.here hx rfl (dB at_297) rfl (i0_ne_f hq0) ?_
        refine XS.iload X141.here hx rfl (dB at_300) rfl ?_
        refine iconstV X141.here hx rfl 1 (dB at_302) (by decide) ?_
        refine XS.icmpYes X141.here hx rfl (pc0 := 303) rfl (dB at_303) rfl (ii_le_t (by decide)) (by decide) rfl ?_
        refine XS.iload X141.here hx rfl (dB at_311) rfl ?_
        refine iconstV X141.here hx rfl 2 (dB at_313) (by decide) ?_
        refine XS.icmpYes X141.here hx rfl (pc0 := 314) rfl (dB at_314) rfl (ii_le_t (by decide)) (by decide) rfl ?_
        refine iconstV X141.here hx rfl 0 (dB at_326) (by decide) ?_
        refine XS.istore X141.here hx rfl (dB at_327) rfl rfl ?_
        refine XS.iload X141.here hx rfl (dB at_329) rfl ?_
        refine XS.ifYes X141.here hx rfl (pc0 := 331) rfl (dB at_331) rfl (i0_eq_t rfl) (by decide) rfl ?_
        refine XS.aload X141.here hx rfl (dB at_348) rfl rfl ?_
        exact Steps.refl _)
      obtain ⟨_, T146, L146, X146, ⟨rfl, Nq146, eq146⟩, st146⟩ := oCV (y := yM52) (z := yM52) X141 cc145 hx hZ84 hown84 hml (dB at_350) e141 Eo w_282 w_283 (notFace_of_selects (args := #[]) (mvT hZ84 w_285)) w_285 w_284 (by decide) [] [] (lenOf own_pd17 rfl) (bO (own_opp1 l Z a0 hw o xt T141.heap n0 Zs20 Fo) hZ84 w_286 w_268)
      have N146 := Fr.app N141 Nq146
      have cc147 : oQ X146 S0' 358 #[sI p1, sI p2, sI p3, sI p4, sI p5, sI 1, sI b0, sI b1, sI b2, sI b3, sI b4, sR x0, sR x1, sR x2, sR sq, sR co, sR q0, sR q1, sR q2, sR a, sR tm, sR o, sI 0, uN, uN] [] := Steps.trans st146 (by
        refine XS.ifYes X146.here hx rfl (pc0 := 353) rfl (dB at_353) rfl (i0_ne_t (by decide)) (by decide) rfl ?_
        exact Steps.refl _)
      have LX := own_LM.of Hx (Nat.le_refl _)
      have fa148 := (((fa111.up Kj0 (allS ml_a all0)).up K123 all0).up Kq134 (allS ml_tm all0)).up Kq141 all0
      have LO0 := fa148.mono Ms20
      have cc149 : oQ X146 S0' 360 #[sI p1, sI p2, sI p3, sI p4, sI p5, sI 1, sI b0, sI b1, sI b2, sI b3, sI b4, sR x0, sR x1, sR x2, sR sq, sR co, sR q0, sR q1, sR q2, sR a, sR tm, sR o, sI 0, uN, uN] [.int 6] := Steps.trans cc147 (by
        refine bipushV X146.here hx rfl 6 (dB at_358) (by decide) ?_
        exact Steps.refl _)
      obtain ⟨T150, h150, k150, X150, e150, E150, A150, st150⟩ := newP X146 hx hZ84 (aty := .char) w_7 eq146 (g := (mkF m 360 #[sI p1, sI p2, sI p3, sI p4, sI p5, sI 1, sI b0, sI b1, sI b2, sI b3, sI b4, sR x0, sR x1, sR x2, sR sq, sR co, sR q0, sR q1, sR q2, sR a, sR tm, sR o, sI 0, uN, uN] [.int 6])) rfl (dB at_360) rfl (by decide) (cap := 6) (by decide) (by decide) (by decide) (by decide)
      obtain ⟨b, g_b⟩ : ∃ z, z = T141.heap.size := ⟨_, rfl⟩
      rw [← g_b] at A150 st150
      have K150 := (Keep.refl T141.heap ([] : List Addr)).ext E150
      have b_b : T141.heap.size ≤ b := (Nat.le_of_eq g_b.symm)
      have gn_b := Nat.le_trans Zs20 b_b
      have s0_b := Nat.le_trans KK20.1 b_b
      have ml_b := Nat.le_trans (Nat.le_refl _) b_b
      have fa151 := (fa126.keep Kq134).keep Kq141
      have ne_a_b := oN fa151.lt b_b
      have fa152 := (fa130.keep Kq134).keep Kq141
      have ne_t_b := oN fa152.lt b_b
      have fa153 := fa140.keep Kq141
      have ne_tm_b := oN fa153.lt b_b
      have fa154 := R1134.keep Kq141
      have ne_y_b := oN fa154.lt b_b
      have ne_o_b := oN Eo.lt b_b
      have D155 := CHr.ext E150 C143.1
      have C156 := C143.trans D155
      have sf_b : Safe Z EL T84.vm h150 b := Safe.ext E150 C143.1 (Safe.new b_b)
      have KK21 := KK20.trans K150 all0
      have Zs21 := Nat.le_trans Zs20 K150.1
      have Ms21 := Nat.le_trans (Nat.le_refl _) K150.1
      have cc158 : oQ X150 S0' 378 #[sI p1, sI p2, sI p3, sI p4, sI p5, sI 1, sI b0, sI b1, sI b2, sI b3, sI b4, sR x0, sR x1, sR x2, sR sq, sR co, sR q0, sR q1, sR q2, sR a, sR tm, sR o, sI 0, sR b, sI 0] [.ref x0, .int 0, .ref b] := Steps.trans (cc149.trans (st150 _ (Steps.refl _))) (by
        refine XS.astore X150.here hx rfl (dB at_362) rfl rfl rfl ?_
        refine iconstV X150.here hx rfl 0 (dB at_364) (by decide) ?_
        refine XS.istore X150.here hx rfl (dB at_365) rfl rfl ?_
        refine XS.iload X150.here hx rfl (dB at_367) rfl ?_
        refine XS.ifNo X150.here hx rfl (dB at_369) rfl (i0_le_f (by decide)) ?_
        refine XS.aload X150.here hx rfl (dB at_372) rfl rfl ?_
        refine XS.iload X150.here hx rfl (dB at_374) rfl ?_
        refine XS.aload X150.here hx rfl (dB at_376) rfl rfl ?_
        exact Steps.refl _)
      have fa157 := (fa137.keep Kq141 all0).keep K150 all0
      have fa159 := LO0.up K150 all0
      obtain ⟨_, T160, L160, X160, ⟨rfl, Nq160, Kq160, Aq160⟩, st160⟩ := oCT (y := yM87) X150 cc158 hx hZ84 hown84 hml (dB at_378) e150 w_440 w_441 w_2 w_442 (by decide) [.ref b, .int 0, .ref x0] [] (lenOf own_pd54 rfl) (bO (own_put l Z a0 hw b k150 ([] : List Int32) x0 cs0 z f h150 n0 Zs21 fa157 O2 P5 O4 hf fa159.1 (Arv.new A150 (by decide)) gn_b (by simp; omega) lc0) hZ84 w_442 w_2)
      have N160 := Fr.app N146 Nq160
      have D161 := CHr.keep Kq160 (sfS sf_b sf0) C156.1
      have C162 := C156.trans D161
      have KK22 := KK21.trans Kq160 (allS (Or.inr s0_b) all0)
      have Zs22 := Nat.le_trans Zs21 Kq160.1
      have Ms22 := Nat.le_trans Ms21 Kq160.1
      have e160 : T160.heap = T160.heap := rfl
      have cc164 : oQ X160 S0' 419 #[sI p1, sI p2, sI p3, sI p4, sI p5, sI 1, sI b0, sI b1, sI b2, sI b3, sI b4, sR x0, sR x1, sR x2, sR sq, sR co, sR q0, sR q1, sR q2, sR a, sR tm, sR o, sI 0, sR b, sI (Int32.ofNat (([] : List Int32) ++ cs0).length)] [.ref o] := Steps.trans st160 (by
        refine XS.istore X160.here hx rfl (dB at_381) rfl rfl ?_
        refine XS.iload X160.here hx rfl (dB at_383) rfl ?_
        refine iconstV X160.here hx rfl 1 (dB at_385) (by decide) ?_
        refine XS.icmpYes X160.here hx rfl (pc0 := 386) rfl (dB at_386) rfl (ii_le_t (by decide)) (by decide) rfl ?_
        refine XS.iload X160.here hx rfl (dB at_400) rfl ?_
        refine iconstV X160.here hx rfl 2 (dB at_402) (by decide) ?_
        refine XS.icmpYes X160.here hx rfl (pc0 := 403) rfl (dB at_403) rfl (ii_le_t (by decide)) (by decide) rfl ?_
        refine XS.aload X160.here hx rfl (dB at_417) rfl rfl ?_
        exact Steps.refl _)
      have fa163 := (Fo.keep K150 nin0).keep Kq160 (ninS ne_o_b nin0)
      have fa165 := (Eo.keep K150).keep Kq160
      obtain ⟨_, T166, L166, X166, ⟨rfl, Nq166, eq166⟩, st166⟩ := oCV (y := yM53) (z := yM53) X160 cc164 hx hZ84 hown84 hml (dB at_419) e160 fa165 w_287 w_288 (notFace_of_selects (args := #[]) (mvT hZ84 w_290)) w_290 w_289 (by decide) [] [] (lenOf own_pd40 rfl) (bO (own_opg l Z a0 hw o xt T160.heap n0 Zs22 fa163) hZ84 w_291 w_268)
      have N166 := Fr.app N160 Nq166
      have cc168 : oQ X166 S0' 422 #[sI p1, sI p2, sI p3, sI p4, sI p5, sI 1, sI b0, sI b1, sI b2, sI b3, sI b4, sR x0, sR x1, sR x2, sR sq, sR co, sR q0, sR q1, sR q2, sR a, sR tm, sR o, sI 0, sR b, sI (Int32.ofNat (([] : List Int32) ++ cs0).length)] [.ref xt] := st166
      have fa167 := (LX.up K150 all0).up Kq160 (allS ml_b all0)
      obtain ⟨T169, X169, e169, st169⟩ := castY X166 hx hZ84 hown84 w_4 eq166 (Ins.self fa167.1.1) (g := (mkF m 422 #[sI p1, sI p2, sI p3, sI p4, sI p5, sI 1, sI b0, sI b1, sI b2, sI b3, sI b4, sR x0, sR x1, sR x2, sR sq, sR co, sR q0, sR q1, sR q2, sR a, sR tm, sR o, sI 0, sR b, sI (Int32.ofNat (([] : List Int32) ++ cs0).length)] [.ref xt])) rfl rfl (dB at_422)
      have cc171 : oQ X169 S0' 429 #[sI p1, sI p2, sI p3, sI p4, sI p5, sI 1, sI b0, sI b1, sI b2, sI b3, sI b4, sR x0, sR x1, sR x2, sR sq, sR co, sR q0, sR q1, sR q2, sR a, sR tm, sR o, sI 0, sR b, sI (Int32.ofNat (([] : List Int32) ++ cs0).length)] [.int (Int32.ofNat (([] : List Int32) ++ cs0).length), .ref b, .ref xt] := Steps.trans (cc168.trans (st169 _ (Steps.refl _))) (by
        refine XS.aload X169.here hx rfl (dB at_425) rfl rfl ?_
        refine XS.iload X169.here hx rfl (dB at_427) rfl ?_
        exact Steps.refl _)
      have fa170 := fa157.keep Kq160 (allS gn_b all0)
      obtain ⟨_, T172, L172, X172, ⟨rfl, Nq172, eq172⟩, st172⟩ := oCT (y := yM88) X169 cc171 hx hZ84 hown84 hml (dB at_429) e169 w_292 w_293 w_2 w_294 (by decide) [.ref xt, .ref b, .int (Int32.ofNat (([] : List Int32) ++ cs0).length)] [] (lenOf own_pd52 rfl) (bO (own_same l Z a0 hw xt b k150 (([] : List Int32) ++ cs0) z f T160.heap n0 Zs22 fa170 O2 P5 O4 hf fa167.1 Aq160 (by simp; omega)) hZ84 w_294 w_2)
      have N172 := Fr.app N166 Nq172
      have cc173 : oQ X172 S0' 432 #[sI p1, sI p2, sI p3, sI p4, sI p5, sI 1, sI b0, sI b1, sI b2, sI b3, sI b4, sR x0, sR x1, sR x2, sR sq, sR co, sR q0, sR q1, sR q2, sR a, sR tm, sR o, sI 0, sR b, sI (Int32.ofNat (([] : List Int32) ++ cs0).length)] [.int 1] := st172
      have cE := cc173
      rw [hS0'] at cE
      obtain ⟨fs, hr_, hrun, hended, hE⟩ := X172.leaveW hS84 (by rw [eq172]; exact (Nat.le_trans (Nat.le_trans (Nat.le_trans (Nat.le_trans (Nat.le_trans (Nat.le_trans (Nat.le_trans (Nat.le_trans hk84 K95.1) Kq100.1) Kj0.1) K123.1) Kq134.1) Kq141.1) K150.1) Kq160.1)) (v := some (.int 1)) (fun h => by rw [Bd.returns] at h; cases h)
      have CE := C162.trans (CHv.at X172 hZ84 hEL C162.1)
      refine ⟨_, _, cE.trans (X172.ireturnOut hx Bd.returns (rfl) (by simp) (dB at_432) hr_), hrun, hended, _, _, rfl, ?_, ?_, hE.1, hE.2.1, hE.2.2.1, hE.2.2.2.mono (by first | decide | omega) (by first | decide | omega)⟩
      · show Q_own_law Z p1 p2 p3 p4 p5 z f dd mr el g0 em oe kd kg0 h0 n0 _ T172.heap _
        rw [eq172]
        exact ⟨rfl, N172⟩
      · rw [hh]
        show CHr Z EL s.vm h0 T172.vm T172.heap
        rw [eq172]
        exact CE
    · skip
      have hA : own_all [] [(if b0 = 0 then some cs0 else none)] = none := by simp [if_neg hq0, own_all]
      rw [hA] at Ho
      rcases Ho with ⟨-, Fo⟩ | ⟨ct, xt, hT, -⟩
      rotate_left
      · cases hT
      have cc145 : oQ X141 S0' 336 #[sI p1, sI p2, sI p3, sI p4, sI p5, sI 1, sI b0, sI b1, sI b2, sI b3, sI b4, sR x0, sR x1, sR x2, sR sq, sR co, sR q0, sR q1, sR q2, sR a, sR tm, sR o, sI 1, uN, uN] [.ref o] := Steps.trans cc144 (by
        refine XS.ifYes X141.here hx rfl (pc0 := 297) rfl (dB at_297) rfl (i0_ne_t hq0) (by decide) rfl ?_
        refine iconstV X141.here hx rfl 1 (dB at_322) (by decide) ?_
        refine XS.goto X141.here hx rfl (pc0 := 323) rfl (dB at_323) (by decide) rfl ?_
        refine XS.istore X141.here hx rfl (dB at_327) rfl rfl ?_
        refine XS.iload X141.here hx rfl (dB at_329) rfl ?_
        refine XS.ifNo X141.here hx rfl (dB at_331) rfl (i0_eq_f (by decide)) ?_
        refine XS.aload X141.here hx rfl (dB at_334) rfl rfl ?_
        exact Steps.refl _)
      obtain ⟨_, T146, L146, X146, ⟨rfl, Nq146, eq146⟩, st146⟩ := oCV (y := yM52) (z := yM52) X141 cc145 hx hZ84 hown84 hml (dB at_336) e141 Eo w_282 w_283 (notFace_of_selects (args := #[]) (mvT hZ84 w_285)) w_285 w_284 (by decide) [] [] (lenOf own_pd17 rfl) (bO (own_opp0 l Z a0 hw o T141.heap n0 Zs20 Fo) hZ84 w_286 w_268)
      have N146 := Fr.app N141 Nq146
      have cc147 : oQ X146 S0' 347 #[sI p1, sI p2, sI p3, sI p4, sI p5, sI 1, sI b0, sI b1, sI b2, sI b3, sI b4, sR x0, sR x1, sR x2, sR sq, sR co, sR q0, sR q1, sR q2, sR a, sR tm, sR o, sI 1, uN, uN] [.int 1] := Steps.trans st146 (by
        refine XS.ifNo X146.here hx rfl (dB at_339) rfl (i0_ne_f rfl) ?_
        refine iconstV X146.here hx rfl 1 (dB at_342) (by decide) ?_
        refine XS.goto X146.here hx rfl (pc0 := 343) rfl (dB at_343) (by decide) rfl ?_
        exact Steps.refl _)
      have cE := cc147
      rw [hS0'] at cE
      obtain ⟨fs, hr_, hrun, hended, hE⟩ := X146.leaveW hS84 (by rw [eq146]; exact (Nat.le_trans (Nat.le_trans (Nat.le_trans (Nat.le_trans (Nat.le_trans (Nat.le_trans hk84 K95.1) Kq100.1) Kj0.1) K123.1) Kq134.1) Kq141.1)) (v := some (.int 1)) (fun h => by rw [Bd.returns] at h; cases h)
      have CE := C143.trans (CHv.at X146 hZ84 hEL C143.1)
      refine ⟨_, _, cE.trans (X146.ireturnOut hx Bd.returns (rfl) (by simp) (dB at_347) hr_), hrun, hended, _, _, rfl, ?_, ?_, hE.1, hE.2.1, hE.2.2.1, hE.2.2.2.mono (by first | decide | omega) (by first | decide | omega)⟩
      · show Q_own_law Z p1 p2 p3 p4 p5 z f dd mr el g0 em oe kd kg0 h0 n0 _ T146.heap _
        rw [eq146]
        exact ⟨rfl, N146⟩
      · rw [hh]
        show CHr Z EL s.vm h0 T146.vm T146.heap
        rw [eq146]
        exact CE
  · skip
    have cz114 : oQ X100 S0' 179 #[sI p1, sI p2, sI p3, sI p4, sI p5, sI 2, sI b0, sI b1, sI b2, sI b3, sI b4, sR x0, sR x1, sR x2, sR sq, sR co, sR q0, sR q1, sR q2, sR a, uN, uN, uN, uN, uN] [] := cc107
    have cc115 : oQ X100 S0' 186 #[sI p1, sI p2, sI p3, sI p4, sI p5, sI 2, sI b0, sI b1, sI b2, sI b3, sI b4, sR x0, sR x1, sR x2, sR sq, sR co, sR q0, sR q1, sR q2, sR a, uN, uN, uN, uN, uN] [.int b0] := Steps.trans cz114 (by
      refine XS.iload X100.here hx rfl (dB at_179) rfl ?_
      refine XS.ifNo X100.here hx rfl (dB at_181) rfl (i0_le_f (by decide)) ?_
      refine XS.iload X100.here hx rfl (dB at_184) rfl ?_
      exact Steps.refl _)
    obtain ⟨u0, Tj0, Lj0, t, kt, gu0, Pj0, Xj0, Nj0, Kj0, sj0, G1j0, G2j0, G3j0, Ot, Etj0, Atj0, Cj0, cj0⟩ : ∃ (u0 : Addr) (Tj0 : State) (Lj0 : List Loc) (t : Addr) (kt : ClassId) , n0 ≤ u0 ∧ own_P Z Tj0.heap m4 u0 (if b0 = 0 then some cs0 else none) ∧ Stand p l e room_1 (s.setVm T84.vm) m #[(.int p1), (.int p2), (.int p3), (.int p4), (.int p5)] below meth c Tj0 Lj0 35 168 ∧ Fr n0 Lj0 ∧ Keep T100.heap Tj0.heap [a] ∧ T100.heap.size ≤ t ∧ zF2 Z Tj0.heap a (.int (0 + 1)) ∧ zF0 Z Tj0.heap a (.int (1 : Int32)) ∧ zF1 Z Tj0.heap a (.ref t) ∧ Ovr Z kt "java/lang/Object" ∧ zE0 Z Tj0.heap t ∧ Arv Z Tj0.heap t kt (.object "java/lang/Object") (10 : Int32) [(.ref u0)] .null ∧ CHr Z EL s.vm h0 T84.vm Tj0.heap ∧ Steps p.tables e below S0' (Tj0.setTop (mkF m 208 #[sI p1, sI p2, sI p3, sI p4, sI p5, sI 2, sI b0, sI b1, sI b2, sI b3, sI b4, sR x0, sR x1, sR x2, sR sq, sR co, sR q0, sR q1, sR q2, sR a, uN, uN, uN, uN, uN] [])) := by
      by_cases hq : b0 = 0
      · skip
        have cc116 : oQ X100 S0' 204 #[sI p1, sI p2, sI p3, sI p4, sI p5, sI 2, sI b0, sI b1, sI b2, sI b3, sI b4, sR x0, sR x1, sR x2, sR sq, sR co, sR q0, sR q1, sR q2, sR a, uN, uN, uN, uN, uN] [.ref q0, .ref a] := Steps.trans cc115 (by
          refine XS.ifYes X100.here hx rfl (pc0 := 186) rfl (dB at_186) rfl (i0_eq_t hq) (by decide) rfl ?_
          refine XS.aload X100.here hx rfl (dB at_200) rfl rfl ?_
          refine XS.aload X100.here hx rfl (dB at_202) rfl rfl ?_
          exact Steps.refl _)
        obtain ⟨_, T117, L117, X117, ⟨t, kt, rfl, Nq117, Kq117, sq117, G1117, G2117, G3117, Ot117, Et117, At117⟩, st117⟩ := oCV (y := yM20) (z := yM20) X100 cc116 hx hZ84 hown84 hml (dB at_204) e100 fa103 w_305 w_306 (notFace_of_selects (args := #[]) (mvT hZ84 w_308)) w_308 w_307 (by decide) [.ref q0] [] (lenOf own_pd53 rfl) (bO (own_add1 l Z a0 hw a dd kd 0 m4 q0 (some cs0) T100.heap n0 Zs16 fa105 fa103 G1100 G2100 G3100 gn_a OD (Ad.ext fa105.2) fa108 Ms16 ml_a ne_a_dd) hZ84 w_309 w_84)
        have N117 := Fr.app N100 Nq117
        have D118 := CHr.keep Kq117 (sfS (Safe.exa (hZ84).alike fa103 (by decide) (by decide)) sf0) C102.1
        have C119 := C102.trans D118
        have KK17 := KK16.trans Kq117 (allS (Or.inr s0_a) all0)
        have Zs17 := Nat.le_trans Zs16 Kq117.1
        have Ms17 := Nat.le_trans Ms16 Kq117.1
        have e117 : T117.heap = T117.heap := rfl
        have cc120 : oQ X117 S0' 208 #[sI p1, sI p2, sI p3, sI p4, sI p5, sI 2, sI b0, sI b1, sI b2, sI b3, sI b4, sR x0, sR x1, sR x2, sR sq, sR co, sR q0, sR q1, sR q2, sR a, uN, uN, uN, uN, uN] [] := Steps.trans st117 (by
          refine XT.pop X117.here hx rfl (dB at_207) rfl rfl ?_
          exact Steps.refl _)
        exact ⟨q0, T117, _, t, kt, gn_q0, by rw [if_pos hq]; exact (fa108.up Kq117 (allS ml_a all0)), X117, N117, Kq117, sq117, G1117, G2117, G3117, Ot117, Et117, At117, C119, cc120⟩
      · skip
        have cc116 : oQ X100 S0' 193 #[sI p1, sI p2, sI p3, sI p4, sI p5, sI 2, sI b0, sI b1, sI b2, sI b3, sI b4, sR x0, sR x1, sR x2, sR sq, sR co, sR q0, sR q1, sR q2, sR a, uN, uN, uN, uN, uN] [.ref co, .ref a] := Steps.trans cc115 (by
          refine XS.ifNo X100.here hx rfl (dB at_186) rfl (i0_eq_f hq) ?_
          refine XS.aload X100.here hx rfl (dB at_189) rfl rfl ?_
          refine XS.aload X100.here hx rfl (dB at_191) rfl rfl ?_
          exact Steps.refl _)
        obtain ⟨_, T117, L117, X117, ⟨t, kt, rfl, Nq117, Kq117, sq117, G1117, G2117, G3117, Ot117, Et117, At117⟩, st117⟩ := oCV (y := yM20) (z := yM20) X100 cc116 hx hZ84 hown84 hml (dB at_193) e100 fa103 w_305 w_306 (notFace_of_selects (args := #[]) (mvT hZ84 w_308)) w_308 w_307 (by decide) [.ref co] [] (lenOf own_pd53 rfl) (bO (own_add1 l Z a0 hw a dd kd 0 m4 co none T100.heap n0 Zs16 fa105 fa103 G1100 G2100 G3100 gn_a OD (Ad.ext fa105.2) fa106 Ms16 ml_a ne_a_dd) hZ84 w_309 w_84)
        have N117 := Fr.app N100 Nq117
        have D118 := CHr.keep Kq117 (sfS (Safe.exa (hZ84).alike fa103 (by decide) (by decide)) sf0) C102.1
        have C119 := C102.trans D118
        have KK17 := KK16.trans Kq117 (allS (Or.inr s0_a) all0)
        have Zs17 := Nat.le_trans Zs16 Kq117.1
        have Ms17 := Nat.le_trans Ms16 Kq117.1
        have e117 : T117.heap = T117.heap := rfl
        have cc120 : oQ X117 S0' 208 #[sI p1, sI p2, sI p3, sI p4, sI p5, sI 2, sI b0, sI b1, sI b2, sI b3, sI b4, sR x0, sR x1, sR x2, sR sq, sR co, sR q0, sR q1, sR q2, sR a, uN, uN, uN, uN, uN] [] := Steps.trans st117 (by
          refine XT.pop X117.here hx rfl (dB at_196) rfl rfl ?_
          refine XS.goto X117.here hx rfl (pc0 := 197) rfl (dB at_197) (by decide) rfl ?_
          exact Steps.refl _)
        exact ⟨co, T117, _, t, kt, gn_co, by rw [if_neg hq]; exact (fa106.up Kq117 (allS ml_a all0)), X117, N117, Kq117, sq117, G1117, G2117, G3117, Ot117, Et117, At117, C119, cc120⟩
    have b_t : T100.heap.size ≤ t := sj0
    have gn_t := Nat.le_trans Zs16 b_t
    have s0_t := Nat.le_trans KK16.1 b_t
    have ml_t := Nat.le_trans Ms16 b_t
    have ne_a_t := oN fa103.lt b_t
    have KK17 := KK16.trans Kj0 (allS (Or.inr s0_a) all0)
    have Zs17 := Nat.le_trans Zs16 Kj0.1
    have Ms17 := Nat.le_trans Ms16 Kj0.1
    have ej0 : Tj0.heap = Tj0.heap := rfl
    have fa121 := fa103.keep Kj0
    have cc122 : oQ Xj0 S0' 216 #[sI p1, sI p2, sI p3, sI p4, sI p5, sI 2, sI b0, sI b1, sI b2, sI b3, sI b4, sR x0, sR x1, sR x2, sR sq, sR co, sR q0, sR q1, sR q2, sR a, uN, uN, uN, uN, uN] [.int b1] := Steps.trans cj0 (by
      refine XS.iload Xj0.here hx rfl (dB at_208) rfl ?_
      refine iconstV Xj0.here hx rfl 1 (dB at_210) (by decide) ?_
      refine XS.icmpNo Xj0.here hx rfl (dB at_211) rfl (ii_le_f (by decide)) ?_
      refine XS.iload Xj0.here hx rfl (dB at_214) rfl ?_
      exact Steps.refl _)
    have fa123 := fa106.up Kj0 (allS ml_a all0)
    have fa124 := fa109.up Kj0 (allS ml_a all0)
    have fa125 := fa105.keep Kj0 (allS gn_a all0)
    obtain ⟨u1, Tj1, Lj1, gu1, Pj1, Xj1, Nj1, Kj1, G1j1, G2j1, G3j1, Etj1, Atj1, Cj1, cj1⟩ : ∃ (u1 : Addr) (Tj1 : State) (Lj1 : List Loc) , n0 ≤ u1 ∧ own_P Z Tj1.heap m4 u1 (if b1 = 0 then some cs1 else none) ∧ Stand p l e room_1 (s.setVm T84.vm) m #[(.int p1), (.int p2), (.int p3), (.int p4), (.int p5)] below meth c Tj1 Lj1 35 168 ∧ Fr n0 Lj1 ∧ Keep Tj0.heap Tj1.heap [a, t] ∧ zF2 Z Tj1.heap a (.int (0 + 1 + 1)) ∧ zF0 Z Tj1.heap a (.int (2 : Int32)) ∧ zF1 Z Tj1.heap a (.ref t) ∧ zE0 Z Tj1.heap t ∧ Arv Z Tj1.heap t kt (.object "java/lang/Object") (10 : Int32) [(.ref u0), (.ref u1)] .null ∧ CHr Z EL s.vm h0 T84.vm Tj1.heap ∧ Steps p.tables e below S0' (Tj1.setTop (mkF m 238 #[sI p1, sI p2, sI p3, sI p4, sI p5, sI 2, sI b0, sI b1, sI b2, sI b3, sI b4, sR x0, sR x1, sR x2, sR sq, sR co, sR q0, sR q1, sR q2, sR a, uN, uN, uN, uN, uN] [])) := by
      by_cases hq : b1 = 0
      · skip
        have cc126 : oQ Xj0 S0' 234 #[sI p1, sI p2, sI p3, sI p4, sI p5, sI 2, sI b0, sI b1, sI b2, sI b3, sI b4, sR x0, sR x1, sR x2, sR sq, sR co, sR q0, sR q1, sR q2, sR a, uN, uN, uN, uN, uN] [.ref q1, .ref a] := Steps.trans cc122 (by
          refine XS.ifYes Xj0.here hx rfl (pc0 := 216) rfl (dB at_216) rfl (i0_eq_t hq) (by decide) rfl ?_
          refine XS.aload Xj0.here hx rfl (dB at_230) rfl rfl ?_
          refine XS.aload Xj0.here hx rfl (dB at_232) rfl rfl ?_
          exact Steps.refl _)
        obtain ⟨_, T127, L127, X127, ⟨rfl, Nq127, Kq127, G1127, G2127, G3127, Et127, At127⟩, st127⟩ := oCV (y := yM20) (z := yM20) Xj0 cc126 hx hZ84 hown84 hml (dB at_234) ej0 fa121 w_305 w_306 (notFace_of_selects (args := #[]) (mvT hZ84 w_308)) w_308 w_307 (by decide) [.ref q1] [] (lenOf own_pd53 rfl) (bO (own_add2 l Z a0 hw a t kt (0 + 1) m4 u0 (if b0 = 0 then some cs0 else none) q1 (some cs1) Tj0.heap n0 Zs17 fa121 G1j0 G2j0 G3j0 gn_a Etj0 Atj0 Ot gn_t ne_a_t fa124 Ms17 ml_a ml_t) hZ84 w_309 w_84)
        have N127 := Fr.app Nj0 Nq127
        have D128 := CHr.keep Kq127 (sfS (Safe.exa (hZ84).alike fa121 (by decide) (by decide)) (sfS (Safe.exa (hZ84).alike Etj0 (by decide) (by decide)) sf0)) Cj0.1
        have C129 := Cj0.trans D128
        have KK18 := KK17.trans Kq127 (allS (Or.inr s0_a) (allS (Or.inr s0_t) all0))
        have Zs18 := Nat.le_trans Zs17 Kq127.1
        have Ms18 := Nat.le_trans Ms17 Kq127.1
        have e127 : T127.heap = T127.heap := rfl
        have cc130 : oQ X127 S0' 238 #[sI p1, sI p2, sI p3, sI p4, sI p5, sI 2, sI b0, sI b1, sI b2, sI b3, sI b4, sR x0, sR x1, sR x2, sR sq, sR co, sR q0, sR q1, sR q2, sR a, uN, uN, uN, uN, uN] [] := Steps.trans st127 (by
          refine XT.pop X127.here hx rfl (dB at_237) rfl rfl ?_
          exact Steps.refl _)
        exact ⟨q1, T127, _, gn_q1, by rw [if_pos hq]; exact (fa124.up Kq127 (allS ml_a (allS ml_t all0))), X127, N127, Kq127, G1127, G2127, G3127, Et127, At127, C129, cc130⟩
      · skip
        have cc126 : oQ Xj0 S0' 223 #[sI p1, sI p2, sI p3, sI p4, sI p5, sI 2, sI b0, sI b1, sI b2, sI b3, sI b4, sR x0, sR x1, sR x2, sR sq, sR co, sR q0, sR q1, sR q2, sR a, uN, uN, uN, uN, uN] [.ref co, .ref a] := Steps.trans cc122 (by
          refine XS.ifNo Xj0.here hx rfl (dB at_216) rfl (i0_eq_f hq) ?_
          refine XS.aload Xj0.here hx rfl (dB at_219) rfl rfl ?_
          refine XS.aload Xj0.here hx rfl (dB at_221) rfl rfl ?_
          exact Steps.refl _)
        obtain ⟨_, T127, L127, X127, ⟨rfl, Nq127, Kq127, G1127, G2127, G3127, Et127, At127⟩, st127⟩ := oCV (y := yM20) (z := yM20) Xj0 cc126 hx hZ84 hown84 hml (dB at_223) ej0 fa121 w_305 w_306 (notFace_of_selects (args := #[]) (mvT hZ84 w_308)) w_308 w_307 (by decide) [.ref co] [] (lenOf own_pd53 rfl) (bO (own_add2 l Z a0 hw a t kt (0 + 1) m4 u0 (if b0 = 0 then some cs0 else none) co none Tj0.heap n0 Zs17 fa121 G1j0 G2j0 G3j0 gn_a Etj0 Atj0 Ot gn_t ne_a_t fa123 Ms17 ml_a ml_t) hZ84 w_309 w_84)
        have N127 := Fr.app Nj0 Nq127
        have D128 := CHr.keep Kq127 (sfS (Safe.exa (hZ84).alike fa121 (by decide) (by decide)) (sfS (Safe.exa (hZ84).alike Etj0 (by decide) (by decide)) sf0)) Cj0.1
        have C129 := Cj0.trans D128
        have KK18 := KK17.trans Kq127 (allS (Or.inr s0_a) (allS (Or.inr s0_t) all0))
        have Zs18 := Nat.le_trans Zs17 Kq127.1
        have Ms18 := Nat.le_trans Ms17 Kq127.1
        have e127 : T127.heap = T127.heap := rfl
        have cc130 : oQ X127 S0' 238 #[sI p1, sI p2, sI p3, sI p4, sI p5, sI 2, sI b0, sI b1, sI b2, sI b3, sI b4, sR x0, sR x1, sR x2, sR sq, sR co, sR q0, sR q1, sR q2, sR a, uN, uN, uN, uN, uN] [] := Steps.trans st127 (by
          refine XT.pop X127.here hx rfl (dB at_226) rfl rfl ?_
          refine XS.goto X127.here hx rfl (pc0 := 227) rfl (dB at_227) (by decide) rfl ?_
          exact Steps.refl _)
        exact ⟨co, T127, _, gn_co, by rw [if_neg hq]; exact (fa123.up Kq127 (allS ml_a (allS ml_t all0))), X127, N127, Kq127, G1127, G2127, G3127, Et127, At127, C129, cc130⟩
    have KK18 := KK17.trans Kj1 (allS (Or.inr s0_a) (allS (Or.inr s0_t) all0))
    have Zs18 := Nat.le_trans Zs17 Kj1.1
    have Ms18 := Nat.le_trans Ms17 Kj1.1
    have ej1 : Tj1.heap = Tj1.heap := rfl
    have fa131 := fa121.keep Kj1
    have cc132 : oQ Xj1 S0' 268 #[sI p1, sI p2, sI p3, sI p4, sI p5, sI 2, sI b0, sI b1, sI b2, sI b3, sI b4, sR x0, sR x1, sR x2, sR sq, sR co, sR q0, sR q1, sR q2, sR a, uN, uN, uN, uN, uN] [] := Steps.trans cj1 (by
      refine XS.iload Xj1.here hx rfl (dB at_238) rfl ?_
      refine iconstV Xj1.here hx rfl 2 (dB at_240) (by decide) ?_
      refine XS.icmpYes Xj1.here hx rfl (pc0 := 241) rfl (dB at_241) rfl (ii_le_t (by decide)) (by decide) rfl ?_
      exact Steps.refl _)
    obtain ⟨T133, h133, X133, e133, E133, A133, D133, -, st133⟩ := newO Xj1 hx hZ84 hown84 w_106 w_107 w_108 ej1 (g := (mkF m 268 #[sI p1, sI p2, sI p3, sI p4, sI p5, sI 2, sI b0, sI b1, sI b2, sI b3, sI b4, sR x0, sR x1, sR x2, sR sq, sR co, sR q0, sR q1, sR q2, sR a, uN, uN, uN, uN, uN] [])) rfl (dB at_268) (by decide) (by decide)
    obtain ⟨tm, g_tm⟩ : ∃ z, z = Tj1.heap.size := ⟨_, rfl⟩
    rw [← g_tm] at A133 D133 st133
    have K133 := (Keep.refl Tj1.heap ([] : List Addr)).ext E133
    have b_tm : Tj1.heap.size ≤ tm := (Nat.le_of_eq g_tm.symm)
    have gn_tm := Nat.le_trans Zs18 b_tm
    have s0_tm := Nat.le_trans KK18.1 b_tm
    have ml_tm := Nat.le_trans Ms18 b_tm
    have ne_a_tm := oN fa131.lt b_tm
    have ne_t_tm := oN Etj1.lt b_tm
    have D134 := CHr.ext E133 Cj1.1
    have C135 := Cj1.trans D134
    have sf_tm : Safe Z EL T84.vm h133 tm := Safe.ext E133 Cj1.1 (Safe.new b_tm)
    have KK19 := KK18.trans K133 all0
    have Zs19 := Nat.le_trans Zs18 K133.1
    have Ms19 := Nat.le_trans Ms18 K133.1
    have F_parts_tm : zF14 Z h133 tm .null := D133 (Or.inr w_143) (ty := (.object "java/util/List")) (by decide)
    have F_iri_tm : zF16 Z h133 tm (.int (0 : Int32)) := D133 (Or.inr w_145) (ty := .boolean) (by decide)
    have F_iriSafe_tm : zF17 Z h133 tm (.int (0 : Int32)) := D133 (Or.inr w_147) (ty := .boolean) (by decide)
    have cc137 : oQ X133 S0' 278 #[sI p1, sI p2, sI p3, sI p4, sI p5, sI 2, sI b0, sI b1, sI b2, sI b3, sI b4, sR x0, sR x1, sR x2, sR sq, sR co, sR q0, sR q1, sR q2, sR a, uN, uN, uN, uN, uN] [.int b4, .int b3, .ref a, .ref tm, .ref tm] := Steps.trans (cc132.trans (st133 _ (Steps.refl _))) (by
      refine XS.dup X133.here hx rfl (dB at_271) rfl rfl ?_
      refine XS.aload X133.here hx rfl (dB at_272) rfl rfl ?_
      refine XS.iload X133.here hx rfl (dB at_274) rfl ?_
      refine XS.iload X133.here hx rfl (dB at_276) rfl ?_
      exact Steps.refl _)
    have fa136 := fa131.keep K133
    have fa138 := G2j1.keep K133 nin0
    have fa139 := G3j1.keep K133 nin0
    have fa140 := Etj1.keep K133
    have fa141 := Atj1.keep K133 nin0
    have fa142 := (Pj0.up Kj1 (allS ml_a (allS ml_t all0))).up K133 all0
    have fa143 := Pj1.up K133 all0
    obtain ⟨_, T144, L144, X144, ⟨y, rfl, Nq144, Kq144, sy144, R1144, R2144, R3144, Fp⟩, st144⟩ := oCN (y := yM38) X133 cc137 hx hZ84 hown84 hml (dB at_278) e133 tm rfl w_109 w_110 w_111 (by decide) [.ref a, .int b3, .int b4] [.ref tm] (lenOf own_pd51 rfl) (bO (own_tmi2 l Z a0 hw tm b3 b4 a t mr kt m4 u0 (if b0 = 0 then some cs0 else none) u1 (if b1 = 0 then some cs1 else none) h133 n0 Zs19 A133 F_parts_tm F_iri_tm F_iriSafe_tm gn_tm zb3 zb4 fa136 fa138 fa139 fa140 fa141 MM fa142 fa143 Ms19) hZ84 w_111 w_108)
    have N144 := Fr.app Nj1 Nq144
    have b_y : h133.size ≤ y := sy144
    have gn_y := Nat.le_trans Zs19 b_y
    have s0_y := Nat.le_trans KK19.1 b_y
    have ml_y := Nat.le_trans Ms19 b_y
    have ne_a_y := oN fa136.lt b_y
    have ne_t_y := oN fa140.lt b_y
    have ne_tm_y := oN A133.lt b_y
    have D145 := CHr.keep Kq144 (sfS sf_tm sf0) C135.1
    have C146 := C135.trans D145
    have sf_y := Safe.keep Kq144 (sfS sf_tm sf0) C135.1 (Safe.new b_y)
    have KK20 := KK19.trans Kq144 (allS (Or.inr s0_tm) all0)
    have Zs20 := Nat.le_trans Zs19 Kq144.1
    have Ms20 := Nat.le_trans Ms19 Kq144.1
    have e144 : T144.heap = T144.heap := rfl
    have cc148 : oQ X144 S0' 285 #[sI p1, sI p2, sI p3, sI p4, sI p5, sI 2, sI b0, sI b1, sI b2, sI b3, sI b4, sR x0, sR x1, sR x2, sR sq, sR co, sR q0, sR q1, sR q2, sR a, sR tm, uN, uN, uN, uN] [.ref tm] := Steps.trans st144 (by
      refine XS.astore X144.here hx rfl (dB at_281) rfl rfl rfl ?_
      refine XS.aload X144.here hx rfl (dB at_283) rfl rfl ?_
      exact Steps.refl _)
    have fa147 := ((fa125.keep Kj1 (allS gn_a (allS gn_t all0))).keep K133 all0).keep Kq144 (allS gn_tm all0)
    have fa149 := fa142.up Kq144 (allS ml_tm all0)
    have fa150 := fa143.up Kq144 (allS ml_tm all0)
    have fa151 := A133.keep Kq144
    obtain ⟨_, T152, L152, X152, ⟨o, rfl, Nq152, Kq152, Eo, Ho⟩, st152⟩ := oCV (y := yM79) (z := yM79) X144 cc148 hx hZ84 hown84 hml (dB at_285) e144 fa151 w_148 w_149 (notFace_of_selects (args := #[]) (mvT hZ84 w_151)) w_151 w_150 (by decide) [] [] (lenOf own_pd41 rfl) (bO (own_ct2 l Z a0 hw tm y u0 u1 em oe z m4 (if b0 = 0 then some cs0 else none) (if b1 = 0 then some cs1 else none) T144.heap n0 Zs20 fa147 O2 P5 Fp R1144 R2144 R3144 OE (Ne.symm (fa147.ne EM.lt gu1)) OO EO FO fa149 fa150 Ms20) hZ84 w_152 w_108)
    have N152 := Fr.app N144 Nq152
    have D153 := CHr.keep Kq152 sf0 C146.1
    have C154 := C146.trans D153
    have KK21 := KK20.trans Kq152 all0
    have Zs21 := Nat.le_trans Zs20 Kq152.1
    have Ms21 := Nat.le_trans Ms20 Kq152.1
    have e152 : T152.heap = T152.heap := rfl
    have cc155 : oQ X152 S0' 297 #[sI p1, sI p2, sI p3, sI p4, sI p5, sI 2, sI b0, sI b1, sI b2, sI b3, sI b4, sR x0, sR x1, sR x2, sR sq, sR co, sR q0, sR q1, sR q2, sR a, sR tm, sR o, uN, uN, uN] [.int b0] := Steps.trans st152 (by
      refine XS.astore X152.here hx rfl (dB at_288) rfl rfl rfl ?_
      refine XS.iload X152.here hx rfl (dB at_290) rfl ?_
      refine XS.ifNo X152.here hx rfl (dB at_292) rfl (i0_le_f (by decide)) ?_
      refine XS.iload X152.here hx rfl (dB at_295) rfl ?_
      exact Steps.refl _)
    by_cases hq0 : b0 = 0
    · skip
      have cc156 : oQ X152 S0' 308 #[sI p1, sI p2, sI p3, sI p4, sI p5, sI 2, sI b0, sI b1, sI b2, sI b3, sI b4, sR x0, sR x1, sR x2, sR sq, sR co, sR q0, sR q1, sR q2, sR a, sR tm, sR o, uN, uN, uN] [.int b1] := Steps.trans cc155 (by
        refine XS.ifNo X152.here hx rfl (dB at_297) rfl (i0_ne_f hq0) ?_
        refine XS.iload X152.here hx rfl (dB at_300) rfl ?_
        refine iconstV X152.here hx rfl 1 (dB at_302) (by decide) ?_
        refine XS.icmpNo X152.here hx rfl (dB at_303) rfl (ii_le_f (by decide)) ?_
        refine XS.iload X152.here hx rfl (dB at_306) rfl ?_
        exact Steps.refl _)
      by_cases hq1 : b1 = 0
      · skip
        have hA : own_all [] [(if b0 = 0 then some cs0 else none), (if b1 = 0 then some cs1 else none)] = some ((([] : List Int32) ++ cs0) ++ cs1) := by simp only [if_pos hq0, if_pos hq1, own_all]
        rw [hA] at Ho
        rcases Ho with ⟨hN, -⟩ | ⟨ct, xt, hT, Fo, Hx⟩
        · cases hN
        cases hT
        have cc157 : oQ X152 S0' 350 #[sI p1, sI p2, sI p3, sI p4, sI p5, sI 2, sI b0, sI b1, sI b2, sI b3, sI b4, sR x0, sR x1, sR x2, sR sq, sR co, sR q0, sR q1, sR q2, sR a, sR tm, sR o, sI 0, uN, uN] [.ref o] := Steps.trans cc156 (by
          refine XS.ifNo X152.here hx rfl (dB at_308) rfl (i0_ne_f hq1) ?_
          refine XS.iload X152.here hx rfl (dB at_311) rfl ?_
          refine iconstV X152.here hx rfl 2 (dB at_313) (by decide) ?_
          refine XS.icmpYes X152.here hx rfl (pc0 := 314) rfl (dB at_314) rfl (ii_le_t (by decide)) (by decide) rfl ?_
          refine iconstV X152.here hx rfl 0 (dB at_326) (by decide) ?_
          refine XS.istore X152.here hx rfl (dB at_327) rfl rfl ?_
          refine XS.iload X152.here hx rfl (dB at_329) rfl ?_
          refine XS.ifYes X152.here hx rfl (pc0 := 331) rfl (dB at_331) rfl (i0_eq_t rfl) (by decide) rfl ?_
          refine XS.aload X152.here hx rfl (dB at_348) rfl rfl ?_
          exact Steps.refl _)
        obtain ⟨_, T158, L158, X158, ⟨rfl, Nq158, eq158⟩, st158⟩ := oCV (y := yM52) (z := yM52) X152 cc157 hx hZ84 hown84 hml (dB at_350) e152 Eo w_282 w_283 (notFace_of_selects (args := #[]) (mvT hZ84 w_285)) w_285 w_284 (by decide) [] [] (lenOf own_pd17 rfl) (bO (own_opp1 l Z a0 hw o xt T152.heap n0 Zs21 Fo) hZ84 w_286 w_268)
        have N158 := Fr.app N152 Nq158
        have cc159 : oQ X158 S0' 358 #[sI p1, sI p2, sI p3, sI p4, sI p5, sI 2, sI b0, sI b1, sI b2, sI b3, sI b4, sR x0, sR x1, sR x2, sR sq, sR co, sR q0, sR q1, sR q2, sR a, sR tm, sR o, sI 0, uN, uN] [] := Steps.trans st158 (by
          refine XS.ifYes X158.here hx rfl (pc0 := 353) rfl (dB at_353) rfl (i0_ne_t (by decide)) (by decide) rfl ?_
          exact Steps.refl _)
        have LX := own_LM.of Hx (Nat.le_refl _)
        have fa160 := ((((fa111.up Kj0 (allS ml_a all0)).up Kj1 (allS ml_a (allS ml_t all0))).up K133 all0).up Kq144 (allS ml_tm all0)).up Kq152 all0
        have LO0 := fa160.mono Ms21
        have fa161 := ((((fa112.up Kj0 (allS ml_a all0)).up Kj1 (allS ml_a (allS ml_t all0))).up K133 all0).up Kq144 (allS ml_tm all0)).up Kq152 all0
        have LO1 := fa161.mono Ms21
        have cc162 : oQ X158 S0' 360 #[sI p1, sI p2, sI p3, sI p4, sI p5, sI 2, sI b0, sI b1, sI b2, sI b3, sI b4, sR x0, sR x1, sR x2, sR sq, sR co, sR q0, sR q1, sR q2, sR a, sR tm, sR o, sI 0, uN, uN] [.int 6] := Steps.trans cc159 (by
          refine bipushV X158.here hx rfl 6 (dB at_358) (by decide) ?_
          exact Steps.refl _)
        obtain ⟨T163, h163, k163, X163, e163, E163, A163, st163⟩ := newP X158 hx hZ84 (aty := .char) w_7 eq158 (g := (mkF m 360 #[sI p1, sI p2, sI p3, sI p4, sI p5, sI 2, sI b0, sI b1, sI b2, sI b3, sI b4, sR x0, sR x1, sR x2, sR sq, sR co, sR q0, sR q1, sR q2, sR a, sR tm, sR o, sI 0, uN, uN] [.int 6])) rfl (dB at_360) rfl (by decide) (cap := 6) (by decide) (by decide) (by decide) (by decide)
        obtain ⟨b, g_b⟩ : ∃ z, z = T152.heap.size := ⟨_, rfl⟩
        rw [← g_b] at A163 st163
        have K163 := (Keep.refl T152.heap ([] : List Addr)).ext E163
        have b_b : T152.heap.size ≤ b := (Nat.le_of_eq g_b.symm)
        have gn_b := Nat.le_trans Zs21 b_b
        have s0_b := Nat.le_trans KK21.1 b_b
        have ml_b := Nat.le_trans (Nat.le_refl _) b_b
        have fa164 := (fa136.keep Kq144).keep Kq152
        have ne_a_b := oN fa164.lt b_b
        have fa165 := (fa140.keep Kq144).keep Kq152
        have ne_t_b := oN fa165.lt b_b
        have fa166 := fa151.keep Kq152
        have ne_tm_b := oN fa166.lt b_b
        have fa167 := R1144.keep Kq152
        have ne_y_b := oN fa167.lt b_b
        have ne_o_b := oN Eo.lt b_b
        have D168 := CHr.ext E163 C154.1
        have C169 := C154.trans D168
        have sf_b : Safe Z EL T84.vm h163 b := Safe.ext E163 C154.1 (Safe.new b_b)
        have KK22 := KK21.trans K163 all0
        have Zs22 := Nat.le_trans Zs21 K163.1
        have Ms22 := Nat.le_trans (Nat.le_refl _) K163.1
        have cc171 : oQ X163 S0' 378 #[sI p1, sI p2, sI p3, sI p4, sI p5, sI 2, sI b0, sI b1, sI b2, sI b3, sI b4, sR x0, sR x1, sR x2, sR sq, sR co, sR q0, sR q1, sR q2, sR a, sR tm, sR o, sI 0, sR b, sI 0] [.ref x0, .int 0, .ref b] := Steps.trans (cc162.trans (st163 _ (Steps.refl _))) (by
          refine XS.astore X163.here hx rfl (dB at_362) rfl rfl rfl ?_
          refine iconstV X163.here hx rfl 0 (dB at_364) (by decide) ?_
          refine XS.istore X163.here hx rfl (dB at_365) rfl rfl ?_
          refine XS.iload X163.here hx rfl (dB at_367) rfl ?_
          refine XS.ifNo X163.here hx rfl (dB at_369) rfl (i0_le_f (by decide)) ?_
          refine XS.aload X163.here hx rfl (dB at_372) rfl rfl ?_
          refine XS.iload X163.here hx rfl (dB at_374) rfl ?_
          refine XS.aload X163.here hx rfl (dB at_376) rfl rfl ?_
          exact Steps.refl _)
        have fa170 := (fa147.keep Kq152 all0).keep K163 all0
        have fa172 := LO0.up K163 all0
        obtain ⟨_, T173, L173, X173, ⟨rfl, Nq173, Kq173, Aq173⟩, st173⟩ := oCT (y := yM87) X163 cc171 hx hZ84 hown84 hml (dB at_378) e163 w_440 w_441 w_2 w_442 (by decide) [.ref b, .int 0, .ref x0] [] (lenOf own_pd54 rfl) (bO (own_put l Z a0 hw b k163 ([] : List Int32) x0 cs0 z f h163 n0 Zs22 fa170 O2 P5 O4 hf fa172.1 (Arv.new A163 (by decide)) gn_b (by simp; omega) lc0) hZ84 w_442 w_2)
        have N173 := Fr.app N158 Nq173
        have D174 := CHr.keep Kq173 (sfS sf_b sf0) C169.1
        have C175 := C169.trans D174
        have KK23 := KK22.trans Kq173 (allS (Or.inr s0_b) all0)
        have Zs23 := Nat.le_trans Zs22 Kq173.1
        have Ms23 := Nat.le_trans Ms22 Kq173.1
        have e173 : T173.heap = T173.heap := rfl
        have cc177 : oQ X173 S0' 395 #[sI p1, sI p2, sI p3, sI p4, sI p5, sI 2, sI b0, sI b1, sI b2, sI b3, sI b4, sR x0, sR x1, sR x2, sR sq, sR co, sR q0, sR q1, sR q2, sR a, sR tm, sR o, sI 0, sR b, sI (Int32.ofNat (([] : List Int32) ++ cs0).length)] [.ref x1, .int (Int32.ofNat (([] : List Int32) ++ cs0).length), .ref b] := Steps.trans st173 (by
          refine XS.istore X173.here hx rfl (dB at_381) rfl rfl ?_
          refine XS.iload X173.here hx rfl (dB at_383) rfl ?_
          refine iconstV X173.here hx rfl 1 (dB at_385) (by decide) ?_
          refine XS.icmpNo X173.here hx rfl (dB at_386) rfl (ii_le_f (by decide)) ?_
          refine XS.aload X173.here hx rfl (dB at_389) rfl rfl ?_
          refine XS.iload X173.here hx rfl (dB at_391) rfl ?_
          refine XS.aload X173.here hx rfl (dB at_393) rfl rfl ?_
          exact Steps.refl _)
        have fa176 := fa170.keep Kq173 (allS gn_b all0)
        have fa178 := (LO1.up K163 all0).up Kq173 (allS ml_b all0)
        obtain ⟨_, T179, L179, X179, ⟨rfl, Nq179, Kq179, Aq179⟩, st179⟩ := oCT (y := yM87) X173 cc177 hx hZ84 hown84 hml (dB at_395) e173 w_440 w_441 w_2 w_442 (by decide) [.ref b, .int (Int32.ofNat (([] : List Int32) ++ cs0).length), .ref x1] [] (lenOf own_pd54 rfl) (bO (own_put l Z a0 hw b k163 (([] : List Int32) ++ cs0) x1 cs1 z f T173.heap n0 Zs23 fa176 O2 P5 O4 hf fa178.1 Aq173 gn_b (by simp; omega) lc1) hZ84 w_442 w_2)
        have N179 := Fr.app N173 Nq179
        have sf180 := D174.safe A163.lt sf_b
        have lt181 := Nat.lt_of_lt_of_le A163.lt Kq173.1
        have D182 := CHr.keep Kq179 (sfS sf180 sf0) C175.1
        have C183 := C175.trans D182
        have KK24 := KK23.trans Kq179 (allS (Or.inr s0_b) all0)
        have Zs24 := Nat.le_trans Zs23 Kq179.1
        have Ms24 := Nat.le_trans Ms23 Kq179.1
        have e179 : T179.heap = T179.heap := rfl
        have cc185 : oQ X179 S0' 419 #[sI p1, sI p2, sI p3, sI p4, sI p5, sI 2, sI b0, sI b1, sI b2, sI b3, sI b4, sR x0, sR x1, sR x2, sR sq, sR co, sR q0, sR q1, sR q2, sR a, sR tm, sR o, sI 0, sR b, sI (Int32.ofNat ((([] : List Int32) ++ cs0) ++ cs1).length)] [.ref o] := Steps.trans st179 (by
          refine XS.istore X179.here hx rfl (dB at_398) rfl rfl ?_
          refine XS.iload X179.here hx rfl (dB at_400) rfl ?_
          refine iconstV X179.here hx rfl 2 (dB at_402) (by decide) ?_
          refine XS.icmpYes X179.here hx rfl (pc0 := 403) rfl (dB at_403) rfl (ii_le_t (by decide)) (by decide) rfl ?_
          refine XS.aload X179.here hx rfl (dB at_417) rfl rfl ?_
          exact Steps.refl _)
        have fa184 := ((Fo.keep K163 nin0).keep Kq173 (ninS ne_o_b nin0)).keep Kq179 (ninS ne_o_b nin0)
        have fa186 := ((Eo.keep K163).keep Kq173).keep Kq179
        obtain ⟨_, T187, L187, X187, ⟨rfl, Nq187, eq187⟩, st187⟩ := oCV (y := yM53) (z := yM53) X179 cc185 hx hZ84 hown84 hml (dB at_419) e179 fa186 w_287 w_288 (notFace_of_selects (args := #[]) (mvT hZ84 w_290)) w_290 w_289 (by decide) [] [] (lenOf own_pd40 rfl) (bO (own_opg l Z a0 hw o xt T179.heap n0 Zs24 fa184) hZ84 w_291 w_268)
        have N187 := Fr.app N179 Nq187
        have cc189 : oQ X187 S0' 422 #[sI p1, sI p2, sI p3, sI p4, sI p5, sI 2, sI b0, sI b1, sI b2, sI b3, sI b4, sR x0, sR x1, sR x2, sR sq, sR co, sR q0, sR q1, sR q2, sR a, sR tm, sR o, sI 0, sR b, sI (Int32.ofNat ((([] : List Int32) ++ cs0) ++ cs1).length)] [.ref xt] := st187
        have fa188 := ((LX.up K163 all0).up Kq173 (allS ml_b all0)).up Kq179 (allS ml_b all0)
        obtain ⟨T190, X190, e190, st190⟩ := castY X187 hx hZ84 hown84 w_4 eq187 (Ins.self fa188.1.1) (g := (mkF m 422 #[sI p1, sI p2, sI p3, sI p4, sI p5, sI 2, sI b0, sI b1, sI b2, sI b3, sI b4, sR x0, sR x1, sR x2, sR sq, sR co, sR q0, sR q1, sR q2, sR a, sR tm, sR o, sI 0, sR b, sI (Int32.ofNat ((([] : List Int32) ++ cs0) ++ cs1).length)] [.ref xt])) rfl rfl (dB at_422)
        have cc192 : oQ X190 S0' 429 #[sI p1, sI p2, sI p3, sI p4, sI p5, sI 2, sI b0, sI b1, sI b2, sI b3, sI b4, sR x0, sR x1, sR x2, sR sq, sR co, sR q0, sR q1, sR q2, sR a, sR tm, sR o, sI 0, sR b, sI (Int32.ofNat ((([] : List Int32) ++ cs0) ++ cs1).length)] [.int (Int32.ofNat ((([] : List Int32) ++ cs0) ++ cs1).length), .ref b, .ref xt] := Steps.trans (cc189.trans (st190 _ (Steps.refl _))) (by
          refine XS.aload X190.here hx rfl (dB at_425) rfl rfl ?_
          refine XS.iload X190.here hx rfl (dB at_427) rfl ?_
          exact Steps.refl _)
        have fa191 := fa176.keep Kq179 (allS gn_b all0)
        obtain ⟨_, T193, L193, X193, ⟨rfl, Nq193, eq193⟩, st193⟩ := oCT (y := yM88) X190 cc192 hx hZ84 hown84 hml (dB at_429) e190 w_292 w_293 w_2 w_294 (by decide) [.ref xt, .ref b, .int (Int32.ofNat ((([] : List Int32) ++ cs0) ++ cs1).length)] [] (lenOf own_pd52 rfl) (bO (own_same l Z a0 hw xt b k163 ((([] : List Int32) ++ cs0) ++ cs1) z f T179.heap n0 Zs24 fa191 O2 P5 O4 hf fa188.1 Aq179 (by simp; omega)) hZ84 w_294 w_2)
        have N193 := Fr.app N187 Nq193
        have cc194 : oQ X193 S0' 432 #[sI p1, sI p2, sI p3, sI p4, sI p5, sI 2, sI b0, sI b1, sI b2, sI b3, sI b4, sR x0, sR x1, sR x2, sR sq, sR co, sR q0, sR q1, sR q2, sR a, sR tm, sR o, sI 0, sR b, sI (Int32.ofNat ((([] : List Int32) ++ cs0) ++ cs1).length)] [.int 1] := st193
        have cE := cc194
        rw [hS0'] at cE
        obtain ⟨fs, hr_, hrun, hended, hE⟩ := X193.leaveW hS84 (by rw [eq193]; exact (Nat.le_trans (Nat.le_trans (Nat.le_trans (Nat.le_trans (Nat.le_trans (Nat.le_trans (Nat.le_trans (Nat.le_trans (Nat.le_trans (Nat.le_trans hk84 K95.1) Kq100.1) Kj0.1) Kj1.1) K133.1) Kq144.1) Kq152.1) K163.1) Kq173.1) Kq179.1)) (v := some (.int 1)) (fun h => by rw [Bd.returns] at h; cases h)
        have CE := C183.trans (CHv.at X193 hZ84 hEL C183.1)
        refine ⟨_, _, cE.trans (X193.ireturnOut hx Bd.returns (rfl) (by simp) (dB at_432) hr_), hrun, hended, _, _, rfl, ?_, ?_, hE.1, hE.2.1, hE.2.2.1, hE.2.2.2.mono (by first | decide | omega) (by first | decide | omega)⟩
        · show Q_own_law Z p1 p2 p3 p4 p5 z f dd mr el g0 em oe kd kg0 h0 n0 _ T193.heap _
          rw [eq193]
          exact ⟨rfl, N193⟩
        · rw [hh]
          show CHr Z EL s.vm h0 T193.vm T193.heap
          rw [eq193]
          exact CE
      · skip
        have hA : own_all [] [(if b0 = 0 then some cs0 else none), (if b1 = 0 then some cs1 else none)] = none := by simp [if_pos hq0, if_neg hq1, own_all]
        rw [hA] at Ho
        rcases Ho with ⟨-, Fo⟩ | ⟨ct, xt, hT, -⟩
        rotate_left
        · cases hT
        have cc157 : oQ X152 S0' 336 #[sI p1, sI p2, sI p3, sI p4, sI p5, sI 2, sI b0, sI b1, sI b2, sI b3, sI b4, sR x0, sR x1, sR x2, sR sq, sR co, sR q0, sR q1, sR q2, sR a, sR tm, sR o, sI 1, uN, uN] [.ref o] := Steps.trans cc156 (by
          refine XS.ifYes X152.here hx rfl (pc0 := 308) rfl (dB at_308) rfl (i0_ne_t hq1) (by decide) rfl ?_
          refine iconstV X152.here hx rfl 1 (dB at_322) (by decide) ?_
          refine XS.goto X152.here hx rfl (pc0 := 323) rfl (dB at_323) (by decide) rfl ?_
          refine XS.istore X152.here hx rfl (dB at_327) rfl rfl ?_
          refine XS.iload X152.here hx rfl (dB at_329) rfl ?_
          refine XS.ifNo X152.here hx rfl (dB at_331) rfl (i0_eq_f (by decide)) ?_
          refine XS.aload X152.here hx rfl (dB at_334) rfl rfl ?_
          exact Steps.refl _)
        obtain ⟨_, T158, L158, X158, ⟨rfl, Nq158, eq158⟩, st158⟩ := oCV (y := yM52) (z := yM52) X152 cc157 hx hZ84 hown84 hml (dB at_336) e152 Eo w_282 w_283 (notFace_of_selects (args := #[]) (mvT hZ84 w_285)) w_285 w_284 (by decide) [] [] (lenOf own_pd17 rfl) (bO (own_opp0 l Z a0 hw o T152.heap n0 Zs21 Fo) hZ84 w_286 w_268)
        have N158 := Fr.app N152 Nq158
        have cc159 : oQ X158 S0' 347 #[sI p1, sI p2, sI p3, sI p4, sI p5, sI 2, sI b0, sI b1, sI b2, sI b3, sI b4, sR x0, sR x1, sR x2, sR sq, sR co, sR q0, sR q1, sR q2, sR a, sR tm, sR o, sI 1, uN, uN] [.int 1] := Steps.trans st158 (by
          refine XS.ifNo X158.here hx rfl (dB at_339) rfl (i0_ne_f rfl) ?_
          refine iconstV X158.here hx rfl 1 (dB at_342) (by decide) ?_
          refine XS.goto X158.here hx rfl (pc0 := 343) rfl (dB at_343) (by decide) rfl ?_
          exact Steps.refl _)
        have cE := cc159
        rw [hS0'] at cE
        obtain ⟨fs, hr_, hrun, hended, hE⟩ := X158.leaveW hS84 (by rw [eq158]; exact (Nat.le_trans (Nat.le_trans (Nat.le_trans (Nat.le_trans (Nat.le_trans (Nat.le_trans (Nat.le_trans hk84 K95.1) Kq100.1) Kj0.1) Kj1.1) K133.1) Kq144.1) Kq152.1)) (v := some (.int 1)) (fun h => by rw [Bd.returns] at h; cases h)
        have CE := C154.trans (CHv.at X158 hZ84 hEL C154.1)
        refine ⟨_, _, cE.trans (X158.ireturnOut hx Bd.returns (rfl) (by simp) (dB at_347) hr_), hrun, hended, _, _, rfl, ?_, ?_, hE.1, hE.2.1, hE.2.2.1, hE.2.2.2.mono (by first | decide | omega) (by first | decide | omega)⟩
        · show Q_own_law Z p1 p2 p3 p4 p5 z f dd mr el g0 em oe kd kg0 h0 n0 _ T158.heap _
          rw [eq158]
          exact ⟨rfl, N158⟩
        · rw [hh]
          show CHr Z EL s.vm h0 T158.vm T158.heap
          rw [eq158]
          exact CE
    · skip
      have hA : own_all [] [(if b0 = 0 then some cs0 else none), (if b1 = 0 then some cs1 else none)] = none := by simp [if_neg hq0, own_all]
      rw [hA] at Ho
      rcases Ho with ⟨-, Fo⟩ | ⟨ct, xt, hT, -⟩
      rotate_left
      · cases hT
      have cc156 : oQ X152 S0' 336 #[sI p1, sI p2, sI p3, sI p4, sI p5, sI 2, sI b0, sI b1, sI b2, sI b3, sI b4, sR x0, sR x1, sR x2, sR sq, sR co, sR q0, sR q1, sR q2, sR a, sR tm, sR o, sI 1, uN, uN] [.ref o] := Steps.trans cc155 (by
        refine XS.ifYes X152.here hx rfl (pc0 := 297) rfl (dB at_297) rfl (i0_ne_t hq0) (by decide) rfl ?_
        refine iconstV X152.here hx rfl 1 (dB at_322) (by decide) ?_
        refine XS.goto X152.here hx rfl (pc0 := 323) rfl (dB at_323) (by decide) rfl ?_
        refine XS.istore X152.here hx rfl (dB at_327) rfl rfl ?_
        refine XS.iload X152.here hx rfl (dB at_329) rfl ?_
        refine XS.ifNo X152.here hx rfl (dB at_331) rfl (i0_eq_f (by decide)) ?_
        refine XS.aload X152.here hx rfl (dB at_334) rfl rfl ?_
        exact Steps.refl _)
      obtain ⟨_, T157, L157, X157, ⟨rfl, Nq157, eq157⟩, st157⟩ := oCV (y := yM52) (z := yM52) X152 cc156 hx hZ84 hown84 hml (dB at_336) e152 Eo w_282 w_283 (notFace_of_selects (args := #[]) (mvT hZ84 w_285)) w_285 w_284 (by decide) [] [] (lenOf own_pd17 rfl) (bO (own_opp0 l Z a0 hw o T152.heap n0 Zs21 Fo) hZ84 w_286 w_268)
      have N157 := Fr.app N152 Nq157
      have cc158 : oQ X157 S0' 347 #[sI p1, sI p2, sI p3, sI p4, sI p5, sI 2, sI b0, sI b1, sI b2, sI b3, sI b4, sR x0, sR x1, sR x2, sR sq, sR co, sR q0, sR q1, sR q2, sR a, sR tm, sR o, sI 1, uN, uN] [.int 1] := Steps.trans st157 (by
        refine XS.ifNo X157.here hx rfl (dB at_339) rfl (i0_ne_f rfl) ?_
        refine iconstV X157.here hx rfl 1 (dB at_342) (by decide) ?_
        refine XS.goto X157.here hx rfl (pc0 := 343) rfl (dB at_343) (by decide) rfl ?_
        exact Steps.refl _)
      have cE := cc158
      rw [hS0'] at cE
      obtain ⟨fs, hr_, hrun, hended, hE⟩ := X157.leaveW hS84 (by rw [eq157]; exact (Nat.le_trans (Nat.le_trans (Nat.le_trans (Nat.le_trans (Nat.le_trans (Nat.le_trans (Nat.le_trans hk84 K95.1) Kq100.1) Kj0.1) Kj1.1) K133.1) Kq144.1) Kq152.1)) (v := some (.int 1)) (fun h => by rw [Bd.returns] at h; cases h)
      have CE := C154.trans (CHv.at X157 hZ84 hEL C154.1)
      refine ⟨_, _, cE.trans (X157.ireturnOut hx Bd.returns (rfl) (by simp) (dB at_347) hr_), hrun, hended, _, _, rfl, ?_, ?_, hE.1, hE.2.1, hE.2.2.1, hE.2.2.2.mono (by first | decide | omega) (by first | decide | omega)⟩
      · show Q_own_law Z p1 p2 p3 p4 p5 z f dd mr el g0 em oe kd kg0 h0 n0 _ T157.heap _
        rw [eq157]
        exact ⟨rfl, N157⟩
      · rw [hh]
        show CHr Z EL s.vm h0 T157.vm T157.heap
        rw [eq157]
        exact CE
  · skip
    have cz114 : oQ X100 S0' 179 #[sI p1, sI p2, sI p3, sI p4, sI p5, sI 3, sI b0, sI b1, sI b2, sI b3, sI b4, sR x0, sR x1, sR x2, sR sq, sR co, sR q0, sR q1, sR q2, sR a, uN, uN, uN, uN, uN] [] := cc107
    have cc115 : oQ X100 S0' 186 #[sI p1, sI p2, sI p3, sI p4, sI p5, sI 3, sI b0, sI b1, sI b2, sI b3, sI b4, sR x0, sR x1, sR x2, sR sq, sR co, sR q0, sR q1, sR q2, sR a, uN, uN, uN, uN, uN] [.int b0] := Steps.trans cz114 (by
      refine XS.iload X100.here hx rfl (dB at_179) rfl ?_
      refine XS.ifNo X100.here hx rfl (dB at_181) rfl (i0_le_f (by decide)) ?_
      refine XS.iload X100.here hx rfl (dB at_184) rfl ?_
      exact Steps.refl _)
    obtain ⟨u0, Tj0, Lj0, t, kt, gu0, Pj0, Xj0, Nj0, Kj0, sj0, G1j0, G2j0, G3j0, Ot, Etj0, Atj0, Cj0, cj0⟩ : ∃ (u0 : Addr) (Tj0 : State) (Lj0 : List Loc) (t : Addr) (kt : ClassId) , n0 ≤ u0 ∧ own_P Z Tj0.heap m4 u0 (if b0 = 0 then some cs0 else none) ∧ Stand p l e room_1 (s.setVm T84.vm) m #[(.int p1), (.int p2), (.int p3), (.int p4), (.int p5)] below meth c Tj0 Lj0 35 168 ∧ Fr n0 Lj0 ∧ Keep T100.heap Tj0.heap [a] ∧ T100.heap.size ≤ t ∧ zF2 Z Tj0.heap a (.int (0 + 1)) ∧ zF0 Z Tj0.heap a (.int (1 : Int32)) ∧ zF1 Z Tj0.heap a (.ref t) ∧ Ovr Z kt "java/lang/Object" ∧ zE0 Z Tj0.heap t ∧ Arv Z Tj0.heap t kt (.object "java/lang/Object") (10 : Int32) [(.ref u0)] .null ∧ CHr Z EL s.vm h0 T84.vm Tj0.heap ∧ Steps p.tables e below S0' (Tj0.setTop (mkF m 208 #[sI p1, sI p2, sI p3, sI p4, sI p5, sI 3, sI b0, sI b1, sI b2, sI b3, sI b4, sR x0, sR x1, sR x2, sR sq, sR co, sR q0, sR q1, sR q2, sR a, uN, uN, uN, uN, uN] [])) := by
      by_cases hq : b0 = 0
      · skip
        have cc116 : oQ X100 S0' 204 #[sI p1, sI p2, sI p3, sI p4, sI p5, sI 3, sI b0, sI b1, sI b2, sI b3, sI b4, sR x0, sR x1, sR x2, sR sq, sR co, sR q0, sR q1, sR q2, sR a, uN, uN, uN, uN, uN] [.ref q0, .ref a] := Steps.trans cc115 (by
          refine XS.ifYes X100.here hx rfl (pc0 := 186) rfl (dB at_186) rfl (i0_eq_t hq) (by decide) rfl ?_
          refine XS.aload X100.here hx rfl (dB at_200) rfl rfl ?_
          refine XS.aload X100.here hx rfl (dB at_202) rfl rfl ?_
          exact Steps.refl _)
        obtain ⟨_, T117, L117, X117, ⟨t, kt, rfl, Nq117, Kq117, sq117, G1117, G2117, G3117, Ot117, Et117, At117⟩, st117⟩ := oCV (y := yM20) (z := yM20) X100 cc116 hx hZ84 hown84 hml (dB at_204) e100 fa103 w_305 w_306 (notFace_of_selects (args := #[]) (mvT hZ84 w_308)) w_308 w_307 (by decide) [.ref q0] [] (lenOf own_pd53 rfl) (bO (own_add1 l Z a0 hw a dd kd 0 m4 q0 (some cs0) T100.heap n0 Zs16 fa105 fa103 G1100 G2100 G3100 gn_a OD (Ad.ext fa105.2) fa108 Ms16 ml_a ne_a_dd) hZ84 w_309 w_84)
        have N117 := Fr.app N100 Nq117
        have D118 := CHr.keep Kq117 (sfS (Safe.exa (hZ84).alike fa103 (by decide) (by decide)) sf0) C102.1
        have C119 := C102.trans D118
        have KK17 := KK16.trans Kq117 (allS (Or.inr s0_a) all0)
        have Zs17 := Nat.le_trans Zs16 Kq117.1
        have Ms17 := Nat.le_trans Ms16 Kq117.1
        have e117 : T117.heap = T117.heap := rfl
        have cc120 : oQ X117 S0' 208 #[sI p1, sI p2, sI p3, sI p4, sI p5, sI 3, sI b0, sI b1, sI b2, sI b3, sI b4, sR x0, sR x1, sR x2, sR sq, sR co, sR q0, sR q1, sR q2, sR a, uN, uN, uN, uN, uN] [] := Steps.trans st117 (by
          refine XT.pop X117.here hx rfl (dB at_207) rfl rfl ?_
          exact Steps.refl _)
        exact ⟨q0, T117, _, t, kt, gn_q0, by rw [if_pos hq]; exact (fa108.up Kq117 (allS ml_a all0)), X117, N117, Kq117, sq117, G1117, G2117, G3117, Ot117, Et117, At117, C119, cc120⟩
      · skip
        have cc116 : oQ X100 S0' 193 #[sI p1, sI p2, sI p3, sI p4, sI p5, sI 3, sI b0, sI b1, sI b2, sI b3, sI b4, sR x0, sR x1, sR x2, sR sq, sR co, sR q0, sR q1, sR q2, sR a, uN, uN, uN, uN, uN] [.ref co, .ref a] := Steps.trans cc115 (by
          refine XS.ifNo X100.here hx rfl (dB at_186) rfl (i0_eq_f hq) ?_
          refine XS.aload X100.here hx rfl (dB at_189) rfl rfl ?_
          refine XS.aload X100.here hx rfl (dB at_191) rfl rfl ?_
          exact Steps.refl _)
        obtain ⟨_, T117, L117, X117, ⟨t, kt, rfl, Nq117, Kq117, sq117, G1117, G2117, G3117, Ot117, Et117, At117⟩, st117⟩ := oCV (y := yM20) (z := yM20) X100 cc116 hx hZ84 hown84 hml (dB at_193) e100 fa103 w_305 w_306 (notFace_of_selects (args := #[]) (mvT hZ84 w_308)) w_308 w_307 (by decide) [.ref co] [] (lenOf own_pd53 rfl) (bO (own_add1 l Z a0 hw a dd kd 0 m4 co none T100.heap n0 Zs16 fa105 fa103 G1100 G2100 G3100 gn_a OD (Ad.ext fa105.2) fa106 Ms16 ml_a ne_a_dd) hZ84 w_309 w_84)
        have N117 := Fr.app N100 Nq117
        have D118 := CHr.keep Kq117 (sfS (Safe.exa (hZ84).alike fa103 (by decide) (by decide)) sf0) C102.1
        have C119 := C102.trans D118
        have KK17 := KK16.trans Kq117 (allS (Or.inr s0_a) all0)
        have Zs17 := Nat.le_trans Zs16 Kq117.1
        have Ms17 := Nat.le_trans Ms16 Kq117.1
        have e117 : T117.heap = T117.heap := rfl
        have cc120 : oQ X117 S0' 208 #[sI p1, sI p2, sI p3, sI p4, sI p5, sI 3, sI b0, sI b1, sI b2, sI b3, sI b4, sR x0, sR x1, sR x2, sR sq, sR co, sR q0, sR q1, sR q2, sR a, uN, uN, uN, uN, uN] [] := Steps.trans st117 (by
          refine XT.pop X117.here hx rfl (dB at_196) rfl rfl ?_
          refine XS.goto X117.here hx rfl (pc0 := 197) rfl (dB at_197) (by decide) rfl ?_
          exact Steps.refl _)
        exact ⟨co, T117, _, t, kt, gn_co, by rw [if_neg hq]; exact (fa106.up Kq117 (allS ml_a all0)), X117, N117, Kq117, sq117, G1117, G2117, G3117, Ot117, Et117, At117, C119, cc120⟩
    have b_t : T100.heap.size ≤ t := sj0
    have gn_t := Nat.le_trans Zs16 b_t
    have s0_t := Nat.le_trans KK16.1 b_t
    have ml_t := Nat.le_trans Ms16 b_t
    have ne_a_t := oN fa103.lt b_t
    have KK17 := KK16.trans Kj0 (allS (Or.inr s0_a) all0)
    have Zs17 := Nat.le_trans Zs16 Kj0.1
    have Ms17 := Nat.le_trans Ms16 Kj0.1
    have ej0 : Tj0.heap = Tj0.heap := rfl
    have fa121 := fa103.keep Kj0
    have cc122 : oQ Xj0 S0' 216 #[sI p1, sI p2, sI p3, sI p4, sI p5, sI 3, sI b0, sI b1, sI b2, sI b3, sI b4, sR x0, sR x1, sR x2, sR sq, sR co, sR q0, sR q1, sR q2, sR a, uN, uN, uN, uN, uN] [.int b1] := Steps.trans cj0 (by
      refine XS.iload Xj0.here hx rfl (dB at_208) rfl ?_
      refine iconstV Xj0.here hx rfl 1 (dB at_210) (by decide) ?_
      refine XS.icmpNo Xj0.here hx rfl (dB at_211) rfl (ii_le_f (by decide)) ?_
      refine XS.iload Xj0.here hx rfl (dB at_214) rfl ?_
      exact Steps.refl _)
    have fa123 := fa106.up Kj0 (allS ml_a all0)
    have fa124 := fa109.up Kj0 (allS ml_a all0)
    have fa125 := fa105.keep Kj0 (allS gn_a all0)
    obtain ⟨u1, Tj1, Lj1, gu1, Pj1, Xj1, Nj1, Kj1, G1j1, G2j1, G3j1, Etj1, Atj1, Cj1, cj1⟩ : ∃ (u1 : Addr) (Tj1 : State) (Lj1 : List Loc) , n0 ≤ u1 ∧ own_P Z Tj1.heap m4 u1 (if b1 = 0 then some cs1 else none) ∧ Stand p l e room_1 (s.setVm T84.vm) m #[(.int p1), (.int p2), (.int p3), (.int p4), (.int p5)] below meth c Tj1 Lj1 35 168 ∧ Fr n0 Lj1 ∧ Keep Tj0.heap Tj1.heap [a, t] ∧ zF2 Z Tj1.heap a (.int (0 + 1 + 1)) ∧ zF0 Z Tj1.heap a (.int (2 : Int32)) ∧ zF1 Z Tj1.heap a (.ref t) ∧ zE0 Z Tj1.heap t ∧ Arv Z Tj1.heap t kt (.object "java/lang/Object") (10 : Int32) [(.ref u0), (.ref u1)] .null ∧ CHr Z EL s.vm h0 T84.vm Tj1.heap ∧ Steps p.tables e below S0' (Tj1.setTop (mkF m 238 #[sI p1, sI p2, sI p3, sI p4, sI p5, sI 3, sI b0, sI b1, sI b2, sI b3, sI b4, sR x0, sR x1, sR x2, sR sq, sR co, sR q0, sR q1, sR q2, sR a, uN, uN, uN, uN, uN] [])) := by
      by_cases hq : b1 = 0
      · skip
        have cc126 : oQ Xj0 S0' 234 #[sI p1, sI p2, sI p3, sI p4, sI p5, sI 3, sI b0, sI b1, sI b2, sI b3, sI b4, sR x0, sR x1, sR x2, sR sq, sR co, sR q0, sR q1, sR q2, sR a, uN, uN, uN, uN, uN] [.ref q1, .ref a] := Steps.trans cc122 (by
          refine XS.ifYes Xj0.here hx rfl (pc0 := 216) rfl (dB at_216) rfl (i0_eq_t hq) (by decide) rfl ?_
          refine XS.aload Xj0.here hx rfl (dB at_230) rfl rfl ?_
          refine XS.aload Xj0.here hx rfl (dB at_232) rfl rfl ?_
          exact Steps.refl _)
        obtain ⟨_, T127, L127, X127, ⟨rfl, Nq127, Kq127, G1127, G2127, G3127, Et127, At127⟩, st127⟩ := oCV (y := yM20) (z := yM20) Xj0 cc126 hx hZ84 hown84 hml (dB at_234) ej0 fa121 w_305 w_306 (notFace_of_selects (args := #[]) (mvT hZ84 w_308)) w_308 w_307 (by decide) [.ref q1] [] (lenOf own_pd53 rfl) (bO (own_add2 l Z a0 hw a t kt (0 + 1) m4 u0 (if b0 = 0 then some cs0 else none) q1 (some cs1) Tj0.heap n0 Zs17 fa121 G1j0 G2j0 G3j0 gn_a Etj0 Atj0 Ot gn_t ne_a_t fa124 Ms17 ml_a ml_t) hZ84 w_309 w_84)
        have N127 := Fr.app Nj0 Nq127
        have D128 := CHr.keep Kq127 (sfS (Safe.exa (hZ84).alike fa121 (by decide) (by decide)) (sfS (Safe.exa (hZ84).alike Etj0 (by decide) (by decide)) sf0)) Cj0.1
        have C129 := Cj0.trans D128
        have KK18 := KK17.trans Kq127 (allS (Or.inr s0_a) (allS (Or.inr s0_t) all0))
        have Zs18 := Nat.le_trans Zs17 Kq127.1
        have Ms18 := Nat.le_trans Ms17 Kq127.1
        have e127 : T127.heap = T127.heap := rfl
        have cc130 : oQ X127 S0' 238 #[sI p1, sI p2, sI p3, sI p4, sI p5, sI 3, sI b0, sI b1, sI b2, sI b3, sI b4, sR x0, sR x1, sR x2, sR sq, sR co, sR q0, sR q1, sR q2, sR a, uN, uN, uN, uN, uN] [] := Steps.trans st127 (by
          refine XT.pop X127.here hx rfl (dB at_237) rfl rfl ?_
          exact Steps.refl _)
        exact ⟨q1, T127, _, gn_q1, by rw [if_pos hq]; exact (fa124.up Kq127 (allS ml_a (allS ml_t all0))), X127, N127, Kq127, G1127, G2127, G3127, Et127, At127, C129, cc130⟩
      · skip
        have cc126 : oQ Xj0 S0' 223 #[sI p1, sI p2, sI p3, sI p4, sI p5, sI 3, sI b0, sI b1, sI b2, sI b3, sI b4, sR x0, sR x1, sR x2, sR sq, sR co, sR q0, sR q1, sR q2, sR a, uN, uN, uN, uN, uN] [.ref co, .ref a] := Steps.trans cc122 (by
          refine XS.ifNo Xj0.here hx rfl (dB at_216) rfl (i0_eq_f hq) ?_
          refine XS.aload Xj0.here hx rfl (dB at_219) rfl rfl ?_
          refine XS.aload Xj0.here hx rfl (dB at_221) rfl rfl ?_
          exact Steps.refl _)
        obtain ⟨_, T127, L127, X127, ⟨rfl, Nq127, Kq127, G1127, G2127, G3127, Et127, At127⟩, st127⟩ := oCV (y := yM20) (z := yM20) Xj0 cc126 hx hZ84 hown84 hml (dB at_223) ej0 fa121 w_305 w_306 (notFace_of_selects (args := #[]) (mvT hZ84 w_308)) w_308 w_307 (by decide) [.ref co] [] (lenOf own_pd53 rfl) (bO (own_add2 l Z a0 hw a t kt (0 + 1) m4 u0 (if b0 = 0 then some cs0 else none) co none Tj0.heap n0 Zs17 fa121 G1j0 G2j0 G3j0 gn_a Etj0 Atj0 Ot gn_t ne_a_t fa123 Ms17 ml_a ml_t) hZ84 w_309 w_84)
        have N127 := Fr.app Nj0 Nq127
        have D128 := CHr.keep Kq127 (sfS (Safe.exa (hZ84).alike fa121 (by decide) (by decide)) (sfS (Safe.exa (hZ84).alike Etj0 (by decide) (by decide)) sf0)) Cj0.1
        have C129 := Cj0.trans D128
        have KK18 := KK17.trans Kq127 (allS (Or.inr s0_a) (allS (Or.inr s0_t) all0))
        have Zs18 := Nat.le_trans Zs17 Kq127.1
        have Ms18 := Nat.le_trans Ms17 Kq127.1
        have e127 : T127.heap = T127.heap := rfl
        have cc130 : oQ X127 S0' 238 #[sI p1, sI p2, sI p3, sI p4, sI p5, sI 3, sI b0, sI b1, sI b2, sI b3, sI b4, sR x0, sR x1, sR x2, sR sq, sR co, sR q0, sR q1, sR q2, sR a, uN, uN, uN, uN, uN] [] := Steps.trans st127 (by
          refine XT.pop X127.here hx rfl (dB at_226) rfl rfl ?_
          refine XS.goto X127.here hx rfl (pc0 := 227) rfl (dB at_227) (by decide) rfl ?_
          exact Steps.refl _)
        exact ⟨co, T127, _, gn_co, by rw [if_neg hq]; exact (fa123.up Kq127 (allS ml_a (allS ml_t all0))), X127, N127, Kq127, G1127, G2127, G3127, Et127, At127, C129, cc130⟩
    have KK18 := KK17.trans Kj1 (allS (Or.inr s0_a) (allS (Or.inr s0_t) all0))
    have Zs18 := Nat.le_trans Zs17 Kj1.1
    have Ms18 := Nat.le_trans Ms17 Kj1.1
    have ej1 : Tj1.heap = Tj1.heap := rfl
    have fa131 := fa121.keep Kj1
    have cc132 : oQ Xj1 S0' 246 #[sI p1, sI p2, sI p3, sI p4, sI p5, sI 3, sI b0, sI b1, sI b2, sI b3, sI b4, sR x0, sR x1, sR x2, sR sq, sR co, sR q0, sR q1, sR q2, sR a, uN, uN, uN, uN, uN] [.int b2] := Steps.trans cj1 (by
      refine XS.iload Xj1.here hx rfl (dB at_238) rfl ?_
      refine iconstV Xj1.here hx rfl 2 (dB at_240) (by decide) ?_
      refine XS.icmpNo Xj1.here hx rfl (dB at_241) rfl (ii_le_f (by decide)) ?_
      refine XS.iload Xj1.here hx rfl (dB at_244) rfl ?_
      exact Steps.refl _)
    have fa133 := fa123.up Kj1 (allS ml_a (allS ml_t all0))
    have fa134 := (fa110.up Kj0 (allS ml_a all0)).up Kj1 (allS ml_a (allS ml_t all0))
    have fa135 := fa125.keep Kj1 (allS gn_a (allS gn_t all0))
    obtain ⟨u2, Tj2, Lj2, gu2, Pj2, Xj2, Nj2, Kj2, G1j2, G2j2, G3j2, Etj2, Atj2, Cj2, cj2⟩ : ∃ (u2 : Addr) (Tj2 : State) (Lj2 : List Loc) , n0 ≤ u2 ∧ own_P Z Tj2.heap m4 u2 (if b2 = 0 then some cs2 else none) ∧ Stand p l e room_1 (s.setVm T84.vm) m #[(.int p1), (.int p2), (.int p3), (.int p4), (.int p5)] below meth c Tj2 Lj2 35 168 ∧ Fr n0 Lj2 ∧ Keep Tj1.heap Tj2.heap [a, t] ∧ zF2 Z Tj2.heap a (.int (0 + 1 + 1 + 1)) ∧ zF0 Z Tj2.heap a (.int (3 : Int32)) ∧ zF1 Z Tj2.heap a (.ref t) ∧ zE0 Z Tj2.heap t ∧ Arv Z Tj2.heap t kt (.object "java/lang/Object") (10 : Int32) [(.ref u0), (.ref u1), (.ref u2)] .null ∧ CHr Z EL s.vm h0 T84.vm Tj2.heap ∧ Steps p.tables e below S0' (Tj2.setTop (mkF m 268 #[sI p1, sI p2, sI p3, sI p4, sI p5, sI 3, sI b0, sI b1, sI b2, sI b3, sI b4, sR x0, sR x1, sR x2, sR sq, sR co, sR q0, sR q1, sR q2, sR a, uN, uN, uN, uN, uN] [])) := by
      by_cases hq : b2 = 0
      · skip
        have cc136 : oQ Xj1 S0' 264 #[sI p1, sI p2, sI p3, sI p4, sI p5, sI 3, sI b0, sI b1, sI b2, sI b3, sI b4, sR x0, sR x1, sR x2, sR sq, sR co, sR q0, sR q1, sR q2, sR a, uN, uN, uN, uN, uN] [.ref q2, .ref a] := Steps.trans cc132 (by
          refine XS.ifYes Xj1.here hx rfl (pc0 := 246) rfl (dB at_246) rfl (i0_eq_t hq) (by decide) rfl ?_
          refine XS.aload Xj1.here hx rfl (dB at_260) rfl rfl ?_
          refine XS.aload Xj1.here hx rfl (dB at_262) rfl rfl ?_
          exact Steps.refl _)
        obtain ⟨_, T137, L137, X137, ⟨rfl, Nq137, Kq137, G1137, G2137, G3137, Et137, At137⟩, st137⟩ := oCV (y := yM20) (z := yM20) Xj1 cc136 hx hZ84 hown84 hml (dB at_264) ej1 fa131 w_305 w_306 (notFace_of_selects (args := #[]) (mvT hZ84 w_308)) w_308 w_307 (by decide) [.ref q2] [] (lenOf own_pd53 rfl) (bO (own_add3 l Z a0 hw a t kt (0 + 1 + 1) m4 u0 (if b0 = 0 then some cs0 else none) u1 (if b1 = 0 then some cs1 else none) q2 (some cs2) Tj1.heap n0 Zs18 fa131 G1j1 G2j1 G3j1 gn_a Etj1 Atj1 Ot gn_t ne_a_t fa134 Ms18 ml_a ml_t) hZ84 w_309 w_84)
        have N137 := Fr.app Nj1 Nq137
        have D138 := CHr.keep Kq137 (sfS (Safe.exa (hZ84).alike fa131 (by decide) (by decide)) (sfS (Safe.exa (hZ84).alike Etj1 (by decide) (by decide)) sf0)) Cj1.1
        have C139 := Cj1.trans D138
        have KK19 := KK18.trans Kq137 (allS (Or.inr s0_a) (allS (Or.inr s0_t) all0))
        have Zs19 := Nat.le_trans Zs18 Kq137.1
        have Ms19 := Nat.le_trans Ms18 Kq137.1
        have e137 : T137.heap = T137.heap := rfl
        have cc140 : oQ X137 S0' 268 #[sI p1, sI p2, sI p3, sI p4, sI p5, sI 3, sI b0, sI b1, sI b2, sI b3, sI b4, sR x0, sR x1, sR x2, sR sq, sR co, sR q0, sR q1, sR q2, sR a, uN, uN, uN, uN, uN] [] := Steps.trans st137 (by
          refine XT.pop X137.here hx rfl (dB at_267) rfl rfl ?_
          exact Steps.refl _)
        exact ⟨q2, T137, _, gn_q2, by rw [if_pos hq]; exact (fa134.up Kq137 (allS ml_a (allS ml_t all0))), X137, N137, Kq137, G1137, G2137, G3137, Et137, At137, C139, cc140⟩
      · skip
        have cc136 : oQ Xj1 S0' 253 #[sI p1, sI p2, sI p3, sI p4, sI p5, sI 3, sI b0, sI b1, sI b2, sI b3, sI b4, sR x0, sR x1, sR x2, sR sq, sR co, sR q0, sR q1, sR q2, sR a, uN, uN, uN, uN, uN] [.ref co, .ref a] := Steps.trans cc132 (by
          refine XS.ifNo Xj1.here hx rfl (dB at_246) rfl (i0_eq_f hq) ?_
          refine XS.aload Xj1.here hx rfl (dB at_249) rfl rfl ?_
          refine XS.aload Xj1.here hx rfl (dB at_251) rfl rfl ?_
          exact Steps.refl _)
        obtain ⟨_, T137, L137, X137, ⟨rfl, Nq137, Kq137, G1137, G2137, G3137, Et137, At137⟩, st137⟩ := oCV (y := yM20) (z := yM20) Xj1 cc136 hx hZ84 hown84 hml (dB at_253) ej1 fa131 w_305 w_306 (notFace_of_selects (args := #[]) (mvT hZ84 w_308)) w_308 w_307 (by decide) [.ref co] [] (lenOf own_pd53 rfl) (bO (own_add3 l Z a0 hw a t kt (0 + 1 + 1) m4 u0 (if b0 = 0 then some cs0 else none) u1 (if b1 = 0 then some cs1 else none) co none Tj1.heap n0 Zs18 fa131 G1j1 G2j1 G3j1 gn_a Etj1 Atj1 Ot gn_t ne_a_t fa133 Ms18 ml_a ml_t) hZ84 w_309 w_84)
        have N137 := Fr.app Nj1 Nq137
        have D138 := CHr.keep Kq137 (sfS (Safe.exa (hZ84).alike fa131 (by decide) (by decide)) (sfS (Safe.exa (hZ84).alike Etj1 (by decide) (by decide)) sf0)) Cj1.1
        have C139 := Cj1.trans D138
        have KK19 := KK18.trans Kq137 (allS (Or.inr s0_a) (allS (Or.inr s0_t) all0))
        have Zs19 := Nat.le_trans Zs18 Kq137.1
        have Ms19 := Nat.le_trans Ms18 Kq137.1
        have e137 : T137.heap = T137.heap := rfl
        have cc140 : oQ X137 S0' 268 #[sI p1, sI p2, sI p3, sI p4, sI p5, sI 3, sI b0, sI b1, sI b2, sI b3, sI b4, sR x0, sR x1, sR x2, sR sq, sR co, sR q0, sR q1, sR q2, sR a, uN, uN, uN, uN, uN] [] := Steps.trans st137 (by
          refine XT.pop X137.here hx rfl (dB at_256) rfl rfl ?_
          refine XS.goto X137.here hx rfl (pc0 := 257) rfl (dB at_257) (by decide) rfl ?_
          exact Steps.refl _)
        exact ⟨co, T137, _, gn_co, by rw [if_neg hq]; exact (fa133.up Kq137 (allS ml_a (allS ml_t all0))), X137, N137, Kq137, G1137, G2137, G3137, Et137, At137, C139, cc140⟩
    have KK19 := KK18.trans Kj2 (allS (Or.inr s0_a) (allS (Or.inr s0_t) all0))
    have Zs19 := Nat.le_trans Zs18 Kj2.1
    have Ms19 := Nat.le_trans Ms18 Kj2.1
    have ej2 : Tj2.heap = Tj2.heap := rfl
    have fa141 := fa131.keep Kj2
    obtain ⟨T142, h142, X142, e142, E142, A142, D142, -, st142⟩ := newO Xj2 hx hZ84 hown84 w_106 w_107 w_108 ej2 (g := (mkF m 268 #[sI p1, sI p2, sI p3, sI p4, sI p5, sI 3, sI b0, sI b1, sI b2, sI b3, sI b4, sR x0, sR x1, sR x2, sR sq, sR co, sR q0, sR q1, sR q2, sR a, uN, uN, uN, uN, uN] [])) rfl (dB at_268) (by decide) (by decide)
    obtain ⟨tm, g_tm⟩ : ∃ z, z = Tj2.heap.size := ⟨_, rfl⟩
    rw [← g_tm] at A142 D142 st142
    have K142 := (Keep.refl Tj2.heap ([] : List Addr)).ext E142
    have b_tm : Tj2.heap.size ≤ tm := (Nat.le_of_eq g_tm.symm)
    have gn_tm := Nat.le_trans Zs19 b_tm
    have s0_tm := Nat.le_trans KK19.1 b_tm
    have ml_tm := Nat.le_trans Ms19 b_tm
    have ne_a_tm := oN fa141.lt b_tm
    have ne_t_tm := oN Etj2.lt b_tm
    have D143 := CHr.ext E142 Cj2.1
    have C144 := Cj2.trans D143
    have sf_tm : Safe Z EL T84.vm h142 tm := Safe.ext E142 Cj2.1 (Safe.new b_tm)
    have KK20 := KK19.trans K142 all0
    have Zs20 := Nat.le_trans Zs19 K142.1
    have Ms20 := Nat.le_trans Ms19 K142.1
    have F_parts_tm : zF14 Z h142 tm .null := D142 (Or.inr w_143) (ty := (.object "java/util/List")) (by decide)
    have F_iri_tm : zF16 Z h142 tm (.int (0 : Int32)) := D142 (Or.inr w_145) (ty := .boolean) (by decide)
    have F_iriSafe_tm : zF17 Z h142 tm (.int (0 : Int32)) := D142 (Or.inr w_147) (ty := .boolean) (by decide)
    have cc146 : oQ X142 S0' 278 #[sI p1, sI p2, sI p3, sI p4, sI p5, sI 3, sI b0, sI b1, sI b2, sI b3, sI b4, sR x0, sR x1, sR x2, sR sq, sR co, sR q0, sR q1, sR q2, sR a, uN, uN, uN, uN, uN] [.int b4, .int b3, .ref a, .ref tm, .ref tm] := Steps.trans (cj2.trans (st142 _ (Steps.refl _))) (by
      refine XS.dup X142.here hx rfl (dB at_271) rfl rfl ?_
      refine XS.aload X142.here hx rfl (dB at_272) rfl rfl ?_
      refine XS.iload X142.here hx rfl (dB at_274) rfl ?_
      refine XS.iload X142.here hx rfl (dB at_276) rfl ?_
      exact Steps.refl _)
    have fa145 := fa141.keep K142
    have fa147 := G2j2.keep K142 nin0
    have fa148 := G3j2.keep K142 nin0
    have fa149 := Etj2.keep K142
    have fa150 := Atj2.keep K142 nin0
    have fa151 := ((Pj0.up Kj1 (allS ml_a (allS ml_t all0))).up Kj2 (allS ml_a (allS ml_t all0))).up K142 all0
    have fa152 := (Pj1.up Kj2 (allS ml_a (allS ml_t all0))).up K142 all0
    have fa153 := Pj2.up K142 all0
    obtain ⟨_, T154, L154, X154, ⟨y, g, kg, rfl, Nq154, Kq154, sy154, sg154, R1154, R2154, R3154, Fp⟩, st154⟩ := oCN (y := yM38) X142 cc146 hx hZ84 hown84 hml (dB at_278) e142 tm rfl w_109 w_110 w_111 (by decide) [.ref a, .int b3, .int b4] [.ref tm] (lenOf own_pd51 rfl) (bO (own_tmi3 l Z a0 hw tm b3 b4 a t mr kt m4 u0 (if b0 = 0 then some cs0 else none) u1 (if b1 = 0 then some cs1 else none) u2 (if b2 = 0 then some cs2 else none) h142 n0 Zs20 A142 F_parts_tm F_iri_tm F_iriSafe_tm gn_tm zb3 zb4 fa145 fa147 fa148 fa149 fa150 MM fa151 fa152 fa153 Ms20) hZ84 w_111 w_108)
    have N154 := Fr.app Nj2 Nq154
    have b_y : h142.size ≤ y := sy154
    have gn_y := Nat.le_trans Zs20 b_y
    have s0_y := Nat.le_trans KK20.1 b_y
    have ml_y := Nat.le_trans Ms20 b_y
    have ne_a_y := oN fa145.lt b_y
    have ne_t_y := oN fa149.lt b_y
    have ne_tm_y := oN A142.lt b_y
    have b_g : h142.size ≤ g := sg154
    have gn_g := Nat.le_trans Zs20 b_g
    have s0_g := Nat.le_trans KK20.1 b_g
    have ml_g := Nat.le_trans Ms20 b_g
    have ne_a_g := oN fa145.lt b_g
    have ne_t_g := oN fa149.lt b_g
    have ne_tm_g := oN A142.lt b_g
    have D155 := CHr.keep Kq154 (sfS sf_tm sf0) C144.1
    have C156 := C144.trans D155
    have sf_y := Safe.keep Kq154 (sfS sf_tm sf0) C144.1 (Safe.new b_y)
    have sf_g := Safe.keep Kq154 (sfS sf_tm sf0) C144.1 (Safe.new b_g)
    have KK21 := KK20.trans Kq154 (allS (Or.inr s0_tm) all0)
    have Zs21 := Nat.le_trans Zs20 Kq154.1
    have Ms21 := Nat.le_trans Ms20 Kq154.1
    have e154 : T154.heap = T154.heap := rfl
    have cc158 : oQ X154 S0' 285 #[sI p1, sI p2, sI p3, sI p4, sI p5, sI 3, sI b0, sI b1, sI b2, sI b3, sI b4, sR x0, sR x1, sR x2, sR sq, sR co, sR q0, sR q1, sR q2, sR a, sR tm, uN, uN, uN, uN] [.ref tm] := Steps.trans st154 (by
      refine XS.astore X154.here hx rfl (dB at_281) rfl rfl rfl ?_
      refine XS.aload X154.here hx rfl (dB at_283) rfl rfl ?_
      exact Steps.refl _)
    have fa157 := ((fa135.keep Kj2 (allS gn_a (allS gn_t all0))).keep K142 all0).keep Kq154 (allS gn_tm all0)
    have fa159 := fa151.up Kq154 (allS ml_tm all0)
    have fa160 := fa152.up Kq154 (allS ml_tm all0)
    have fa161 := fa153.up Kq154 (allS ml_tm all0)
    have fa162 := A142.keep Kq154
    obtain ⟨_, T163, L163, X163, ⟨o, rfl, Nq163, Kq163, Eo, Ho⟩, st163⟩ := oCV (y := yM79) (z := yM79) X154 cc158 hx hZ84 hown84 hml (dB at_285) e154 fa162 w_148 w_149 (notFace_of_selects (args := #[]) (mvT hZ84 w_151)) w_151 w_150 (by decide) [] [] (lenOf own_pd41 rfl) (bO (own_ct3 l Z a0 hw tm y g kg u0 u1 u2 oe z m4 (if b0 = 0 then some cs0 else none) (if b1 = 0 then some cs1 else none) (if b2 = 0 then some cs2 else none) T154.heap n0 Zs21 fa157 O2 P5 Fp R1154 R2154 R3154 OO EO FO fa159 fa160 fa161 Ms21) hZ84 w_152 w_108)
    have N163 := Fr.app N154 Nq163
    have D164 := CHr.keep Kq163 sf0 C156.1
    have C165 := C156.trans D164
    have KK22 := KK21.trans Kq163 all0
    have Zs22 := Nat.le_trans Zs21 Kq163.1
    have Ms22 := Nat.le_trans Ms21 Kq163.1
    have e163 : T163.heap = T163.heap := rfl
    have cc166 : oQ X163 S0' 297 #[sI p1, sI p2, sI p3, sI p4, sI p5, sI 3, sI b0, sI b1, sI b2, sI b3, sI b4, sR x0, sR x1, sR x2, sR sq, sR co, sR q0, sR q1, sR q2, sR a, sR tm, sR o, uN, uN, uN] [.int b0] := Steps.trans st163 (by
      refine XS.astore X163.here hx rfl (dB at_288) rfl rfl rfl ?_
      refine XS.iload X163.here hx rfl (dB at_290) rfl ?_
      refine XS.ifNo X163.here hx rfl (dB at_292) rfl (i0_le_f (by decide)) ?_
      refine XS.iload X163.here hx rfl (dB at_295) rfl ?_
      exact Steps.refl _)
    by_cases hq0 : b0 = 0
    · skip
      have cc167 : oQ X163 S0' 308 #[sI p1, sI p2, sI p3, sI p4, sI p5, sI 3, sI b0, sI b1, sI b2, sI b3, sI b4, sR x0, sR x1, sR x2, sR sq, sR co, sR q0, sR q1, sR q2, sR a, sR tm, sR o, uN, uN, uN] [.int b1] := Steps.trans cc166 (by
        refine XS.ifNo X163.here hx rfl (dB at_297) rfl (i0_ne_f hq0) ?_
        refine XS.iload X163.here hx rfl (dB at_300) rfl ?_
        refine iconstV X163.here hx rfl 1 (dB at_302) (by decide) ?_
        refine XS.icmpNo X163.here hx rfl (dB at_303) rfl (ii_le_f (by decide)) ?_
        refine XS.iload X163.here hx rfl (dB at_306) rfl ?_
        exact Steps.refl _)
      by_cases hq1 : b1 = 0
      · skip
        have cc168 : oQ X163 S0' 319 #[sI p1, sI p2, sI p3, sI p4, sI p5, sI 3, sI b0, sI b1, sI b2, sI b3, sI b4, sR x0, sR x1, sR x2, sR sq, sR co, sR q0, sR q1, sR q2, sR a, sR tm, sR o, uN, uN, uN] [.int b2] := Steps.trans cc167 (by
          refine XS.ifNo X163.here hx rfl (dB at_308) rfl (i0_ne_f hq1) ?_
          refine XS.iload X163.here hx rfl (dB at_311) rfl ?_
          refine iconstV X163.here hx rfl 2 (dB at_313) (by decide) ?_
          refine XS.icmpNo X163.here hx rfl (dB at_314) rfl (ii_le_f (by decide)) ?_
          refine XS.iload X163.here hx rfl (dB at_317) rfl ?_
          exact Steps.refl _)
        by_cases hq2 : b2 = 0
        · skip
          have hA : own_all [] [(if b0 = 0 then some cs0 else none), (if b1 = 0 then some cs1 else none), (if b2 = 0 then some cs2 else none)] = some (((([] : List Int32) ++ cs0) ++ cs1) ++ cs2) := by simp only [if_pos hq0, if_pos hq1, if_pos hq2, own_all]
          rw [hA] at Ho
          rcases Ho with ⟨hN, -⟩ | ⟨ct, xt, hT, Fo, Hx⟩
          · cases hN
          cases hT
          have cc169 : oQ X163 S0' 350 #[sI p1, sI p2, sI p3, sI p4, sI p5, sI 3, sI b0, sI b1, sI b2, sI b3, sI b4, sR x0, sR x1, sR x2, sR sq, sR co, sR q0, sR q1, sR q2, sR a, sR tm, sR o, sI 0, uN, uN] [.ref o] := Steps.trans cc168 (by
            refine XS.ifYes X163.here hx rfl (pc0 := 319) rfl (dB at_319) rfl (i0_eq_t hq2) (by decide) rfl ?_
            refine iconstV X163.here hx rfl 0 (dB at_326) (by decide) ?_
            refine XS.istore X163.here hx rfl (dB at_327) rfl rfl ?_
            refine XS.iload X163.here hx rfl (dB at_329) rfl ?_
            refine XS.ifYes X163.here hx rfl (pc0 := 331) rfl (dB at_331) rfl (i0_eq_t rfl) (by decide) rfl ?_
            refine XS.aload X163.here hx rfl (dB at_348) rfl rfl ?_
            exact Steps.refl _)
          obtain ⟨_, T170, L170, X170, ⟨rfl, Nq170, eq170⟩, st170⟩ := oCV (y := yM52) (z := yM52) X163 cc169 hx hZ84 hown84 hml (dB at_350) e163 Eo w_282 w_283 (notFace_of_selects (args := #[]) (mvT hZ84 w_285)) w_285 w_284 (by decide) [] [] (lenOf own_pd17 rfl) (bO (own_opp1 l Z a0 hw o xt T163.heap n0 Zs22 Fo) hZ84 w_286 w_268)
          have N170 := Fr.app N163 Nq170
          have cc171 : oQ X170 S0' 358 #[sI p1, sI p2, sI p3, sI p4, sI p5, sI 3, sI b0, sI b1, sI b2, sI b3, sI b4, sR x0, sR x1, sR x2, sR sq, sR co, sR q0, sR q1, sR q2, sR a, sR tm, sR o, sI 0, uN, uN] [] := Steps.trans st170 (by
            refine XS.ifYes X170.here hx rfl (pc0 := 353) rfl (dB at_353) rfl (i0_ne_t (by decide)) (by decide) rfl ?_
            exact Steps.refl _)
          have LX := own_LM.of Hx (Nat.le_refl _)
          have fa172 := (((((fa111.up Kj0 (allS ml_a all0)).up Kj1 (allS ml_a (allS ml_t all0))).up Kj2 (allS ml_a (allS ml_t all0))).up K142 all0).up Kq154 (allS ml_tm all0)).up Kq163 all0
          have LO0 := fa172.mono Ms22
          have fa173 := (((((fa112.up Kj0 (allS ml_a all0)).up Kj1 (allS ml_a (allS ml_t all0))).up Kj2 (allS ml_a (allS ml_t all0))).up K142 all0).up Kq154 (allS ml_tm all0)).up Kq163 all0
          have LO1 := fa173.mono Ms22
          have fa174 := (((((fa113.up Kj0 (allS ml_a all0)).up Kj1 (allS ml_a (allS ml_t all0))).up Kj2 (allS ml_a (allS ml_t all0))).up K142 all0).up Kq154 (allS ml_tm all0)).up Kq163 all0
          have LO2 := fa174.mono Ms22
          have cc175 : oQ X170 S0' 360 #[sI p1, sI p2, sI p3, sI p4, sI p5, sI 3, sI b0, sI b1, sI b2, sI b3, sI b4, sR x0, sR x1, sR x2, sR sq, sR co, sR q0, sR q1, sR q2, sR a, sR tm, sR o, sI 0, uN, uN] [.int 6] := Steps.trans cc171 (by
            refine bipushV X170.here hx rfl 6 (dB at_358) (by decide) ?_
            exact Steps.refl _)
          obtain ⟨T176, h176, k176, X176, e176, E176, A176, st176⟩ := newP X170 hx hZ84 (aty := .char) w_7 eq170 (g := (mkF m 360 #[sI p1, sI p2, sI p3, sI p4, sI p5, sI 3, sI b0, sI b1, sI b2, sI b3, sI b4, sR x0, sR x1, sR x2, sR sq, sR co, sR q0, sR q1, sR q2, sR a, sR tm, sR o, sI 0, uN, uN] [.int 6])) rfl (dB at_360) rfl (by decide) (cap := 6) (by decide) (by decide) (by decide) (by decide)
          obtain ⟨b, g_b⟩ : ∃ z, z = T163.heap.size := ⟨_, rfl⟩
          rw [← g_b] at A176 st176
          have K176 := (Keep.refl T163.heap ([] : List Addr)).ext E176
          have b_b : T163.heap.size ≤ b := (Nat.le_of_eq g_b.symm)
          have gn_b := Nat.le_trans Zs22 b_b
          have s0_b := Nat.le_trans KK22.1 b_b
          have ml_b := Nat.le_trans (Nat.le_refl _) b_b
          have fa177 := (fa145.keep Kq154).keep Kq163
          have ne_a_b := oN fa177.lt b_b
          have fa178 := (fa149.keep Kq154).keep Kq163
          have ne_t_b := oN fa178.lt b_b
          have fa179 := fa162.keep Kq163
          have ne_tm_b := oN fa179.lt b_b
          have fa180 := R1154.keep Kq163
          have ne_y_b := oN fa180.lt b_b
          have fa181 := R3154.keep Kq163 nin0
          have ne_g_b := oN fa181.lt b_b
          have ne_o_b := oN Eo.lt b_b
          have D182 := CHr.ext E176 C165.1
          have C183 := C165.trans D182
          have sf_b : Safe Z EL T84.vm h176 b := Safe.ext E176 C165.1 (Safe.new b_b)
          have KK23 := KK22.trans K176 all0
          have Zs23 := Nat.le_trans Zs22 K176.1
          have Ms23 := Nat.le_trans (Nat.le_refl _) K176.1
          have cc185 : oQ X176 S0' 378 #[sI p1, sI p2, sI p3, sI p4, sI p5, sI 3, sI b0, sI b1, sI b2, sI b3, sI b4, sR x0, sR x1, sR x2, sR sq, sR co, sR q0, sR q1, sR q2, sR a, sR tm, sR o, sI 0, sR b, sI 0] [.ref x0, .int 0, .ref b] := Steps.trans (cc175.trans (st176 _ (Steps.refl _))) (by
            refine XS.astore X176.here hx rfl (dB at_362) rfl rfl rfl ?_
            refine iconstV X176.here hx rfl 0 (dB at_364) (by decide) ?_
            refine XS.istore X176.here hx rfl (dB at_365) rfl rfl ?_
            refine XS.iload X176.here hx rfl (dB at_367) rfl ?_
            refine XS.ifNo X176.here hx rfl (dB at_369) rfl (i0_le_f (by decide)) ?_
            refine XS.aload X176.here hx rfl (dB at_372) rfl rfl ?_
            refine XS.iload X176.here hx rfl (dB at_374) rfl ?_
            refine XS.aload X176.here hx rfl (dB at_376) rfl rfl ?_
            exact Steps.refl _)
          have fa184 := (fa157.keep Kq163 all0).keep K176 all0
          have fa186 := LO0.up K176 all0
          obtain ⟨_, T187, L187, X187, ⟨rfl, Nq187, Kq187, Aq187⟩, st187⟩ := oCT (y := yM87) X176 cc185 hx hZ84 hown84 hml (dB at_378) e176 w_440 w_441 w_2 w_442 (by decide) [.ref b, .int 0, .ref x0] [] (lenOf own_pd54 rfl) (bO (own_put l Z a0 hw b k176 ([] : List Int32) x0 cs0 z f h176 n0 Zs23 fa184 O2 P5 O4 hf fa186.1 (Arv.new A176 (by decide)) gn_b (by simp; omega) lc0) hZ84 w_442 w_2)
          have N187 := Fr.app N170 Nq187
          have D188 := CHr.keep Kq187 (sfS sf_b sf0) C183.1
          have C189 := C183.trans D188
          have KK24 := KK23.trans Kq187 (allS (Or.inr s0_b) all0)
          have Zs24 := Nat.le_trans Zs23 Kq187.1
          have Ms24 := Nat.le_trans Ms23 Kq187.1
          have e187 : T187.heap = T187.heap := rfl
          have cc191 : oQ X187 S0' 395 #[sI p1, sI p2, sI p3, sI p4, sI p5, sI 3, sI b0, sI b1, sI b2, sI b3, sI b4, sR x0, sR x1, sR x2, sR sq, sR co, sR q0, sR q1, sR q2, sR a, sR tm, sR o, sI 0, sR b, sI (Int32.ofNat (([] : List Int32) ++ cs0).length)] [.ref x1, .int (Int32.ofNat (([] : List Int32) ++ cs0).length), .ref b] := Steps.trans st187 (by
            refine XS.istore X187.here hx rfl (dB at_381) rfl rfl ?_
            refine XS.iload X187.here hx rfl (dB at_383) rfl ?_
            refine iconstV X187.here hx rfl 1 (dB at_385) (by decide) ?_
            refine XS.icmpNo X187.here hx rfl (dB at_386) rfl (ii_le_f (by decide)) ?_
            refine XS.aload X187.here hx rfl (dB at_389) rfl rfl ?_
            refine XS.iload X187.here hx rfl (dB at_391) rfl ?_
            refine XS.aload X187.here hx rfl (dB at_393) rfl rfl ?_
            exact Steps.refl _)
          have fa190 := fa184.keep Kq187 (allS gn_b all0)
          have fa192 := (LO1.up K176 all0).up Kq187 (allS ml_b all0)
          obtain ⟨_, T193, L193, X193, ⟨rfl, Nq193, Kq193, Aq193⟩, st193⟩ := oCT (y := yM87) X187 cc191 hx hZ84 hown84 hml (dB at_395) e187 w_440 w_441 w_2 w_442 (by decide) [.ref b, .int (Int32.ofNat (([] : List Int32) ++ cs0).length), .ref x1] [] (lenOf own_pd54 rfl) (bO (own_put l Z a0 hw b k176 (([] : List Int32) ++ cs0) x1 cs1 z f T187.heap n0 Zs24 fa190 O2 P5 O4 hf fa192.1 Aq187 gn_b (by simp; omega) lc1) hZ84 w_442 w_2)
          have N193 := Fr.app N187 Nq193
          have sf194 := D188.safe A176.lt sf_b
          have lt195 := Nat.lt_of_lt_of_le A176.lt Kq187.1
          have D196 := CHr.keep Kq193 (sfS sf194 sf0) C189.1
          have C197 := C189.trans D196
          have KK25 := KK24.trans Kq193 (allS (Or.inr s0_b) all0)
          have Zs25 := Nat.le_trans Zs24 Kq193.1
          have Ms25 := Nat.le_trans Ms24 Kq193.1
          have e193 : T193.heap = T193.heap := rfl
          have cc199 : oQ X193 S0' 412 #[sI p1, sI p2, sI p3, sI p4, sI p5, sI 3, sI b0, sI b1, sI b2, sI b3, sI b4, sR x0, sR x1, sR x2, sR sq, sR co, sR q0, sR q1, sR q2, sR a, sR tm, sR o, sI 0, sR b, sI (Int32.ofNat ((([] : List Int32) ++ cs0) ++ cs1).length)] [.ref x2, .int (Int32.ofNat ((([] : List Int32) ++ cs0) ++ cs1).length), .ref b] := Steps.trans st193 (by
            refine XS.istore X193.here hx rfl (dB at_398) rfl rfl ?_
            refine XS.iload X193.here hx rfl (dB at_400) rfl ?_
            refine iconstV X193.here hx rfl 2 (dB at_402) (by decide) ?_
            refine XS.icmpNo X193.here hx rfl (dB at_403) rfl (ii_le_f (by decide)) ?_
            refine XS.aload X193.here hx rfl (dB at_406) rfl rfl ?_
            refine XS.iload X193.here hx rfl (dB at_408) rfl ?_
            refine XS.aload X193.here hx rfl (dB at_410) rfl rfl ?_
            exact Steps.refl _)
          have fa198 := fa190.keep Kq193 (allS gn_b all0)
          have fa200 := ((LO2.up K176 all0).up Kq187 (allS ml_b all0)).up Kq193 (allS ml_b all0)
          obtain ⟨_, T201, L201, X201, ⟨rfl, Nq201, Kq201, Aq201⟩, st201⟩ := oCT (y := yM87) X193 cc199 hx hZ84 hown84 hml (dB at_412) e193 w_440 w_441 w_2 w_442 (by decide) [.ref b, .int (Int32.ofNat ((([] : List Int32) ++ cs0) ++ cs1).length), .ref x2] [] (lenOf own_pd54 rfl) (bO (own_put l Z a0 hw b k176 ((([] : List Int32) ++ cs0) ++ cs1) x2 cs2 z f T193.heap n0 Zs25 fa198 O2 P5 O4 hf fa200.1 Aq193 gn_b (by simp; omega) lc2) hZ84 w_442 w_2)
          have N201 := Fr.app N193 Nq201
          have sf202 := D196.safe lt195 sf194
          have lt203 := Nat.lt_of_lt_of_le lt195 Kq193.1
          have D204 := CHr.keep Kq201 (sfS sf202 sf0) C197.1
          have C205 := C197.trans D204
          have KK26 := KK25.trans Kq201 (allS (Or.inr s0_b) all0)
          have Zs26 := Nat.le_trans Zs25 Kq201.1
          have Ms26 := Nat.le_trans Ms25 Kq201.1
          have e201 : T201.heap = T201.heap := rfl
          have cc207 : oQ X201 S0' 419 #[sI p1, sI p2, sI p3, sI p4, sI p5, sI 3, sI b0, sI b1, sI b2, sI b3, sI b4, sR x0, sR x1, sR x2, sR sq, sR co, sR q0, sR q1, sR q2, sR a, sR tm, sR o, sI 0, sR b, sI (Int32.ofNat (((([] : List Int32) ++ cs0) ++ cs1) ++ cs2).length)] [.ref o] := Steps.trans st201 (by
            refine XS.istore X201.here hx rfl (dB at_415) rfl rfl ?_
            refine XS.aload X201.here hx rfl (dB at_417) rfl rfl ?_
            exact Steps.refl _)
          have fa206 := (((Fo.keep K176 nin0).keep Kq187 (ninS ne_o_b nin0)).keep Kq193 (ninS ne_o_b nin0)).keep Kq201 (ninS ne_o_b nin0)
          have fa208 := (((Eo.keep K176).keep Kq187).keep Kq193).keep Kq201
          obtain ⟨_, T209, L209, X209, ⟨rfl, Nq209, eq209⟩, st209⟩ := oCV (y := yM53) (z := yM53) X201 cc207 hx hZ84 hown84 hml (dB at_419) e201 fa208 w_287 w_288 (notFace_of_selects (args := #[]) (mvT hZ84 w_290)) w_290 w_289 (by decide) [] [] (lenOf own_pd40 rfl) (bO (own_opg l Z a0 hw o xt T201.heap n0 Zs26 fa206) hZ84 w_291 w_268)
          have N209 := Fr.app N201 Nq209
          have cc211 : oQ X209 S0' 422 #[sI p1, sI p2, sI p3, sI p4, sI p5, sI 3, sI b0, sI b1, sI b2, sI b3, sI b4, sR x0, sR x1, sR x2, sR sq, sR co, sR q0, sR q1, sR q2, sR a, sR tm, sR o, sI 0, sR b, sI (Int32.ofNat (((([] : List Int32) ++ cs0) ++ cs1) ++ cs2).length)] [.ref xt] := st209
          have fa210 := (((LX.up K176 all0).up Kq187 (allS ml_b all0)).up Kq193 (allS ml_b all0)).up Kq201 (allS ml_b all0)
          obtain ⟨T212, X212, e212, st212⟩ := castY X209 hx hZ84 hown84 w_4 eq209 (Ins.self fa210.1.1) (g := (mkF m 422 #[sI p1, sI p2, sI p3, sI p4, sI p5, sI 3, sI b0, sI b1, sI b2, sI b3, sI b4, sR x0, sR x1, sR x2, sR sq, sR co, sR q0, sR q1, sR q2, sR a, sR tm, sR o, sI 0, sR b, sI (Int32.ofNat (((([] : List Int32) ++ cs0) ++ cs1) ++ cs2).length)] [.ref xt])) rfl rfl (dB at_422)
          have cc214 : oQ X212 S0' 429 #[sI p1, sI p2, sI p3, sI p4, sI p5, sI 3, sI b0, sI b1, sI b2, sI b3, sI b4, sR x0, sR x1, sR x2, sR sq, sR co, sR q0, sR q1, sR q2, sR a, sR tm, sR o, sI 0, sR b, sI (Int32.ofNat (((([] : List Int32) ++ cs0) ++ cs1) ++ cs2).length)] [.int (Int32.ofNat (((([] : List Int32) ++ cs0) ++ cs1) ++ cs2).length), .ref b, .ref xt] := Steps.trans (cc211.trans (st212 _ (Steps.refl _))) (by
            refine XS.aload X212.here hx rfl (dB at_425) rfl rfl ?_
            refine XS.iload X212.here hx rfl (dB at_427) rfl ?_
            exact Steps.refl _)
          have fa213 := fa198.keep Kq201 (allS gn_b all0)
          obtain ⟨_, T215, L215, X215, ⟨rfl, Nq215, eq215⟩, st215⟩ := oCT (y := yM88) X212 cc214 hx hZ84 hown84 hml (dB at_429) e212 w_292 w_293 w_2 w_294 (by decide) [.ref xt, .ref b, .int (Int32.ofNat (((([] : List Int32) ++ cs0) ++ cs1) ++ cs2).length)] [] (lenOf own_pd52 rfl) (bO (own_same l Z a0 hw xt b k176 (((([] : List Int32) ++ cs0) ++ cs1) ++ cs2) z f T201.heap n0 Zs26 fa213 O2 P5 O4 hf fa210.1 Aq201 (by simp; omega)) hZ84 w_294 w_2)
          have N215 := Fr.app N209 Nq215
          have cc216 : oQ X215 S0' 432 #[sI p1, sI p2, sI p3, sI p4, sI p5, sI 3, sI b0, sI b1, sI b2, sI b3, sI b4, sR x0, sR x1, sR x2, sR sq, sR co, sR q0, sR q1, sR q2, sR a, sR tm, sR o, sI 0, sR b, sI (Int32.ofNat (((([] : List Int32) ++ cs0) ++ cs1) ++ cs2).length)] [.int 1] := st215
          have cE := cc216
          rw [hS0'] at cE
          obtain ⟨fs, hr_, hrun, hended, hE⟩ := X215.leaveW hS84 (by rw [eq215]; exact (Nat.le_trans (Nat.le_trans (Nat.le_trans (Nat.le_trans (Nat.le_trans (Nat.le_trans (Nat.le_trans (Nat.le_trans (Nat.le_trans (Nat.le_trans (Nat.le_trans (Nat.le_trans hk84 K95.1) Kq100.1) Kj0.1) Kj1.1) Kj2.1) K142.1) Kq154.1) Kq163.1) K176.1) Kq187.1) Kq193.1) Kq201.1)) (v := some (.int 1)) (fun h => by rw [Bd.returns] at h; cases h)
          have CE := C205.trans (CHv.at X215 hZ84 hEL C205.1)
          refine ⟨_, _, cE.trans (X215.ireturnOut hx Bd.returns (rfl) (by simp) (dB at_432) hr_), hrun, hended, _, _, rfl, ?_, ?_, hE.1, hE.2.1, hE.2.2.1, hE.2.2.2.mono (by first | decide | omega) (by first | decide | omega)⟩
          · show Q_own_law Z p1 p2 p3 p4 p5 z f dd mr el g0 em oe kd kg0 h0 n0 _ T215.heap _
            rw [eq215]
            exact ⟨rfl, N215⟩
          · rw [hh]
            show CHr Z EL s.vm h0 T215.vm T215.heap
            rw [eq215]
            exact CE
        · skip
          have hA : own_all [] [(if b0 = 0 then some cs0 else none), (if b1 = 0 then some cs1 else none), (if b2 = 0 then some cs2 else none)] = none := by simp [if_pos hq0, if_pos hq1, if_neg hq2, own_all]
          rw [hA] at Ho
          rcases Ho with ⟨-, Fo⟩ | ⟨ct, xt, hT, -⟩
          rotate_left
          · cases hT
          have cc169 : oQ X163 S0' 336 #[sI p1, sI p2, sI p3, sI p4, sI p5, sI 3, sI b0, sI b1, sI b2, sI b3, sI b4, sR x0, sR x1, sR x2, sR sq, sR co, sR q0, sR q1, sR q2, sR a, sR tm, sR o, sI 1, uN, uN] [.ref o] := Steps.trans cc168 (by
            refine XS.ifNo X163.here hx rfl (dB at_319) rfl (i0_eq_f hq2) ?_
            refine iconstV X163.here hx rfl 1 (dB at_322) (by decide) ?_
            refine XS.goto X163.here hx rfl (pc0 := 323) rfl (dB at_323) (by decide) rfl ?_
            refine XS.istore X163.here hx rfl (dB at_327) rfl rfl ?_
            refine XS.iload X163.here hx rfl (dB at_329) rfl ?_
            refine XS.ifNo X163.here hx rfl (dB at_331) rfl (i0_eq_f (by decide)) ?_
            refine XS.aload X163.here hx rfl (dB at_334) rfl rfl ?_
            exact Steps.refl _)
          obtain ⟨_, T170, L170, X170, ⟨rfl, Nq170, eq170⟩, st170⟩ := oCV (y := yM52) (z := yM52) X163 cc169 hx hZ84 hown84 hml (dB at_336) e163 Eo w_282 w_283 (notFace_of_selects (args := #[]) (mvT hZ84 w_285)) w_285 w_284 (by decide) [] [] (lenOf own_pd17 rfl) (bO (own_opp0 l Z a0 hw o T163.heap n0 Zs22 Fo) hZ84 w_286 w_268)
          have N170 := Fr.app N163 Nq170
          have cc171 : oQ X170 S0' 347 #[sI p1, sI p2, sI p3, sI p4, sI p5, sI 3, sI b0, sI b1, sI b2, sI b3, sI b4, sR x0, sR x1, sR x2, sR sq, sR co, sR q0, sR q1, sR q2, sR a, sR tm, sR o, sI 1, uN, uN] [.int 1] := Steps.trans st170 (by
            refine XS.ifNo X170.here hx rfl (dB at_339) rfl (i0_ne_f rfl) ?_
            refine iconstV X170.here hx rfl 1 (dB at_342) (by decide) ?_
            refine XS.goto X170.here hx rfl (pc0 := 343) rfl (dB at_343) (by decide) rfl ?_
            exact Steps.refl _)
          have cE := cc171
          rw [hS0'] at cE
          obtain ⟨fs, hr_, hrun, hended, hE⟩ := X170.leaveW hS84 (by rw [eq170]; exact (Nat.le_trans (Nat.le_trans (Nat.le_trans (Nat.le_trans (Nat.le_trans (Nat.le_trans (Nat.le_trans (Nat.le_trans hk84 K95.1) Kq100.1) Kj0.1) Kj1.1) Kj2.1) K142.1) Kq154.1) Kq163.1)) (v := some (.int 1)) (fun h => by rw [Bd.returns] at h; cases h)
          have CE := C165.trans (CHv.at X170 hZ84 hEL C165.1)
          refine ⟨_, _, cE.trans (X170.ireturnOut hx Bd.returns (rfl) (by simp) (dB at_347) hr_), hrun, hended, _, _, rfl, ?_, ?_, hE.1, hE.2.1, hE.2.2.1, hE.2.2.2.mono (by first | decide | omega) (by first | decide | omega)⟩
          · show Q_own_law Z p1 p2 p3 p4 p5 z f dd mr el g0 em oe kd kg0 h0 n0 _ T170.heap _
            rw [eq170]
            exact ⟨rfl, N170⟩
          · rw [hh]
            show CHr Z EL s.vm h0 T170.vm T170.heap
            rw [eq170]
            exact CE
      · skip
        have hA : own_all [] [(if b0 = 0 then some cs0 else none), (if b1 = 0 then some cs1 else none), (if b2 = 0 then some cs2 else none)] = none := by simp [if_pos hq0, if_neg hq1, own_all]
        rw [hA] at Ho
        rcases Ho with ⟨-, Fo⟩ | ⟨ct, xt, hT, -⟩
        rotate_left
        · cases hT
        have cc168 : oQ X163 S0' 336 #[sI p1, sI p2, sI p3, sI p4, sI p5, sI 3, sI b0, sI b1, sI b2, sI b3, sI b4, sR x0, sR x1, sR x2, sR sq, sR co, sR q0, sR q1, sR q2, sR a, sR tm, sR o, sI 1, uN, uN] [.ref o] := Steps.trans cc167 (by
          refine XS.ifYes X163.here hx rfl (pc0 := 308) rfl (dB at_308) rfl (i0_ne_t hq1) (by decide) rfl ?_
          refine iconstV X163.here hx rfl 1 (dB at_322) (by decide) ?_
          refine XS.goto X163.here hx rfl (pc0 := 323) rfl (dB at_323) (by decide) rfl ?_
          refine XS.istore X163.here hx rfl (dB at_327) rfl rfl ?_
          refine XS.iload X163.here hx rfl (dB at_329) rfl ?_
          refine XS.ifNo X163.here hx rfl (dB at_331) rfl (i0_eq_f (by decide)) ?_
          refine XS.aload X163.here hx rfl (dB at_334) rfl rfl ?_
          exact Steps.refl _)
        obtain ⟨_, T169, L169, X169, ⟨rfl, Nq169, eq169⟩, st169⟩ := oCV (y := yM52) (z := yM52) X163 cc168 hx hZ84 hown84 hml (dB at_336) e163 Eo w_282 w_283 (notFace_of_selects (args := #[]) (mvT hZ84 w_285)) w_285 w_284 (by decide) [] [] (lenOf own_pd17 rfl) (bO (own_opp0 l Z a0 hw o T163.heap n0 Zs22 Fo) hZ84 w_286 w_268)
        have N169 := Fr.app N163 Nq169
        have cc170 : oQ X169 S0' 347 #[sI p1, sI p2, sI p3, sI p4, sI p5, sI 3, sI b0, sI b1, sI b2, sI b3, sI b4, sR x0, sR x1, sR x2, sR sq, sR co, sR q0, sR q1, sR q2, sR a, sR tm, sR o, sI 1, uN, uN] [.int 1] := Steps.trans st169 (by
          refine XS.ifNo X169.here hx rfl (dB at_339) rfl (i0_ne_f rfl) ?_
          refine iconstV X169.here hx rfl 1 (dB at_342) (by decide) ?_
          refine XS.goto X169.here hx rfl (pc0 := 343) rfl (dB at_343) (by decide) rfl ?_
          exact Steps.refl _)
        have cE := cc170
        rw [hS0'] at cE
        obtain ⟨fs, hr_, hrun, hended, hE⟩ := X169.leaveW hS84 (by rw [eq169]; exact (Nat.le_trans (Nat.le_trans (Nat.le_trans (Nat.le_trans (Nat.le_trans (Nat.le_trans (Nat.le_trans (Nat.le_trans hk84 K95.1) Kq100.1) Kj0.1) Kj1.1) Kj2.1) K142.1) Kq154.1) Kq163.1)) (v := some (.int 1)) (fun h => by rw [Bd.returns] at h; cases h)
        have CE := C165.trans (CHv.at X169 hZ84 hEL C165.1)
        refine ⟨_, _, cE.trans (X169.ireturnOut hx Bd.returns (rfl) (by simp) (dB at_347) hr_), hrun, hended, _, _, rfl, ?_, ?_, hE.1, hE.2.1, hE.2.2.1, hE.2.2.2.mono (by first | decide | omega) (by first | decide | omega)⟩
        · show Q_own_law Z p1 p2 p3 p4 p5 z f dd mr el g0 em oe kd kg0 h0 n0 _ T169.heap _
          rw [eq169]
          exact ⟨rfl, N169⟩
        · rw [hh]
          show CHr Z EL s.vm h0 T169.vm T169.heap
          rw [eq169]
          exact CE
    · skip
      have hA : own_all [] [(if b0 = 0 then some cs0 else none), (if b1 = 0 then some cs1 else none), (if b2 = 0 then some cs2 else none)] = none := by simp [if_neg hq0, own_all]
      rw [hA] at Ho
      rcases Ho with ⟨-, Fo⟩ | ⟨ct, xt, hT, -⟩
      rotate_left
      · cases hT
      have cc167 : oQ X163 S0' 336 #[sI p1, sI p2, sI p3, sI p4, sI p5, sI 3, sI b0, sI b1, sI b2, sI b3, sI b4, sR x0, sR x1, sR x2, sR sq, sR co, sR q0, sR q1, sR q2, sR a, sR tm, sR o, sI 1, uN, uN] [.ref o] := Steps.trans cc166 (by
        refine XS.ifYes X163.here hx rfl (pc0 := 297) rfl (dB at_297) rfl (i0_ne_t hq0) (by decide) rfl ?_
        refine iconstV X163.here hx rfl 1 (dB at_322) (by decide) ?_
        refine XS.goto X163.here hx rfl (pc0 := 323) rfl (dB at_323) (by decide) rfl ?_
        refine XS.istore X163.here hx rfl (dB at_327) rfl rfl ?_
        refine XS.iload X163.here hx rfl (dB at_329) rfl ?_
        refine XS.ifNo X163.here hx rfl (dB at_331) rfl (i0_eq_f (by decide)) ?_
        refine XS.aload X163.here hx rfl (dB at_334) rfl rfl ?_
        exact Steps.refl _)
      obtain ⟨_, T168, L168, X168, ⟨rfl, Nq168, eq168⟩, st168⟩ := oCV (y := yM52) (z := yM52) X163 cc167 hx hZ84 hown84 hml (dB at_336) e163 Eo w_282 w_283 (notFace_of_selects (args := #[]) (mvT hZ84 w_285)) w_285 w_284 (by decide) [] [] (lenOf own_pd17 rfl) (bO (own_opp0 l Z a0 hw o T163.heap n0 Zs22 Fo) hZ84 w_286 w_268)
      have N168 := Fr.app N163 Nq168
      have cc169 : oQ X168 S0' 347 #[sI p1, sI p2, sI p3, sI p4, sI p5, sI 3, sI b0, sI b1, sI b2, sI b3, sI b4, sR x0, sR x1, sR x2, sR sq, sR co, sR q0, sR q1, sR q2, sR a, sR tm, sR o, sI 1, uN, uN] [.int 1] := Steps.trans st168 (by
        refine XS.ifNo X168.here hx rfl (dB at_339) rfl (i0_ne_f rfl) ?_
        refine iconstV X168.here hx rfl 1 (dB at_342) (by decide) ?_
        refine XS.goto X168.here hx rfl (pc0 := 343) rfl (dB at_343) (by decide) rfl ?_
        exact Steps.refl _)
      have cE := cc169
      rw [hS0'] at cE
      obtain ⟨fs, hr_, hrun, hended, hE⟩ := X168.leaveW hS84 (by rw [eq168]; exact (Nat.le_trans (Nat.le_trans (Nat.le_trans (Nat.le_trans (Nat.le_trans (Nat.le_trans (Nat.le_trans (Nat.le_trans hk84 K95.1) Kq100.1) Kj0.1) Kj1.1) Kj2.1) K142.1) Kq154.1) Kq163.1)) (v := some (.int 1)) (fun h => by rw [Bd.returns] at h; cases h)
      have CE := C165.trans (CHv.at X168 hZ84 hEL C165.1)
      refine ⟨_, _, cE.trans (X168.ireturnOut hx Bd.returns (rfl) (by simp) (dB at_347) hr_), hrun, hended, _, _, rfl, ?_, ?_, hE.1, hE.2.1, hE.2.2.1, hE.2.2.2.mono (by first | decide | omega) (by first | decide | omega)⟩
      · show Q_own_law Z p1 p2 p3 p4 p5 z f dd mr el g0 em oe kd kg0 h0 n0 _ T168.heap _
        rw [eq168]
        exact ⟨rfl, N168⟩
      · rw [hh]
        show CHr Z EL s.vm h0 T168.vm T168.heap
        rw [eq168]
        exact CE
theorem own_eqS {args : Array Value} {s : State} {C n d : String} {k : Int32} (h : (Jvm.Cond.eq (Term.static C n d) (Term.int k)).before args s = true) : (Term.static C n d).eval args s none [] s = some (.int k) := by
  have hv := Cond.before_iff.mp h
  obtain ⟨a, b, ha, hb, -, hk⟩ := cmp_v (Or.inl hv)
  obtain rfl : b = .int k := Option.some.inj (hb.symm.trans (Term.int_eval k))
  obtain ⟨z, rfl⟩ := hk
  have e : z = k := gotT (Cond.eq_ints ha (Term.int_eval k)) hv
  rw [ha, e]
set_option maxRecDepth 65536 in
set_option maxHeartbeats 40000000 in
theorem comes_1 {Post : Tables → Env → Array Value → State → Outcome → State → Prop} (hpost : ∀ tb e args s v u, (limb_1_1.after args s (.returned v) u = true ∧ limb_1_2.after args s (.returned v) u = true ∧ True) → ReturnedEndW s (.returned v) u (Jvm.fieldLocs frame_1_writes args s ++ Jvm.arrayLocs frame_1_arrays args s ++ Jvm.staticLocs frame_1_statics s) 72 3392 → Post tb e args s (.returned v) u) :
    ArmFor flags0 classFile x code maxLocals ret World_1 tables_1 room_1 Calls_1 rest_1 Pre_1 Post := by
  intro l hfl _ _ p e ha hc hk s m args below hf hA hF happ hP
  obtain ⟨hcalls, hrest, hpre⟩ := hP
  obtain ⟨-, -, -, hnamed, -, -, -, hat⟩ := (Spec.applies_iff hf).mp happ
  obtain ⟨hg, hn⟩ := and_e (Cond.before_iff.mp (show (Jvm.Cond.and given_1 narrow_1).before args s = true from hpre))
  obtain ⟨hcnt, g0⟩ := and_e hg
  obtain ⟨hi0, g1⟩ := and_e g0
  obtain ⟨hi1, g2⟩ := and_e g1
  obtain ⟨hi2, g3⟩ := and_e g2
  obtain ⟨hi3, g4⟩ := and_e g3
  obtain ⟨w0, w1, w2, w3, w4, rfl⟩ : ∃ w0 w1 w2 w3 w4 : Value, args = #[w0, w1, w2, w3, w4] := by
    have hs : args.size = 5 := by simpa [Cond.value, given_1] using hcnt
    obtain ⟨L⟩ := args
    match L, hs with
    | [w0, w1, w2, w3, w4], _ => exact ⟨w0, w1, w2, w3, w4, rfl⟩
  have hw := fun d (hd : d ∈ tables_1) => atoms_spec (ws := Jvm.Cond.code x code maxLocals ret :: tables_1) hat d (List.mem_cons_of_mem _ hd)
  obtain ⟨hsets, hown0⟩ := atoms_of _ (rest_1_c_eq ▸ (show rest_1_c.before _ s = true from hrest))
  obtain ⟨i0, e0⟩ := is_v hi0
  obtain rfl : w0 = (.int i0) := Option.some.inj e0
  obtain ⟨i1, e1⟩ := is_v hi1
  obtain rfl : w1 = (.int i1) := Option.some.inj e1
  obtain ⟨i2, e2⟩ := is_v hi2
  obtain rfl : w2 = (.int i2) := Option.some.inj e2
  obtain ⟨i3, e3⟩ := is_v hi3
  obtain rfl : w3 = (.int i3) := Option.some.inj e3
  obtain ⟨i4, e4⟩ := is_v g4
  obtain rfl : w4 = (.int i4) := Option.some.inj e4
  have n5 := not_v (Cond.before_iff.mp (hsets _ (List.mem_of_getElem? (i := 2) rfl)))
  obtain ⟨z, ez⟩ := is_v (Cond.before_iff.mp (hsets _ (List.mem_of_getElem? (i := 1) rfl)))
  have S12 : Sta s s.heap "java/lang/String" "COMPACT_STRINGS" "Z" (.int z) := Sta.start ez (Or.inl (hsets _ (List.mem_of_getElem? (i := 0) rfl)))
  have c17 : ¬ (z = (0 : Int32)) := gotF (Cond.eq_ints ez (Term.int_eval (0))) n5
  obtain ⟨G3, e14, rG3⟩ := isR_v (Cond.before_iff.mp (hsets _ (List.mem_of_getElem? (i := 8) rfl)))
  have O4 : Sta s s.heap "jdk/internal/util/Preconditions" "SIOOBE_FORMATTER" "Ljava/util/function/BiFunction;" G3 := Sta.start e14 (Or.inl (hsets _ (List.mem_of_getElem? (i := 7) rfl)))
  obtain ⟨dd, ed⟩ := arr_v (Cond.before_iff.mp (hsets _ (List.mem_of_getElem? (i := 15) rfl)))
  have OD : Sta s s.heap "java/util/ArrayList" "DEFAULTCAPACITY_EMPTY_ELEMENTDATA" "[Ljava/lang/Object;" (.ref dd) := Sta.start ed (Or.inr ⟨hw _ (List.mem_of_getElem? (i := 84) rfl), (hsets _ (List.mem_of_getElem? (i := 11) rfl))⟩)
  obtain ⟨kd, Ad⟩ := own_len0 ed (hsets _ (List.mem_of_getElem? (i := 15) rfl)) (hsets _ (List.mem_of_getElem? (i := 17) rfl))
  obtain ⟨el, eel⟩ := exa_v (Cond.before_iff.mp (hsets _ (List.mem_of_getElem? (i := 20) rfl)))
  have OL : Sta s s.heap "java/util/ImmutableCollections" "EMPTY_LIST" "Ljava/util/ImmutableCollections$ListN;" (.ref el) := Sta.start eel (Or.inl (hsets _ (List.mem_of_getElem? (i := 19) rfl)))
  have N1 := Exa.start eel (Cond.before_iff.mp (hsets _ (List.mem_of_getElem? (i := 20) rfl)))
  obtain ⟨g0, eg⟩ := arr_v (Cond.before_iff.mp (hsets _ (List.mem_of_getElem? (i := 21) rfl)))
  have N2 := Fld.start ((fld_at eel).symm.trans eg)
  obtain ⟨kg0, N3⟩ := own_len0 eg (hsets _ (List.mem_of_getElem? (i := 21) rfl)) (hsets _ (List.mem_of_getElem? (i := 23) rfl))
  obtain ⟨em, eem⟩ := exa_v (Cond.before_iff.mp (hsets _ (List.mem_of_getElem? (i := 31) rfl)))
  have OE : Sta s s.heap "java/util/ImmutableCollections" "EMPTY" "Ljava/lang/Object;" (.ref em) := Sta.start eem (Or.inl (hsets _ (List.mem_of_getElem? (i := 30) rfl)))
  have EM := Exa.start eem (Cond.before_iff.mp (hsets _ (List.mem_of_getElem? (i := 31) rfl)))
  obtain ⟨oe, eoe⟩ := exa_v (Cond.before_iff.mp (hsets _ (List.mem_of_getElem? (i := 27) rfl)))
  have OO : Sta s s.heap "java/util/Optional" "EMPTY" "Ljava/util/Optional;" (.ref oe) := Sta.start eoe (Or.inl (hsets _ (List.mem_of_getElem? (i := 26) rfl)))
  have EO := Exa.start eoe (Cond.before_iff.mp (hsets _ (List.mem_of_getElem? (i := 27) rfl)))
  have FO := Fld.start ((fld_at eoe).symm.trans (null_v (Cond.before_iff.mp (hsets _ (List.mem_of_getElem? (i := 28) rfl)))))
  obtain ⟨cMi, kMi, mr, fM1, fM2, fM3, -⟩ := hcalls.1
  have MM : own_Mir s "[Ljava/lang/Object;" mr := ⟨cMi, kMi, fM1, fM2, fM3⟩
  have hCH0 : CHv s EL s.vm s.heap := CHv.start (own_EW hw) (fun p hp => hcalls.2.1 p hp) (hsets _ (List.mem_of_getElem? (i := 2) rfl)) (hw _ (List.mem_of_getElem? (i := 19) rfl)) (hw _ (List.mem_of_getElem? (i := 5) rfl))
  obtain ⟨n, o, h1, h2, h3, _, L, rfl, ⟨rfl, N⟩, -, hq⟩ := own_law l s _ hw tables_1 i0 i1 i2 i3 i4 z G3 dd mr el g0 em oe kd kg0 s.heap s.heap.size (Nat.le_refl _) (Old.start s) S12 c17 O4 rG3 OD Ad OL N1 N2 N3 OE EM OO EO FO MM p e ha hc hk s m _ below hf ((Spec.applies_iff_loose hf).mp happ).1 ⟨rfl, State.Warmed39.refl s, rfl, hCH0⟩ trivial
  refine ⟨n, _, h1, h2, h3, hpost _ _ _ _ _ _ ⟨Cond.after_iff.mpr rfl, Cond.after_iff.mpr (eq_i res_at (Term.int_eval (1)) rfl), trivial⟩ ⟨hq.1, hq.2.1, hq.2.2.1, (hq.2.2.2.sift fun y hy => Or.inr (N y hy)).mono (by decide) (by decide)⟩⟩
theorem main_1_1 : Claimed_1_1 := comes_1 fun _ _ _ _ _ _ h hF => ⟨h.1, hF⟩
theorem main_1_2 : Claimed_1_2 := comes_1 fun _ _ _ _ _ _ h hF => ⟨h.2.1, hF⟩
end Jvm.Pilot.@@N@@
namespace Jvm.Pilot.@@N@@
open Jvm Jvm.ClassFile Sem Op Lib Jvm.Free Jvm.Stand Jvm.Pilot.@@N@@.Jvm.D
/-! MADE BY PROGRAM (witnessworld.py) out of the Statement's table words and the real class files: 51 classes; the members and pool entries that the words name. The judged class is class 1, her method 1. -/
namespace start1
open Jvm.ClassFile
def u (s : String) : CpInfo := .utf8 (stringToUtf16 s)
/-- a pool by its gaps: so many unusable entries, then the entry; so many at the end -/
def gap : Nat → List CpInfo → List CpInfo
  | 0, r => r
  | n + 1, r => .unusable :: gap n r
def poolList (es : List (Nat × CpInfo)) (last : Nat) : List CpInfo := es.foldr (fun e r => gap e.1 (e.2 :: r)) (gap last [])
def pool (es : List (Nat × CpInfo)) (last : Nat) : Array CpInfo := ⟨poolList es last⟩
def fileOf (pool : Array CpInfo) (this : Nat) (attrs : Array Attribute := #[]) (ms : Array MethodInfo := #[]) (fl : Nat := 33) (sup : Nat := 0) (ifs : Array Nat := #[]) (fds : Array FieldInfo := #[]) : ClassFile where
  minorVersion := 0
  majorVersion := 65
  constantPool := pool
  accessFlags := fl
  thisClass := this
  superClass := sup
  interfaces := ifs
  fields := fds
  methods := ms
  attributes := attrs
def plain (name : String) (sup : Option ClassId) : Class where
  name := name
  kind := .ordinary
  loader := none
  accessFlags := 33
  super := sup
  interfaces := #[]
  cf := none
  fields := #[]
  methods := #[]
  instanceTypes := #[]
  staticTypes := #[]
  resolved := #[]
  callSites := []
  init := .initialized
  statics := none
  mirror := none

def pool0 : Array CpInfo := pool [(5, u "<init>"), (0, u "()V"), (1, .class_ 10), (1, u "java/lang/Object"), (0, u "getClass"), (0, u "()Ljava/lang/Class;")] 111

def k0c0 : Code := { maxStack := 0, maxLocals := 1, code := object_method_1_code, exceptionTable := #[], attributes := #[] }
def k0m0 : Method := { name := "<init>", desc := "()V", sig := { parameters := [], returnType := none }, accessFlags := 1, code := some k0c0 }
def k0m1 : Method := { name := "getClass", desc := "()Ljava/lang/Class;", sig := { parameters := [], returnType := some (.object "java/lang/Class") }, accessFlags := 273, code := none }
/-- java/lang/Object -/
def k0 : Class := { plain "java/lang/Object" none with
  accessFlags := 33
  interfaces := #[]
  cf := some (fileOf pool0 8 #[] #[{ accessFlags := 1, nameIndex := 5, descriptorIndex := 6, attributes := #[] }, { accessFlags := 273, nameIndex := 11, descriptorIndex := 12, attributes := #[] }] 33 0 #[] #[])
  fields := #[]
  methods := #[k0m0, k0m1]
  instanceTypes := #[]
  staticTypes := #[]
  resolved := Array.replicate 124 none
  statics := none }

def pool1 : Array CpInfo := pool [(2, .class_ 4), (0, .nameAndType 5 6), (0, u "java/lang/Object"), (0, u "<init>"), (0, u "()V"), (0, .methodref 8 9), (0, .class_ 10), (0, .nameAndType 11 12), (0, u "com/example/ontology_over_tables/ontologyovertables/mapping/TermMapConstantPinLaw"), (0, u "text"), (0, u "(I)Ljava/lang/String;"), (0, .class_ 14), (0, u "com/example/ontology_over_tables/ontologyovertables/mapping/SqlIdentifier"), (0, .methodref 16 17), (0, .class_ 18), (0, .nameAndType 19 20), (0, u "java/lang/String"), (0, u "valueOf"), (0, u "(C)Ljava/lang/String;"), (0, .methodref 13 22), (0, .nameAndType 5 23), (0, u "(Ljava/lang/String;Z)V"), (0, .class_ 25), (0, u "com/example/ontology_over_tables/ontologyovertables/mapping/TriplesMap$TermMap$Column"), (0, .methodref 24 27), (0, .nameAndType 5 28), (0, u "(Lcom/example/ontology_over_tables/ontologyovertables/mapping/SqlIdentifier;)V"), (0, .class_ 30), (0, u "com/example/ontology_over_tables/ontologyovertables/mapping/TriplesMap$TermMap$Text"), (0, .methodref 29 32), (0, .nameAndType 5 33), (0, u "(Ljava/lang/String;)V"), (0, .class_ 35), (0, u "java/util/ArrayList"), (0, .methodref 34 3), (0, .methodref 34 38), (0, .nameAndType 39 40), (0, u "add"), (0, u "(Ljava/lang/Object;)Z"), (0, .class_ 42), (0, u "com/example/ontology_over_tables/ontologyovertables/mapping/TriplesMap$TermMap"), (0, .methodref 41 44), (0, .nameAndType 5 45), (0, u "(Ljava/util/List;ZZ)V"), (0, .methodref 41 47), (0, .nameAndType 48 49), (0, u "constant"), (0, u "()Ljava/util/Optional;"), (0, .methodref 51 52), (0, .class_ 53), (0, .nameAndType 54 55), (0, u "java/util/Optional"), (0, u "isPresent"), (0, u "()Z"), (0, .methodref 8 57), (0, .nameAndType 58 59), (0, u "put"), (0, u "([CILjava/lang/String;)I"), (0, .methodref 51 61), (0, .nameAndType 62 63), (0, u "get"), (0, u "()Ljava/lang/Object;"), (0, .methodref 8 65), (0, .nameAndType 66 67), (0, u "same"), (0, u "(Ljava/lang/String;[CI)Z"), (0, .methodref 16 69), (0, .nameAndType 5 70), (0, u "([C)V"), (0, .methodref 16 72), (0, .nameAndType 73 74), (0, u "length"), (0, u "()I"), (0, .methodref 16 76), (0, .nameAndType 77 78), (0, u "charAt"), (0, u "(I)C"), (2, u "law"), (0, u "(IIIII)Z")] 11

def k1m0 : Method := { name := "<init>", desc := "()V", sig := { parameters := [], returnType := none }, accessFlags := 2, code := none }
def k1c1 : Code := { maxStack := 5, maxLocals := 25, code := code, exceptionTable := #[], attributes := #[] }
def k1m1 : Method := { name := "law", desc := "(IIIII)Z", sig := { parameters := [.int, .int, .int, .int, .int], returnType := some .boolean }, accessFlags := 9, code := some k1c1 }
def k1c2 : Code := { maxStack := 3, maxLocals := 5, code := method_3_code, exceptionTable := #[], attributes := #[] }
def k1m2 : Method := { name := "text", desc := "(I)Ljava/lang/String;", sig := { parameters := [.int], returnType := some (.object "java/lang/String") }, accessFlags := 10, code := some k1c2 }
def k1c3 : Code := { maxStack := 4, maxLocals := 3, code := method_4_code, exceptionTable := #[], attributes := #[] }
def k1m3 : Method := { name := "put", desc := "([CILjava/lang/String;)I", sig := { parameters := [(.array .char), .int, (.object "java/lang/String")], returnType := some .int }, accessFlags := 10, code := some k1c3 }
def k1c4 : Code := { maxStack := 3, maxLocals := 3, code := method_5_code, exceptionTable := #[], attributes := #[] }
def k1m4 : Method := { name := "same", desc := "(Ljava/lang/String;[CI)Z", sig := { parameters := [(.object "java/lang/String"), (.array .char), .int], returnType := some .boolean }, accessFlags := 10, code := some k1c4 }
/-- com/example/ontology_over_tables/ontologyovertables/mapping/TermMapConstantPinLaw -/
def k1 : Class := { plain "com/example/ontology_over_tables/ontologyovertables/mapping/TermMapConstantPinLaw" (some 0) with
  accessFlags := 49
  interfaces := #[]
  cf := some (fileOf pool1 8 #[] #[{ accessFlags := 2, nameIndex := 5, descriptorIndex := 6, attributes := #[] }, { accessFlags := 9, nameIndex := 81, descriptorIndex := 82, attributes := #[] }, { accessFlags := 10, nameIndex := 11, descriptorIndex := 12, attributes := #[] }, { accessFlags := 10, nameIndex := 58, descriptorIndex := 59, attributes := #[] }, { accessFlags := 10, nameIndex := 66, descriptorIndex := 67, attributes := #[] }] 49 2 #[] #[])
  fields := #[]
  methods := #[k1m0, k1m1, k1m2, k1m3, k1m4]
  instanceTypes := #[]
  staticTypes := #[]
  resolved := Array.replicate 94 none
  statics := none }

def pool2 : Array CpInfo := pool [(1, .class_ 2), (0, u "java/io/Serializable"), (0, .class_ 4), (0, u "java/lang/Object")] 2

/-- java/io/Serializable -/
def k2 : Class := { plain "java/io/Serializable" (some 0) with
  accessFlags := 1537
  interfaces := #[]
  cf := some (fileOf pool2 1 #[] #[] 1537 3 #[] #[])
  fields := #[]
  methods := #[]
  instanceTypes := #[]
  staticTypes := #[]
  resolved := Array.replicate 7 none
  statics := none }

def pool3 : Array CpInfo := pool [(1, .class_ 2), (0, u "java/lang/Comparable"), (0, .class_ 4), (0, u "java/lang/Object")] 7

/-- java/lang/Comparable -/
def k3 : Class := { plain "java/lang/Comparable" (some 0) with
  accessFlags := 1537
  interfaces := #[]
  cf := some (fileOf pool3 1 #[] #[] 1537 3 #[] #[])
  fields := #[]
  methods := #[]
  instanceTypes := #[]
  staticTypes := #[]
  resolved := Array.replicate 12 none
  statics := none }

def pool4 : Array CpInfo := pool [(2, .class_ 4), (1, u "java/lang/CharSequence"), (42, .class_ 48), (0, u "java/lang/CharSequence$1CodePointIterator"), (10, .class_ 60), (0, u "java/lang/CharSequence$1CharIterator"), (5, .class_ 67), (0, u "java/lang/Object")] 63

/-- java/lang/CharSequence -/
def k4 : Class := { plain "java/lang/CharSequence" (some 0) with
  accessFlags := 1537
  interfaces := #[]
  cf := some (fileOf pool4 2 #[.nestMembers #[47, 59]] #[] 1537 66 #[] #[])
  fields := #[]
  methods := #[]
  instanceTypes := #[]
  staticTypes := #[]
  resolved := Array.replicate 131 none
  statics := none }

def pool5 : Array CpInfo := pool [(1, .class_ 2), (0, u "java/lang/constant/Constable"), (0, .class_ 4), (0, u "java/lang/Object")] 6

/-- java/lang/constant/Constable -/
def k5 : Class := { plain "java/lang/constant/Constable" (some 0) with
  accessFlags := 1537
  interfaces := #[]
  cf := some (fileOf pool5 1 #[] #[] 1537 3 #[] #[])
  fields := #[]
  methods := #[]
  instanceTypes := #[]
  staticTypes := #[]
  resolved := Array.replicate 11 none
  statics := none }

def pool6 : Array CpInfo := pool [(1, .class_ 2), (0, u "java/lang/constant/ConstantDesc"), (0, .class_ 4), (0, u "java/lang/Object")] 32

/-- java/lang/constant/ConstantDesc -/
def k6 : Class := { plain "java/lang/constant/ConstantDesc" (some 0) with
  accessFlags := 1537
  interfaces := #[]
  cf := some (fileOf pool6 1 #[] #[] 1537 3 #[] #[])
  fields := #[]
  methods := #[]
  instanceTypes := #[]
  staticTypes := #[]
  resolved := Array.replicate 37 none
  statics := none }

def pool7 : Array CpInfo := pool [(1, .methodref 2 3), (0, .class_ 4), (0, .nameAndType 5 6), (0, u "java/lang/Object"), (0, u "<init>"), (0, u "()V"), (0, .string 8), (0, u ""), (0, .fieldref 10 11), (0, .class_ 12), (0, .nameAndType 13 14), (0, u "java/lang/String"), (0, u "value"), (0, u "[B"), (0, .fieldref 10 16), (0, .nameAndType 17 18), (0, u "coder"), (0, u "B"), (2, u "hash"), (0, u "I"), (2, u "hashIsZero"), (0, u "Z"), (0, .methodref 10 28), (0, .nameAndType 5 29), (0, u "([CIILjava/lang/Void;)V"), (8, .fieldref 10 39), (0, .nameAndType 40 26), (0, u "COMPACT_STRINGS"), (1, .class_ 44), (1, u "java/lang/StringUTF16"), (0, u "compress"), (1, .methodref 42 48), (0, .nameAndType 49 50), (0, u "coderFromArrayLen"), (0, u "([BI)B"), (2, u "toBytes"), (0, .methodref 55 56), (0, .class_ 57), (0, .nameAndType 58 59), (0, u "java/util/Arrays"), (0, u "copyOfRange"), (0, u "([BII)[B"), (47, .class_ 109), (1, u "java/lang/StringLatin1"), (32, u "()Z"), (34, .methodref 42 178), (0, .nameAndType 45 179), (0, u "([CII)[B"), (13, .class_ 195), (1, u "java/lang/System"), (13, .methodref 10 210), (0, .nameAndType 5 211), (0, u "([BB)V"), (0, .methodref 193 213), (0, .nameAndType 214 215), (0, u "arraycopy"), (0, u "(Ljava/lang/Object;ILjava/lang/Object;II)V"), (118, u "()I"), (0, .methodref 10 336), (0, .nameAndType 17 337), (0, u "()B"), (2, u "()[B"), (22, u "([BI)C"), (5, u "(C)Z"), (21, u "(II)V"), (35, u "(I)C"), (61, .methodref 10 490), (0, .nameAndType 5 491), (0, u "(Ljava/lang/AbstractStringBuilder;Ljava/lang/Void;)V"), (0, .methodref 10 493), (0, .nameAndType 494 142), (0, u "isLatin1"), (0, .methodref 107 496), (0, .nameAndType 497 363), (0, u "charAt"), (3, u "checkIndex"), (4, .nameAndType 507 334), (0, u "length"), (24, u "getBytes"), (16, .methodref 550 506), (0, .class_ 551), (0, u "java/lang/AbstractStringBuilder"), (0, .methodref 550 553), (0, .nameAndType 554 340), (0, u "getValue"), (20, .class_ 576), (0, u "java/lang/CharSequence"), (22, u "CASE_INSENSITIVE_ORDER"), (0, u "Ljava/util/Comparator;"), (181, u "valueOf"), (0, u "(C)Ljava/lang/String;"), (37, u "([BIB)V"), (188, u "([C)V"), (4, .methodref 107 1016), (0, .nameAndType 1017 369), (0, u "canEncode"), (0, .methodref 107 1019), (0, .nameAndType 53 1020), (0, u "(C)[B"), (26, .methodref 550 493), (5, .fieldref 1054 1055), (0, .class_ 1056), (0, .nameAndType 1057 1058), (0, u "jdk/internal/util/Preconditions"), (0, u "SIOOBE_FORMATTER"), (0, u "Ljava/util/function/BiFunction;"), (0, .methodref 1054 1060), (0, .nameAndType 501 1061), (0, u "(IILjava/util/function/BiFunction;)I"), (39, u "serialPersistentFields"), (0, u "[Ljava/io/ObjectStreamField;"), (0, .class_ 1104), (0, u "java/lang/String$CaseInsensitiveComparator"), (1, .class_ 1107), (0, u "java/io/Serializable"), (0, .class_ 1109), (0, u "java/lang/Comparable"), (0, .class_ 1111), (0, u "java/lang/constant/Constable"), (0, .class_ 1113), (0, u "java/lang/constant/ConstantDesc"), (2, u "serialVersionUID"), (0, u "J"), (3, u "REPL"), (0, u "C"), (2, u "LATIN1"), (1, u "UTF16"), (105, u "(Ljava/lang/StringBuilder;)V")] 217

def k7m0 : Method := { name := "<init>", desc := "()V", sig := { parameters := [], returnType := none }, accessFlags := 1, code := none }
def k7c1 : Code := { maxStack := 5, maxLocals := 2, code := jdk_42_method_3_code, exceptionTable := #[], attributes := #[] }
def k7m1 : Method := { name := "<init>", desc := "([C)V", sig := { parameters := [(.array .char)], returnType := none }, accessFlags := 1, code := some k7c1 }
def k7c2 : Code := { maxStack := 3, maxLocals := 2, code := jdk_42_method_53_code, exceptionTable := #[], attributes := #[] }
def k7m2 : Method := { name := "<init>", desc := "(Ljava/lang/StringBuilder;)V", sig := { parameters := [(.object "java/lang/StringBuilder")], returnType := none }, accessFlags := 1, code := some k7c2 }
def k7c3 : Code := { maxStack := 2, maxLocals := 1, code := jdk_42_method_54_code, exceptionTable := #[], attributes := #[] }
def k7m3 : Method := { name := "length", desc := "()I", sig := { parameters := [], returnType := some .int }, accessFlags := 1, code := some k7c3 }
def k7c4 : Code := { maxStack := 2, maxLocals := 2, code := jdk_42_method_56_code, exceptionTable := #[], attributes := #[] }
def k7m4 : Method := { name := "charAt", desc := "(I)C", sig := { parameters := [.int], returnType := some .char }, accessFlags := 1, code := some k7c4 }
def k7c5 : Code := { maxStack := 4, maxLocals := 1, code := jdk_42_method_139_code, exceptionTable := #[], attributes := #[] }
def k7m5 : Method := { name := "valueOf", desc := "(C)Ljava/lang/String;", sig := { parameters := [.char], returnType := some (.object "java/lang/String") }, accessFlags := 9, code := some k7c5 }
def k7c6 : Code := { maxStack := 5, maxLocals := 4, code := jdk_42_method_147_code, exceptionTable := #[], attributes := #[] }
def k7m6 : Method := { name := "getBytes", desc := "([BIB)V", sig := { parameters := [(.array .byte), .int, .byte], returnType := none }, accessFlags := 0, code := some k7c6 }
def k7c7 : Code := { maxStack := 4, maxLocals := 6, code := jdk_42_method_149_code, exceptionTable := #[], attributes := #[] }
def k7m7 : Method := { name := "<init>", desc := "([CIILjava/lang/Void;)V", sig := { parameters := [(.array .char), .int, .int, (.object "java/lang/Void")], returnType := none }, accessFlags := 2, code := some k7c7 }
def k7c8 : Code := { maxStack := 5, maxLocals := 5, code := jdk_42_method_150_code, exceptionTable := #[], attributes := #[] }
def k7m8 : Method := { name := "<init>", desc := "(Ljava/lang/AbstractStringBuilder;Ljava/lang/Void;)V", sig := { parameters := [(.object "java/lang/AbstractStringBuilder"), (.object "java/lang/Void")], returnType := none }, accessFlags := 0, code := some k7c8 }
def k7c9 : Code := { maxStack := 2, maxLocals := 3, code := jdk_42_method_151_code, exceptionTable := #[], attributes := #[] }
def k7m9 : Method := { name := "<init>", desc := "([BB)V", sig := { parameters := [(.array .byte), .byte], returnType := none }, accessFlags := 0, code := some k7c9 }
def k7c10 : Code := { maxStack := 1, maxLocals := 1, code := jdk_42_method_152_code, exceptionTable := #[], attributes := #[] }
def k7m10 : Method := { name := "coder", desc := "()B", sig := { parameters := [], returnType := some .byte }, accessFlags := 0, code := some k7c10 }
def k7c11 : Code := { maxStack := 1, maxLocals := 1, code := jdk_42_method_154_code, exceptionTable := #[], attributes := #[] }
def k7m11 : Method := { name := "isLatin1", desc := "()Z", sig := { parameters := [], returnType := some .boolean }, accessFlags := 0, code := some k7c11 }
def k7c12 : Code := { maxStack := 3, maxLocals := 2, code := jdk_42_method_155_code, exceptionTable := #[], attributes := #[] }
def k7m12 : Method := { name := "checkIndex", desc := "(II)V", sig := { parameters := [.int, .int], returnType := none }, accessFlags := 8, code := some k7c12 }
/-- java/lang/String -/
def k7 : Class := { plain "java/lang/String" (some 0) with
  accessFlags := 49
  interfaces := #[2, 3, 4, 5, 6]
  cf := some (fileOf pool7 10 #[.nestMembers #[1103]] #[{ accessFlags := 1, nameIndex := 5, descriptorIndex := 6, attributes := #[] }, { accessFlags := 1, nameIndex := 5, descriptorIndex := 1010, attributes := #[] }, { accessFlags := 1, nameIndex := 5, descriptorIndex := 1233, attributes := #[] }, { accessFlags := 1, nameIndex := 507, descriptorIndex := 334, attributes := #[] }, { accessFlags := 1, nameIndex := 497, descriptorIndex := 427, attributes := #[] }, { accessFlags := 9, nameIndex := 782, descriptorIndex := 783, attributes := #[] }, { accessFlags := 0, nameIndex := 532, descriptorIndex := 821, attributes := #[] }, { accessFlags := 2, nameIndex := 5, descriptorIndex := 29, attributes := #[] }, { accessFlags := 0, nameIndex := 5, descriptorIndex := 491, attributes := #[] }, { accessFlags := 0, nameIndex := 5, descriptorIndex := 211, attributes := #[] }, { accessFlags := 0, nameIndex := 17, descriptorIndex := 337, attributes := #[] }, { accessFlags := 0, nameIndex := 494, descriptorIndex := 142, attributes := #[] }, { accessFlags := 8, nameIndex := 501, descriptorIndex := 391, attributes := #[] }] 49 2 #[1106, 1108, 575, 1110, 1112] #[{ accessFlags := 18, nameIndex := 13, descriptorIndex := 14, attributes := #[] }, { accessFlags := 18, nameIndex := 17, descriptorIndex := 18, attributes := #[] }, { accessFlags := 2, nameIndex := 21, descriptorIndex := 22, attributes := #[] }, { accessFlags := 2, nameIndex := 25, descriptorIndex := 26, attributes := #[] }, { accessFlags := 26, nameIndex := 1116, descriptorIndex := 1117, attributes := #[] }, { accessFlags := 24, nameIndex := 40, descriptorIndex := 26, attributes := #[] }, { accessFlags := 26, nameIndex := 1101, descriptorIndex := 1102, attributes := #[] }, { accessFlags := 26, nameIndex := 1121, descriptorIndex := 1122, attributes := #[] }, { accessFlags := 25, nameIndex := 599, descriptorIndex := 600, attributes := #[] }, { accessFlags := 24, nameIndex := 1125, descriptorIndex := 18, attributes := #[] }, { accessFlags := 24, nameIndex := 1127, descriptorIndex := 18, attributes := #[] }])
  fields := #[{ name := "value", type := (.array .byte), accessFlags := 18, slot := 0, constantValue := 0 }, { name := "coder", type := .byte, accessFlags := 18, slot := 1, constantValue := 0 }, { name := "hash", type := .int, accessFlags := 2, slot := 2, constantValue := 0 }, { name := "hashIsZero", type := .boolean, accessFlags := 2, slot := 3, constantValue := 0 }, { name := "serialVersionUID", type := .long, accessFlags := 26, slot := 0, constantValue := 0 }, { name := "COMPACT_STRINGS", type := .boolean, accessFlags := 24, slot := 1, constantValue := 0 }, { name := "serialPersistentFields", type := (.array (.object "java/io/ObjectStreamField")), accessFlags := 26, slot := 2, constantValue := 0 }, { name := "REPL", type := .char, accessFlags := 26, slot := 3, constantValue := 0 }, { name := "CASE_INSENSITIVE_ORDER", type := (.object "java/util/Comparator"), accessFlags := 25, slot := 4, constantValue := 0 }, { name := "LATIN1", type := .byte, accessFlags := 24, slot := 5, constantValue := 0 }, { name := "UTF16", type := .byte, accessFlags := 24, slot := 6, constantValue := 0 }]
  methods := #[k7m0, k7m1, k7m2, k7m3, k7m4, k7m5, k7m6, k7m7, k7m8, k7m9, k7m10, k7m11, k7m12]
  instanceTypes := #[(.array .byte), .byte, .int, .boolean]
  staticTypes := #[.long, .boolean, (.array (.object "java/io/ObjectStreamField")), .char, (.object "java/util/Comparator"), .byte, .byte]
  resolved := Array.replicate 1451 none
  statics := some 0 }

def pool8 : Array CpInfo := pool [(1, .methodref 2 3), (0, .class_ 4), (0, .nameAndType 5 6), (0, u "java/lang/Object"), (0, u "<init>"), (0, u "()V"), (0, .class_ 8), (0, u "java/lang/Record")] 13

def k8c0 : Code := { maxStack := 1, maxLocals := 1, code := jdk_30_method_1_code, exceptionTable := #[], attributes := #[] }
def k8m0 : Method := { name := "<init>", desc := "()V", sig := { parameters := [], returnType := none }, accessFlags := 4, code := some k8c0 }
/-- java/lang/Record -/
def k8 : Class := { plain "java/lang/Record" (some 0) with
  accessFlags := 1057
  interfaces := #[]
  cf := some (fileOf pool8 7 #[] #[{ accessFlags := 4, nameIndex := 5, descriptorIndex := 6, attributes := #[] }] 1057 2 #[] #[])
  fields := #[]
  methods := #[k8m0]
  instanceTypes := #[]
  staticTypes := #[]
  resolved := Array.replicate 22 none
  statics := none }

def pool9 : Array CpInfo := pool [(1, .methodref 2 3), (0, .class_ 4), (0, .nameAndType 5 6), (0, u "java/lang/Record"), (0, u "<init>"), (0, u "()V"), (0, .fieldref 8 9), (0, .class_ 10), (0, .nameAndType 11 12), (0, u "com/example/ontology_over_tables/ontologyovertables/mapping/SqlIdentifier"), (0, u "name"), (0, u "Ljava/lang/String;"), (0, .fieldref 8 14), (0, .nameAndType 15 16), (0, u "delimited"), (0, u "Z"), (2, u "REGULAR"), (0, u "Ljava/util/regex/Pattern;"), (14, u "(Ljava/lang/String;Z)V"), (73, .class_ 111), (1, u "com/example/ontology_over_tables/ontologyovertables/mapping/SqlIdentifier$Folding")] 80

def k9c0 : Code := { maxStack := 2, maxLocals := 3, code := prog_7_method_1_code, exceptionTable := #[], attributes := #[] }
def k9m0 : Method := { name := "<init>", desc := "(Ljava/lang/String;Z)V", sig := { parameters := [(.object "java/lang/String"), .boolean], returnType := none }, accessFlags := 0, code := some k9c0 }
/-- com/example/ontology_over_tables/ontologyovertables/mapping/SqlIdentifier -/
def k9 : Class := { plain "com/example/ontology_over_tables/ontologyovertables/mapping/SqlIdentifier" (some 8) with
  accessFlags := 48
  interfaces := #[]
  cf := some (fileOf pool9 8 #[.nestMembers #[109]] #[{ accessFlags := 0, nameIndex := 5, descriptorIndex := 35, attributes := #[] }] 48 2 #[] #[{ accessFlags := 18, nameIndex := 11, descriptorIndex := 12, attributes := #[] }, { accessFlags := 18, nameIndex := 15, descriptorIndex := 16, attributes := #[] }, { accessFlags := 26, nameIndex := 19, descriptorIndex := 20, attributes := #[] }])
  fields := #[{ name := "name", type := (.object "java/lang/String"), accessFlags := 18, slot := 0, constantValue := 0 }, { name := "delimited", type := .boolean, accessFlags := 18, slot := 1, constantValue := 0 }, { name := "REGULAR", type := (.object "java/util/regex/Pattern"), accessFlags := 26, slot := 0, constantValue := 0 }]
  methods := #[k9m0]
  instanceTypes := #[(.object "java/lang/String"), .boolean]
  staticTypes := #[(.object "java/util/regex/Pattern")]
  resolved := Array.replicate 192 none
  statics := none }

def pool10 : Array CpInfo := pool [(1, .class_ 2), (0, u "java/lang/String"), (1, .class_ 6), (1, u "java/lang/Object"), (0, u "<init>"), (0, u "()V"), (0, .methodref 1 10), (0, .nameAndType 11 12), (0, u "checkIndex"), (0, u "(II)V"), (1, .class_ 16), (1, u "java/lang/StringLatin1"), (36, u "([BI)C"), (36, u "canEncode"), (14, u "(C)Z"), (15, u "$assertionsDisabled"), (0, u "Z"), (98, .class_ 223), (1, u "java/lang/StringLatin1$LinesSpliterator"), (28, u "charAt"), (127, u "toBytes"), (1, u "(C)[B"), (7, .class_ 391), (0, u "java/lang/StringLatin1$CharsSpliterator")] 3

def k10m0 : Method := { name := "<init>", desc := "()V", sig := { parameters := [], returnType := none }, accessFlags := 0, code := none }
def k10c1 : Code := { maxStack := 2, maxLocals := 2, code := jdk_43_method_2_code, exceptionTable := #[], attributes := #[] }
def k10m1 : Method := { name := "charAt", desc := "([BI)C", sig := { parameters := [(.array .byte), .int], returnType := some .char }, accessFlags := 9, code := some k10c1 }
def k10c2 : Code := { maxStack := 2, maxLocals := 1, code := jdk_43_method_3_code, exceptionTable := #[], attributes := #[] }
def k10m2 : Method := { name := "canEncode", desc := "(C)Z", sig := { parameters := [.char], returnType := some .boolean }, accessFlags := 9, code := some k10c2 }
def k10c3 : Code := { maxStack := 4, maxLocals := 1, code := jdk_43_method_46_code, exceptionTable := #[], attributes := #[] }
def k10m3 : Method := { name := "toBytes", desc := "(C)[B", sig := { parameters := [.char], returnType := some (.array .byte) }, accessFlags := 9, code := some k10c3 }
/-- java/lang/StringLatin1 -/
def k10 : Class := { plain "java/lang/StringLatin1" (some 0) with
  accessFlags := 48
  interfaces := #[]
  cf := some (fileOf pool10 14 #[.nestMembers #[390, 221]] #[{ accessFlags := 0, nameIndex := 7, descriptorIndex := 8, attributes := #[] }, { accessFlags := 9, nameIndex := 252, descriptorIndex := 53, attributes := #[] }, { accessFlags := 9, nameIndex := 90, descriptorIndex := 105, attributes := #[] }, { accessFlags := 9, nameIndex := 380, descriptorIndex := 382, attributes := #[] }] 48 4 #[] #[{ accessFlags := 4120, nameIndex := 121, descriptorIndex := 122, attributes := #[] }])
  fields := #[{ name := "$assertionsDisabled", type := .boolean, accessFlags := 4120, slot := 0, constantValue := 0 }]
  methods := #[k10m0, k10m1, k10m2, k10m3]
  instanceTypes := #[]
  staticTypes := #[.boolean]
  resolved := Array.replicate 395 none
  statics := none }

def pool11 : Array CpInfo := pool [(1, .class_ 2), (0, u "com/example/ontology_over_tables/ontologyovertables/mapping/TriplesMap$TermMap$Part"), (0, .class_ 4), (0, u "java/lang/Object"), (3, .class_ 9), (0, u "com/example/ontology_over_tables/ontologyovertables/mapping/TriplesMap")] 12

/-- com/example/ontology_over_tables/ontologyovertables/mapping/TriplesMap$TermMap$Part -/
def k11 : Class := { plain "com/example/ontology_over_tables/ontologyovertables/mapping/TriplesMap$TermMap$Part" (some 0) with
  accessFlags := 1536
  interfaces := #[]
  cf := some (fileOf pool11 1 #[.nestHost 8] #[] 1536 3 #[] #[])
  fields := #[]
  methods := #[]
  instanceTypes := #[]
  staticTypes := #[]
  resolved := Array.replicate 22 none
  statics := none }

def pool12 : Array CpInfo := pool [(1, .methodref 2 3), (0, .class_ 4), (0, .nameAndType 5 6), (0, u "java/lang/Record"), (0, u "<init>"), (0, u "()V"), (0, .string 8), (0, u "name"), (0, .methodref 10 11), (0, .class_ 12), (0, .nameAndType 13 14), (0, u "java/util/Objects"), (0, u "requireNonNull"), (0, u "(Ljava/lang/Object;Ljava/lang/String;)Ljava/lang/Object;"), (0, .fieldref 16 17), (0, .class_ 18), (0, .nameAndType 8 19), (0, u "com/example/ontology_over_tables/ontologyovertables/mapping/TriplesMap$TermMap$Column"), (0, u "Lcom/example/ontology_over_tables/ontologyovertables/mapping/SqlIdentifier;"), (12, .class_ 33), (0, u "com/example/ontology_over_tables/ontologyovertables/mapping/TriplesMap$TermMap$Part"), (0, u "(Lcom/example/ontology_over_tables/ontologyovertables/mapping/SqlIdentifier;)V"), (10, .class_ 46), (0, u "com/example/ontology_over_tables/ontologyovertables/mapping/TriplesMap")] 21

def k12c0 : Code := { maxStack := 2, maxLocals := 2, code := prog_19_method_1_code, exceptionTable := #[], attributes := #[] }
def k12m0 : Method := { name := "<init>", desc := "(Lcom/example/ontology_over_tables/ontologyovertables/mapping/SqlIdentifier;)V", sig := { parameters := [(.object "com/example/ontology_over_tables/ontologyovertables/mapping/SqlIdentifier")], returnType := none }, accessFlags := 0, code := some k12c0 }
/-- com/example/ontology_over_tables/ontologyovertables/mapping/TriplesMap$TermMap$Column -/
def k12 : Class := { plain "com/example/ontology_over_tables/ontologyovertables/mapping/TriplesMap$TermMap$Column" (some 8) with
  accessFlags := 48
  interfaces := #[11]
  cf := some (fileOf pool12 16 #[.nestHost 45] #[{ accessFlags := 0, nameIndex := 5, descriptorIndex := 34, attributes := #[] }] 48 2 #[32] #[{ accessFlags := 18, nameIndex := 8, descriptorIndex := 19, attributes := #[] }])
  fields := #[{ name := "name", type := (.object "com/example/ontology_over_tables/ontologyovertables/mapping/SqlIdentifier"), accessFlags := 18, slot := 0, constantValue := 0 }]
  methods := #[k12m0]
  instanceTypes := #[(.object "com/example/ontology_over_tables/ontologyovertables/mapping/SqlIdentifier")]
  staticTypes := #[]
  resolved := Array.replicate 68 none
  statics := none }

def pool13 : Array CpInfo := pool [(2, .class_ 4), (1, u "java/lang/Object"), (0, u "<init>"), (0, u "()V"), (35, .class_ 44), (1, u "java/util/Objects"), (0, u "requireNonNull"), (0, u "(Ljava/lang/Object;)Ljava/lang/Object;"), (47, u "(Ljava/lang/Object;Ljava/lang/String;)Ljava/lang/Object;")] 89

def k13m0 : Method := { name := "<init>", desc := "()V", sig := { parameters := [], returnType := none }, accessFlags := 2, code := none }
def k13c1 : Code := { maxStack := 2, maxLocals := 1, code := jdk_31_method_10_code, exceptionTable := #[], attributes := #[] }
def k13m1 : Method := { name := "requireNonNull", desc := "(Ljava/lang/Object;)Ljava/lang/Object;", sig := { parameters := [(.object "java/lang/Object")], returnType := some (.object "java/lang/Object") }, accessFlags := 9, code := some k13c1 }
def k13c2 : Code := { maxStack := 3, maxLocals := 2, code := jdk_31_method_11_code, exceptionTable := #[], attributes := #[] }
def k13m2 : Method := { name := "requireNonNull", desc := "(Ljava/lang/Object;Ljava/lang/String;)Ljava/lang/Object;", sig := { parameters := [(.object "java/lang/Object"), (.object "java/lang/String")], returnType := some (.object "java/lang/Object") }, accessFlags := 9, code := some k13c2 }
/-- java/util/Objects -/
def k13 : Class := { plain "java/util/Objects" (some 0) with
  accessFlags := 49
  interfaces := #[]
  cf := some (fileOf pool13 42 #[] #[{ accessFlags := 2, nameIndex := 5, descriptorIndex := 6, attributes := #[] }, { accessFlags := 9, nameIndex := 45, descriptorIndex := 46, attributes := #[] }, { accessFlags := 9, nameIndex := 45, descriptorIndex := 94, attributes := #[] }] 49 2 #[] #[])
  fields := #[]
  methods := #[k13m0, k13m1, k13m2]
  instanceTypes := #[]
  staticTypes := #[]
  resolved := Array.replicate 184 none
  statics := none }

def pool14 : Array CpInfo := pool [(1, .methodref 2 3), (0, .class_ 4), (0, .nameAndType 5 6), (0, u "java/lang/Record"), (0, u "<init>"), (0, u "()V"), (0, .string 8), (0, u "text"), (0, .methodref 10 11), (0, .class_ 12), (0, .nameAndType 13 14), (0, u "java/util/Objects"), (0, u "requireNonNull"), (0, u "(Ljava/lang/Object;Ljava/lang/String;)Ljava/lang/Object;"), (0, .fieldref 16 17), (0, .class_ 18), (0, .nameAndType 8 19), (0, u "com/example/ontology_over_tables/ontologyovertables/mapping/TriplesMap$TermMap$Text"), (0, u "Ljava/lang/String;"), (12, .class_ 33), (0, u "com/example/ontology_over_tables/ontologyovertables/mapping/TriplesMap$TermMap$Part"), (0, u "(Ljava/lang/String;)V"), (3, u "()Ljava/lang/String;"), (5, .class_ 45), (0, u "com/example/ontology_over_tables/ontologyovertables/mapping/TriplesMap")] 21

def k14c0 : Code := { maxStack := 2, maxLocals := 2, code := prog_21_method_1_code, exceptionTable := #[], attributes := #[] }
def k14m0 : Method := { name := "<init>", desc := "(Ljava/lang/String;)V", sig := { parameters := [(.object "java/lang/String")], returnType := none }, accessFlags := 0, code := some k14c0 }
def k14c1 : Code := { maxStack := 1, maxLocals := 1, code := prog_21_method_5_code, exceptionTable := #[], attributes := #[] }
def k14m1 : Method := { name := "text", desc := "()Ljava/lang/String;", sig := { parameters := [], returnType := some (.object "java/lang/String") }, accessFlags := 1, code := some k14c1 }
/-- com/example/ontology_over_tables/ontologyovertables/mapping/TriplesMap$TermMap$Text -/
def k14 : Class := { plain "com/example/ontology_over_tables/ontologyovertables/mapping/TriplesMap$TermMap$Text" (some 8) with
  accessFlags := 48
  interfaces := #[11]
  cf := some (fileOf pool14 16 #[.nestHost 44] #[{ accessFlags := 0, nameIndex := 5, descriptorIndex := 34, attributes := #[] }, { accessFlags := 1, nameIndex := 8, descriptorIndex := 38, attributes := #[] }] 48 2 #[32] #[{ accessFlags := 18, nameIndex := 8, descriptorIndex := 19, attributes := #[] }])
  fields := #[{ name := "text", type := (.object "java/lang/String"), accessFlags := 18, slot := 0, constantValue := 0 }]
  methods := #[k14m0, k14m1]
  instanceTypes := #[(.object "java/lang/String")]
  staticTypes := #[]
  resolved := Array.replicate 67 none
  statics := none }

def pool15 : Array CpInfo := pool [(8, .class_ 10), (1, u "java/lang/Iterable"), (24, .class_ 36), (0, u "java/lang/Object")] 25

/-- java/lang/Iterable -/
def k15 : Class := { plain "java/lang/Iterable" (some 0) with
  accessFlags := 1537
  interfaces := #[]
  cf := some (fileOf pool15 8 #[] #[] 1537 35 #[] #[])
  fields := #[]
  methods := #[]
  instanceTypes := #[]
  staticTypes := #[]
  resolved := Array.replicate 62 none
  statics := none }

def pool16 : Array CpInfo := pool [(10, .class_ 12), (1, u "java/util/Collection"), (0, u "toArray"), (16, u "()Z"), (29, .class_ 61), (0, u "java/lang/Object"), (0, .class_ 63), (0, u "java/lang/Iterable"), (2, u "isEmpty"), (3, u "()[Ljava/lang/Object;")] 44

def k16m0 : Method := { name := "isEmpty", desc := "()Z", sig := { parameters := [], returnType := some .boolean }, accessFlags := 1025, code := none }
def k16m1 : Method := { name := "toArray", desc := "()[Ljava/lang/Object;", sig := { parameters := [], returnType := some (.array (.object "java/lang/Object")) }, accessFlags := 1025, code := none }
/-- java/util/Collection -/
def k16 : Class := { plain "java/util/Collection" (some 0) with
  accessFlags := 1537
  interfaces := #[15]
  cf := some (fileOf pool16 10 #[] #[{ accessFlags := 1025, nameIndex := 66, descriptorIndex := 30, attributes := #[] }, { accessFlags := 1025, nameIndex := 13, descriptorIndex := 70, attributes := #[] }] 1537 60 #[62] #[])
  fields := #[]
  methods := #[k16m0, k16m1]
  instanceTypes := #[]
  staticTypes := #[]
  resolved := Array.replicate 115 none
  statics := none }

def pool17 : Array CpInfo := pool [(1, .methodref 2 3), (0, .class_ 4), (0, .nameAndType 5 6), (0, u "java/lang/Object"), (0, u "<init>"), (0, u "()V"), (1, .class_ 10), (1, u "java/util/AbstractCollection"), (0, u "size"), (0, u "()I"), (64, .class_ 78), (0, u "java/util/Collection")] 81

def k17c0 : Code := { maxStack := 1, maxLocals := 1, code := jdk_22_method_1_code, exceptionTable := #[], attributes := #[] }
def k17m0 : Method := { name := "<init>", desc := "()V", sig := { parameters := [], returnType := none }, accessFlags := 4, code := some k17c0 }
def k17m1 : Method := { name := "size", desc := "()I", sig := { parameters := [], returnType := some .int }, accessFlags := 1025, code := none }
/-- java/util/AbstractCollection -/
def k17 : Class := { plain "java/util/AbstractCollection" (some 0) with
  accessFlags := 1057
  interfaces := #[16]
  cf := some (fileOf pool17 8 #[] #[{ accessFlags := 4, nameIndex := 5, descriptorIndex := 6, attributes := #[] }, { accessFlags := 1025, nameIndex := 11, descriptorIndex := 12, attributes := #[] }] 1057 2 #[77] #[])
  fields := #[]
  methods := #[k17m0, k17m1]
  instanceTypes := #[]
  staticTypes := #[]
  resolved := Array.replicate 160 none
  statics := none }

def pool18 : Array CpInfo := pool [(8, .class_ 10), (1, u "java/util/SequencedCollection"), (15, .class_ 27), (0, u "java/lang/Object"), (0, .class_ 29), (0, u "java/util/Collection")] 27

/-- java/util/SequencedCollection -/
def k18 : Class := { plain "java/util/SequencedCollection" (some 0) with
  accessFlags := 1537
  interfaces := #[16]
  cf := some (fileOf pool18 8 #[] #[] 1537 26 #[28] #[])
  fields := #[]
  methods := #[]
  instanceTypes := #[]
  staticTypes := #[]
  resolved := Array.replicate 57 none
  statics := none }

def pool19 : Array CpInfo := pool [(8, .class_ 10), (1, u "java/util/List"), (20, u "(Ljava/lang/Object;)V"), (16, u "<init>"), (26, u "get"), (0, u "(I)Ljava/lang/Object;"), (11, u "of"), (1, .fieldref 91 92), (0, .class_ 93), (0, .nameAndType 94 95), (0, u "java/util/ImmutableCollections"), (0, u "EMPTY_LIST"), (0, u "Ljava/util/ImmutableCollections$ListN;"), (0, .class_ 97), (0, u "java/util/ImmutableCollections$List12"), (0, .methodref 96 99), (0, .nameAndType 48 31), (0, .methodref 96 101), (0, .nameAndType 48 102), (0, u "(Ljava/lang/Object;Ljava/lang/Object;)V"), (0, .class_ 104), (0, u "java/lang/Object"), (3, u "([Ljava/lang/Object;)Ljava/util/List;"), (0, .methodref 91 110), (0, .nameAndType 111 108), (0, u "listFromArray"), (0, .methodref 91 113), (0, .nameAndType 114 115), (0, u "listCopy"), (0, u "(Ljava/util/Collection;)Ljava/util/List;"), (3, u "()Ljava/util/List;"), (0, .class_ 121), (0, u "java/util/SequencedCollection"), (1, u "iterator"), (0, u "()Ljava/util/Iterator;"), (109, u "copyOf")] 16

def k19m0 : Method := { name := "iterator", desc := "()Ljava/util/Iterator;", sig := { parameters := [], returnType := some (.object "java/util/Iterator") }, accessFlags := 1025, code := none }
def k19m1 : Method := { name := "get", desc := "(I)Ljava/lang/Object;", sig := { parameters := [.int], returnType := some (.object "java/lang/Object") }, accessFlags := 1025, code := none }
def k19c2 : Code := { maxStack := 1, maxLocals := 0, code := jdk_40_method_36_code, exceptionTable := #[], attributes := #[] }
def k19m2 : Method := { name := "of", desc := "()Ljava/util/List;", sig := { parameters := [], returnType := some (.object "java/util/List") }, accessFlags := 9, code := some k19c2 }
def k19c3 : Code := { maxStack := 5, maxLocals := 2, code := jdk_40_method_47_code, exceptionTable := #[], attributes := #[] }
def k19m3 : Method := { name := "of", desc := "([Ljava/lang/Object;)Ljava/util/List;", sig := { parameters := [(.array (.object "java/lang/Object"))], returnType := some (.object "java/util/List") }, accessFlags := 137, code := some k19c3 }
def k19c4 : Code := { maxStack := 1, maxLocals := 1, code := jdk_40_method_48_code, exceptionTable := #[], attributes := #[] }
def k19m4 : Method := { name := "copyOf", desc := "(Ljava/util/Collection;)Ljava/util/List;", sig := { parameters := [(.object "java/util/Collection")], returnType := some (.object "java/util/List") }, accessFlags := 9, code := some k19c4 }
/-- java/util/List -/
def k19 : Class := { plain "java/util/List" (some 0) with
  accessFlags := 1537
  interfaces := #[18]
  cf := some (fileOf pool19 8 #[] #[{ accessFlags := 1025, nameIndex := 123, descriptorIndex := 124, attributes := #[] }, { accessFlags := 1025, nameIndex := 75, descriptorIndex := 76, attributes := #[] }, { accessFlags := 9, nameIndex := 88, descriptorIndex := 119, attributes := #[] }, { accessFlags := 137, nameIndex := 88, descriptorIndex := 108, attributes := #[] }, { accessFlags := 9, nameIndex := 234, descriptorIndex := 115, attributes := #[] }] 1537 103 #[120] #[])
  fields := #[]
  methods := #[k19m0, k19m1, k19m2, k19m3, k19m4]
  instanceTypes := #[]
  staticTypes := #[]
  resolved := Array.replicate 251 none
  statics := none }

def pool20 : Array CpInfo := pool [(1, .methodref 2 3), (0, .class_ 4), (0, .nameAndType 5 6), (0, u "java/util/AbstractCollection"), (0, u "<init>"), (0, u "()V"), (0, .fieldref 8 9), (0, .class_ 10), (0, .nameAndType 11 12), (0, u "java/util/AbstractList"), (0, u "modCount"), (0, u "I"), (64, .class_ 78), (0, u "java/util/AbstractList$Itr"), (3, .class_ 83), (0, u "java/util/AbstractList$ListItr"), (9, .class_ 94), (0, u "java/util/AbstractList$RandomAccessSubList"), (3, .class_ 99), (0, u "java/util/AbstractList$SubList"), (33, .class_ 134), (0, u "java/util/List"), (73, .class_ 209), (0, u "java/util/AbstractList$SubList$1"), (0, .class_ 211), (0, u "java/util/AbstractList$RandomAccessSpliterator")] 6

def k20c0 : Code := { maxStack := 2, maxLocals := 1, code := jdk_39_method_1_code, exceptionTable := #[], attributes := #[] }
def k20m0 : Method := { name := "<init>", desc := "()V", sig := { parameters := [], returnType := none }, accessFlags := 4, code := some k20c0 }
/-- java/util/AbstractList -/
def k20 : Class := { plain "java/util/AbstractList" (some 17) with
  accessFlags := 1057
  interfaces := #[19]
  cf := some (fileOf pool20 8 #[.nestMembers #[93, 98, 208, 210, 82, 77]] #[{ accessFlags := 4, nameIndex := 5, descriptorIndex := 6, attributes := #[] }] 1057 2 #[133] #[{ accessFlags := 132, nameIndex := 11, descriptorIndex := 12, attributes := #[] }])
  fields := #[{ name := "modCount", type := .int, accessFlags := 132, slot := 0, constantValue := 0 }]
  methods := #[k20m0]
  instanceTypes := #[.int]
  staticTypes := #[]
  resolved := Array.replicate 218 none
  statics := none }

def pool21 : Array CpInfo := pool [(1, .class_ 2), (0, u "java/util/RandomAccess"), (0, .class_ 4), (0, u "java/lang/Object")] 2

/-- java/util/RandomAccess -/
def k21 : Class := { plain "java/util/RandomAccess" (some 0) with
  accessFlags := 1537
  interfaces := #[]
  cf := some (fileOf pool21 1 #[] #[] 1537 3 #[] #[])
  fields := #[]
  methods := #[]
  instanceTypes := #[]
  staticTypes := #[]
  resolved := Array.replicate 7 none
  statics := none }

def pool22 : Array CpInfo := pool [(1, .class_ 2), (0, u "java/lang/Cloneable"), (0, .class_ 4), (0, u "java/lang/Object")] 2

/-- java/lang/Cloneable -/
def k22 : Class := { plain "java/lang/Cloneable" (some 0) with
  accessFlags := 1537
  interfaces := #[]
  cf := some (fileOf pool22 1 #[] #[] 1537 3 #[] #[])
  fields := #[]
  methods := #[]
  instanceTypes := #[]
  staticTypes := #[]
  resolved := Array.replicate 7 none
  statics := none }

def pool23 : Array CpInfo := pool [(1, .methodref 2 3), (0, .class_ 4), (0, .nameAndType 5 6), (0, u "java/util/AbstractList"), (0, u "<init>"), (0, u "()V"), (0, .class_ 8), (0, u "java/lang/Object"), (0, .fieldref 10 11), (0, .class_ 12), (0, .nameAndType 13 14), (0, u "java/util/ArrayList"), (0, u "elementData"), (0, u "[Ljava/lang/Object;"), (2, u "EMPTY_ELEMENTDATA"), (21, .fieldref 10 40), (0, .nameAndType 41 14), (0, u "DEFAULTCAPACITY_EMPTY_ELEMENTDATA"), (4, u "toArray"), (0, u "()[Ljava/lang/Object;"), (0, .fieldref 10 49), (0, .nameAndType 50 51), (0, u "size"), (0, u "I"), (6, .class_ 60), (1, u "java/util/Arrays"), (0, u "copyOf"), (1, .fieldref 10 64), (0, .nameAndType 65 51), (0, u "modCount"), (0, .methodref 58 67), (0, .nameAndType 61 68), (0, u "([Ljava/lang/Object;I)[Ljava/lang/Object;"), (0, .methodref 10 70), (0, .nameAndType 71 72), (0, u "grow"), (0, u "(I)[Ljava/lang/Object;"), (6, .methodref 80 81), (0, .class_ 82), (0, .nameAndType 83 84), (0, u "java/lang/Math"), (0, u "max"), (0, u "(II)I"), (11, u "(Ljava/lang/Object;)Z"), (32, .methodref 10 130), (0, .nameAndType 71 47), (0, .methodref 10 132), (0, .nameAndType 133 134), (0, u "add"), (0, u "(Ljava/lang/Object;[Ljava/lang/Object;I)V"), (13, .class_ 149), (0, u "java/util/List"), (23, u "()Z"), (88, .class_ 263), (0, u "java/util/ArrayList$ListItr"), (3, .class_ 268), (0, u "java/util/ArrayList$Itr"), (7, .class_ 277), (0, u "java/util/ArrayList$SubList"), (12, .class_ 291), (0, u "java/util/ArrayList$ArrayListSpliterator"), (37, .class_ 330), (0, u "java/util/RandomAccess"), (0, .class_ 332), (0, u "java/lang/Cloneable"), (0, .class_ 334), (0, u "java/io/Serializable"), (0, u "serialVersionUID"), (0, u "J"), (3, u "DEFAULT_CAPACITY"), (22, u "isEmpty"), (136, .class_ 501), (0, u "java/util/ArrayList$SubList$2"), (0, .class_ 503), (0, u "java/util/ArrayList$SubList$1")] 5

def k23c0 : Code := { maxStack := 2, maxLocals := 1, code := jdk_38_method_2_code, exceptionTable := #[], attributes := #[] }
def k23m0 : Method := { name := "<init>", desc := "()V", sig := { parameters := [], returnType := none }, accessFlags := 1, code := some k23c0 }
def k23c1 : Code := { maxStack := 4, maxLocals := 4, code := jdk_38_method_6_code, exceptionTable := #[], attributes := #[] }
def k23m1 : Method := { name := "grow", desc := "(I)[Ljava/lang/Object;", sig := { parameters := [.int], returnType := some (.array (.object "java/lang/Object")) }, accessFlags := 2, code := some k23c1 }
def k23c2 : Code := { maxStack := 3, maxLocals := 1, code := jdk_38_method_7_code, exceptionTable := #[], attributes := #[] }
def k23m2 : Method := { name := "grow", desc := "()[Ljava/lang/Object;", sig := { parameters := [], returnType := some (.array (.object "java/lang/Object")) }, accessFlags := 2, code := some k23c2 }
def k23c3 : Code := { maxStack := 1, maxLocals := 1, code := jdk_38_method_9_code, exceptionTable := #[], attributes := #[] }
def k23m3 : Method := { name := "isEmpty", desc := "()Z", sig := { parameters := [], returnType := some .boolean }, accessFlags := 1, code := some k23c3 }
def k23c4 : Code := { maxStack := 2, maxLocals := 1, code := jdk_38_method_16_code, exceptionTable := #[], attributes := #[] }
def k23m4 : Method := { name := "toArray", desc := "()[Ljava/lang/Object;", sig := { parameters := [], returnType := some (.array (.object "java/lang/Object")) }, accessFlags := 1, code := some k23c4 }
def k23c5 : Code := { maxStack := 3, maxLocals := 4, code := jdk_38_method_24_code, exceptionTable := #[], attributes := #[] }
def k23m5 : Method := { name := "add", desc := "(Ljava/lang/Object;[Ljava/lang/Object;I)V", sig := { parameters := [(.object "java/lang/Object"), (.array (.object "java/lang/Object")), .int], returnType := none }, accessFlags := 2, code := some k23c5 }
def k23c6 : Code := { maxStack := 4, maxLocals := 2, code := jdk_38_method_25_code, exceptionTable := #[], attributes := #[] }
def k23m6 : Method := { name := "add", desc := "(Ljava/lang/Object;)Z", sig := { parameters := [(.object "java/lang/Object")], returnType := some .boolean }, accessFlags := 1, code := some k23c6 }
/-- java/util/ArrayList -/
def k23 : Class := { plain "java/util/ArrayList" (some 20) with
  accessFlags := 33
  interfaces := #[19, 21, 22, 2]
  cf := some (fileOf pool23 10 #[.nestMembers #[290, 276, 500, 502, 262, 267]] #[{ accessFlags := 1, nameIndex := 5, descriptorIndex := 6, attributes := #[] }, { accessFlags := 2, nameIndex := 71, descriptorIndex := 72, attributes := #[] }, { accessFlags := 2, nameIndex := 71, descriptorIndex := 47, attributes := #[] }, { accessFlags := 1, nameIndex := 363, descriptorIndex := 173, attributes := #[] }, { accessFlags := 1, nameIndex := 46, descriptorIndex := 47, attributes := #[] }, { accessFlags := 2, nameIndex := 133, descriptorIndex := 134, attributes := #[] }, { accessFlags := 1, nameIndex := 133, descriptorIndex := 96, attributes := #[] }] 33 2 #[148, 329, 331, 333] #[{ accessFlags := 26, nameIndex := 335, descriptorIndex := 336, attributes := #[] }, { accessFlags := 26, nameIndex := 340, descriptorIndex := 51, attributes := #[] }, { accessFlags := 26, nameIndex := 17, descriptorIndex := 14, attributes := #[] }, { accessFlags := 26, nameIndex := 41, descriptorIndex := 14, attributes := #[] }, { accessFlags := 128, nameIndex := 13, descriptorIndex := 14, attributes := #[] }, { accessFlags := 2, nameIndex := 50, descriptorIndex := 51, attributes := #[] }])
  fields := #[{ name := "serialVersionUID", type := .long, accessFlags := 26, slot := 0, constantValue := 0 }, { name := "DEFAULT_CAPACITY", type := .int, accessFlags := 26, slot := 1, constantValue := 0 }, { name := "EMPTY_ELEMENTDATA", type := (.array (.object "java/lang/Object")), accessFlags := 26, slot := 2, constantValue := 0 }, { name := "DEFAULTCAPACITY_EMPTY_ELEMENTDATA", type := (.array (.object "java/lang/Object")), accessFlags := 26, slot := 3, constantValue := 0 }, { name := "elementData", type := (.array (.object "java/lang/Object")), accessFlags := 128, slot := 1, constantValue := 0 }, { name := "size", type := .int, accessFlags := 2, slot := 2, constantValue := 0 }]
  methods := #[k23m0, k23m1, k23m2, k23m3, k23m4, k23m5, k23m6]
  instanceTypes := #[.int, (.array (.object "java/lang/Object")), .int]
  staticTypes := #[.long, .int, (.array (.object "java/lang/Object")), (.array (.object "java/lang/Object"))]
  resolved := Array.replicate 509 none
  statics := some 1 }

def pool24 : Array CpInfo := pool [(1, .methodref 2 3), (0, .class_ 4), (0, .nameAndType 5 6), (0, u "java/lang/Record"), (0, u "<init>"), (0, u "()V"), (0, .interfaceMethodref 8 9), (0, .class_ 10), (0, .nameAndType 11 12), (0, u "java/util/List"), (0, u "copyOf"), (0, u "(Ljava/util/Collection;)Ljava/util/List;"), (0, .fieldref 14 15), (0, .class_ 16), (0, .nameAndType 17 18), (0, u "com/example/ontology_over_tables/ontologyovertables/mapping/TriplesMap$TermMap"), (0, u "parts"), (0, u "Ljava/util/List;"), (0, .fieldref 14 20), (0, .nameAndType 21 22), (0, u "iri"), (0, u "Z"), (0, .fieldref 14 24), (0, .nameAndType 25 22), (0, u "iriSafe"), (3, .interfaceMethodref 8 30), (0, .nameAndType 31 32), (0, u "iterator"), (0, u "()Ljava/util/Iterator;"), (0, .interfaceMethodref 34 35), (0, .class_ 36), (0, .nameAndType 37 38), (0, u "java/util/Iterator"), (0, u "hasNext"), (0, u "()Z"), (0, .interfaceMethodref 34 40), (0, .nameAndType 41 42), (0, u "next"), (0, u "()Ljava/lang/Object;"), (0, .class_ 44), (0, u "com/example/ontology_over_tables/ontologyovertables/mapping/TriplesMap$TermMap$Part"), (10, .class_ 56), (0, u "java/lang/StringBuilder"), (0, .methodref 55 3), (0, .class_ 59), (0, u "com/example/ontology_over_tables/ontologyovertables/mapping/TriplesMap$TermMap$Text"), (0, .methodref 58 61), (0, .nameAndType 62 63), (0, u "text"), (0, u "()Ljava/lang/String;"), (0, .methodref 55 65), (0, .nameAndType 66 67), (0, u "append"), (0, u "(Ljava/lang/String;)Ljava/lang/StringBuilder;"), (0, .methodref 69 70), (0, .class_ 71), (0, .nameAndType 72 73), (0, u "java/util/Optional"), (0, u "empty"), (0, u "()Ljava/util/Optional;"), (0, .methodref 55 75), (0, .nameAndType 76 63), (0, u "toString"), (0, .methodref 69 78), (0, .nameAndType 79 80), (0, u "of"), (0, u "(Ljava/lang/Object;)Ljava/util/Optional;"), (13, u "(Ljava/util/List;ZZ)V"), (8, u "constant"), (6, .class_ 111), (0, u "com/example/ontology_over_tables/ontologyovertables/mapping/TriplesMap")] 24

def k24c0 : Code := { maxStack := 2, maxLocals := 4, code := prog_18_method_1_code, exceptionTable := #[], attributes := #[] }
def k24m0 : Method := { name := "<init>", desc := "(Ljava/util/List;ZZ)V", sig := { parameters := [(.object "java/util/List"), .boolean, .boolean], returnType := none }, accessFlags := 0, code := some k24c0 }
def k24c1 : Code := { maxStack := 2, maxLocals := 5, code := prog_18_method_3_code, exceptionTable := #[], attributes := #[] }
def k24m1 : Method := { name := "constant", desc := "()Ljava/util/Optional;", sig := { parameters := [], returnType := some (.object "java/util/Optional") }, accessFlags := 0, code := some k24c1 }
/-- com/example/ontology_over_tables/ontologyovertables/mapping/TriplesMap$TermMap -/
def k24 : Class := { plain "com/example/ontology_over_tables/ontologyovertables/mapping/TriplesMap$TermMap" (some 8) with
  accessFlags := 48
  interfaces := #[]
  cf := some (fileOf pool24 14 #[.nestHost 110] #[{ accessFlags := 0, nameIndex := 5, descriptorIndex := 94, attributes := #[] }, { accessFlags := 0, nameIndex := 103, descriptorIndex := 73, attributes := #[] }] 48 2 #[] #[{ accessFlags := 18, nameIndex := 17, descriptorIndex := 18, attributes := #[] }, { accessFlags := 18, nameIndex := 21, descriptorIndex := 22, attributes := #[] }, { accessFlags := 18, nameIndex := 25, descriptorIndex := 22, attributes := #[] }])
  fields := #[{ name := "parts", type := (.object "java/util/List"), accessFlags := 18, slot := 0, constantValue := 0 }, { name := "iri", type := .boolean, accessFlags := 18, slot := 1, constantValue := 0 }, { name := "iriSafe", type := .boolean, accessFlags := 18, slot := 2, constantValue := 0 }]
  methods := #[k24m0, k24m1]
  instanceTypes := #[(.object "java/util/List"), .boolean, .boolean]
  staticTypes := #[]
  resolved := Array.replicate 136 none
  statics := none }

def pool25 : Array CpInfo := pool [(2, .class_ 4), (1, u "java/lang/Object"), (0, u "<init>"), (0, u "()V"), (3, .class_ 11), (0, u "java/util/ImmutableCollections$List12"), (0, .class_ 13), (0, u "java/util/ImmutableCollections$ListN"), (3, u "Z"), (0, .class_ 19), (0, u "java/util/List"), (0, .interfaceMethodref 21 22), (0, .class_ 23), (0, .nameAndType 24 25), (0, u "java/util/Collection"), (0, u "isEmpty"), (0, u "()Z"), (0, .interfaceMethodref 18 27), (0, .nameAndType 28 29), (0, u "of"), (0, u "()Ljava/util/List;"), (0, .interfaceMethodref 21 31), (0, .nameAndType 32 33), (0, u "toArray"), (0, u "()[Ljava/lang/Object;"), (0, .interfaceMethodref 18 35), (0, .nameAndType 28 36), (0, u "([Ljava/lang/Object;)Ljava/util/List;"), (0, .methodref 38 39), (0, .class_ 40), (0, .nameAndType 41 42), (0, u "java/util/Objects"), (0, u "requireNonNull"), (0, u "(Ljava/lang/Object;)Ljava/lang/Object;"), (0, .methodref 12 44), (0, .nameAndType 5 45), (0, u "([Ljava/lang/Object;Z)V"), (1, .class_ 49), (1, u "java/util/ImmutableCollections"), (0, u "$assertionsDisabled"), (5, u "[Ljava/lang/Object;"), (5, u "EMPTY_LIST"), (0, u "Ljava/util/ImmutableCollections$ListN;"), (8, u "EMPTY_LIST_NULLS"), (22, u "SALT32L"), (0, u "J"), (2, u "REVERSE"), (6, u "archivedObjects"), (2, u "EMPTY"), (0, u "Ljava/lang/Object;"), (0, .class_ 112), (0, u "java/util/ImmutableCollections$SetN"), (5, u "EMPTY_SET"), (0, u "Ljava/util/ImmutableCollections$SetN;"), (0, .class_ 121), (0, u "java/util/ImmutableCollections$MapN"), (3, u "EMPTY_MAP"), (0, u "Ljava/util/ImmutableCollections$MapN;"), (4, u "EXPAND_FACTOR"), (0, u "I"), (9, u "listCopy"), (0, u "(Ljava/util/Collection;)Ljava/util/List;"), (7, u "listFromArray"), (17, .class_ 170), (0, u "java/util/ImmutableCollections$MapN$MapNIterator"), (0, .class_ 172), (0, u "java/util/ImmutableCollections$MapN$1"), (0, .class_ 174), (0, u "java/util/ImmutableCollections$Map1"), (0, .class_ 176), (0, u "java/util/ImmutableCollections$AbstractImmutableMap"), (0, .class_ 178), (0, u "java/util/ImmutableCollections$SetN$SetNIterator"), (0, .class_ 180), (0, u "java/util/ImmutableCollections$Set12"), (0, .class_ 182), (0, u "java/util/ImmutableCollections$Set12$1"), (0, .class_ 184), (0, u "java/util/ImmutableCollections$AbstractImmutableSet"), (0, .class_ 186), (0, u "java/util/ImmutableCollections$SubList"), (0, .class_ 188), (0, u "java/util/ImmutableCollections$ListItr"), (0, .class_ 190), (0, u "java/util/ImmutableCollections$AbstractImmutableList"), (0, .class_ 192), (0, u "java/util/ImmutableCollections$AbstractImmutableCollection"), (0, .class_ 194), (0, u "java/util/ImmutableCollections$Access"), (0, .class_ 196), (0, u "java/util/ImmutableCollections$Access$1")] 16

def k25m0 : Method := { name := "<init>", desc := "()V", sig := { parameters := [], returnType := none }, accessFlags := 2, code := none }
def k25c1 : Code := { maxStack := 1, maxLocals := 2, code := jdk_56_method_3_code, exceptionTable := #[], attributes := #[] }
def k25m1 : Method := { name := "listCopy", desc := "(Ljava/util/Collection;)Ljava/util/List;", sig := { parameters := [(.object "java/util/Collection")], returnType := some (.object "java/util/List") }, accessFlags := 8, code := some k25c1 }
def k25c2 : Code := { maxStack := 4, maxLocals := 3, code := jdk_56_method_4_code, exceptionTable := #[], attributes := #[] }
def k25m2 : Method := { name := "listFromArray", desc := "([Ljava/lang/Object;)Ljava/util/List;", sig := { parameters := [(.array (.object "java/lang/Object"))], returnType := some (.object "java/util/List") }, accessFlags := 136, code := some k25c2 }
/-- java/util/ImmutableCollections -/
def k25 : Class := { plain "java/util/ImmutableCollections" (some 0) with
  accessFlags := 32
  interfaces := #[]
  cf := some (fileOf pool25 47 #[.nestMembers #[120, 169, 171, 173, 175, 111, 177, 179, 181, 183, 12, 10, 185, 187, 189, 191, 193, 195]] #[{ accessFlags := 2, nameIndex := 5, descriptorIndex := 6, attributes := #[] }, { accessFlags := 8, nameIndex := 142, descriptorIndex := 143, attributes := #[] }, { accessFlags := 136, nameIndex := 151, descriptorIndex := 36, attributes := #[] }] 32 2 #[] #[{ accessFlags := 26, nameIndex := 95, descriptorIndex := 96, attributes := #[] }, { accessFlags := 26, nameIndex := 99, descriptorIndex := 17, attributes := #[] }, { accessFlags := 10, nameIndex := 106, descriptorIndex := 56, attributes := #[] }, { accessFlags := 26, nameIndex := 109, descriptorIndex := 110, attributes := #[] }, { accessFlags := 24, nameIndex := 62, descriptorIndex := 63, attributes := #[] }, { accessFlags := 24, nameIndex := 72, descriptorIndex := 63, attributes := #[] }, { accessFlags := 24, nameIndex := 118, descriptorIndex := 119, attributes := #[] }, { accessFlags := 24, nameIndex := 125, descriptorIndex := 126, attributes := #[] }, { accessFlags := 24, nameIndex := 131, descriptorIndex := 132, attributes := #[] }, { accessFlags := 4120, nameIndex := 50, descriptorIndex := 17, attributes := #[] }])
  fields := #[{ name := "SALT32L", type := .long, accessFlags := 26, slot := 0, constantValue := 0 }, { name := "REVERSE", type := .boolean, accessFlags := 26, slot := 1, constantValue := 0 }, { name := "archivedObjects", type := (.array (.object "java/lang/Object")), accessFlags := 10, slot := 2, constantValue := 0 }, { name := "EMPTY", type := (.object "java/lang/Object"), accessFlags := 26, slot := 3, constantValue := 0 }, { name := "EMPTY_LIST", type := (.object "java/util/ImmutableCollections$ListN"), accessFlags := 24, slot := 4, constantValue := 0 }, { name := "EMPTY_LIST_NULLS", type := (.object "java/util/ImmutableCollections$ListN"), accessFlags := 24, slot := 5, constantValue := 0 }, { name := "EMPTY_SET", type := (.object "java/util/ImmutableCollections$SetN"), accessFlags := 24, slot := 6, constantValue := 0 }, { name := "EMPTY_MAP", type := (.object "java/util/ImmutableCollections$MapN"), accessFlags := 24, slot := 7, constantValue := 0 }, { name := "EXPAND_FACTOR", type := .int, accessFlags := 24, slot := 8, constantValue := 0 }, { name := "$assertionsDisabled", type := .boolean, accessFlags := 4120, slot := 9, constantValue := 0 }]
  methods := #[k25m0, k25m1, k25m2]
  instanceTypes := #[]
  staticTypes := #[.long, .boolean, (.array (.object "java/lang/Object")), (.object "java/lang/Object"), (.object "java/util/ImmutableCollections$ListN"), (.object "java/util/ImmutableCollections$ListN"), (.object "java/util/ImmutableCollections$SetN"), (.object "java/util/ImmutableCollections$MapN"), .int, .boolean]
  resolved := Array.replicate 213 none
  statics := some 2 }

def pool26 : Array CpInfo := pool [(1, .methodref 2 3), (0, .class_ 4), (0, .nameAndType 5 6), (0, u "java/util/AbstractCollection"), (0, u "<init>"), (0, u "()V"), (1, .class_ 10), (1, u "java/util/ImmutableCollections"), (2, .class_ 14), (0, u "java/util/ImmutableCollections$AbstractImmutableCollection")] 41

def k26c0 : Code := { maxStack := 1, maxLocals := 1, code := jdk_47_method_1_code, exceptionTable := #[], attributes := #[] }
def k26m0 : Method := { name := "<init>", desc := "()V", sig := { parameters := [], returnType := none }, accessFlags := 0, code := some k26c0 }
/-- java/util/ImmutableCollections$AbstractImmutableCollection -/
def k26 : Class := { plain "java/util/ImmutableCollections$AbstractImmutableCollection" (some 17) with
  accessFlags := 1056
  interfaces := #[]
  cf := some (fileOf pool26 13 #[.nestHost 8] #[{ accessFlags := 0, nameIndex := 5, descriptorIndex := 6, attributes := #[] }] 1056 2 #[] #[])
  fields := #[]
  methods := #[k26m0]
  instanceTypes := #[]
  staticTypes := #[]
  resolved := Array.replicate 56 none
  statics := none }

def pool27 : Array CpInfo := pool [(1, .methodref 2 3), (0, .class_ 4), (0, .nameAndType 5 6), (0, u "java/util/ImmutableCollections$AbstractImmutableCollection"), (0, u "<init>"), (0, u "()V"), (1, .class_ 10), (1, u "java/util/ImmutableCollections"), (2, .methodref 14 15), (0, .class_ 16), (0, .nameAndType 17 18), (0, u "java/util/ImmutableCollections$AbstractImmutableList"), (0, u "size"), (0, u "()I"), (42, .class_ 62), (0, u "java/util/ImmutableCollections$ListItr"), (0, .methodref 61 64), (0, .nameAndType 5 65), (0, u "(Ljava/util/List;I)V"), (11, .class_ 78), (0, u "java/util/List"), (2, u "iterator"), (0, u "()Ljava/util/Iterator;"), (41, .class_ 125), (0, u "java/util/RandomAccess")] 70

def k27c0 : Code := { maxStack := 1, maxLocals := 1, code := jdk_46_method_1_code, exceptionTable := #[], attributes := #[] }
def k27m0 : Method := { name := "<init>", desc := "()V", sig := { parameters := [], returnType := none }, accessFlags := 0, code := some k27c0 }
def k27c1 : Code := { maxStack := 4, maxLocals := 1, code := jdk_46_method_10_code, exceptionTable := #[], attributes := #[] }
def k27m1 : Method := { name := "iterator", desc := "()Ljava/util/Iterator;", sig := { parameters := [], returnType := some (.object "java/util/Iterator") }, accessFlags := 1, code := some k27c1 }
/-- java/util/ImmutableCollections$AbstractImmutableList -/
def k27 : Class := { plain "java/util/ImmutableCollections$AbstractImmutableList" (some 26) with
  accessFlags := 1056
  interfaces := #[19, 21]
  cf := some (fileOf pool27 14 #[.nestHost 8] #[{ accessFlags := 0, nameIndex := 5, descriptorIndex := 6, attributes := #[] }, { accessFlags := 1, nameIndex := 81, descriptorIndex := 82, attributes := #[] }] 1056 2 #[77, 124] #[])
  fields := #[]
  methods := #[k27m0, k27m1]
  instanceTypes := #[]
  staticTypes := #[]
  resolved := Array.replicate 196 none
  statics := none }

def pool28 : Array CpInfo := pool [(1, .methodref 2 3), (0, .class_ 4), (0, .nameAndType 5 6), (0, u "java/util/ImmutableCollections$AbstractImmutableList"), (0, u "<init>"), (0, u "()V"), (0, .methodref 8 9), (0, .class_ 10), (0, .nameAndType 11 12), (0, u "java/util/Objects"), (0, u "requireNonNull"), (0, u "(Ljava/lang/Object;)Ljava/lang/Object;"), (0, .fieldref 14 15), (0, .class_ 16), (0, .nameAndType 17 18), (0, u "java/util/ImmutableCollections$List12"), (0, u "e0"), (0, u "Ljava/lang/Object;"), (0, .fieldref 20 21), (0, .class_ 22), (0, .nameAndType 23 18), (0, u "java/util/ImmutableCollections"), (0, u "EMPTY"), (0, .fieldref 14 25), (0, .nameAndType 26 18), (0, u "e1"), (24, u "size"), (0, u "()I"), (17, .class_ 71), (0, u "java/io/Serializable"), (4, u "(Ljava/lang/Object;)V"), (8, u "(Ljava/lang/Object;Ljava/lang/Object;)V"), (4, u "get"), (0, u "(I)Ljava/lang/Object;")] 33

def k28c0 : Code := { maxStack := 2, maxLocals := 2, code := jdk_44_method_1_code, exceptionTable := #[], attributes := #[] }
def k28m0 : Method := { name := "<init>", desc := "(Ljava/lang/Object;)V", sig := { parameters := [(.object "java/lang/Object")], returnType := none }, accessFlags := 0, code := some k28c0 }
def k28c1 : Code := { maxStack := 2, maxLocals := 3, code := jdk_44_method_2_code, exceptionTable := #[], attributes := #[] }
def k28m1 : Method := { name := "<init>", desc := "(Ljava/lang/Object;Ljava/lang/Object;)V", sig := { parameters := [(.object "java/lang/Object"), (.object "java/lang/Object")], returnType := none }, accessFlags := 0, code := some k28c1 }
def k28c2 : Code := { maxStack := 2, maxLocals := 1, code := jdk_44_method_3_code, exceptionTable := #[], attributes := #[] }
def k28m2 : Method := { name := "size", desc := "()I", sig := { parameters := [], returnType := some .int }, accessFlags := 1, code := some k28c2 }
def k28c3 : Code := { maxStack := 2, maxLocals := 2, code := jdk_44_method_5_code, exceptionTable := #[], attributes := #[] }
def k28m3 : Method := { name := "get", desc := "(I)Ljava/lang/Object;", sig := { parameters := [.int], returnType := some (.object "java/lang/Object") }, accessFlags := 1, code := some k28c3 }
/-- java/util/ImmutableCollections$List12 -/
def k28 : Class := { plain "java/util/ImmutableCollections$List12" (some 27) with
  accessFlags := 48
  interfaces := #[2]
  cf := some (fileOf pool28 14 #[.nestHost 20] #[{ accessFlags := 0, nameIndex := 5, descriptorIndex := 76, attributes := #[] }, { accessFlags := 0, nameIndex := 5, descriptorIndex := 85, attributes := #[] }, { accessFlags := 1, nameIndex := 51, descriptorIndex := 52, attributes := #[] }, { accessFlags := 1, nameIndex := 90, descriptorIndex := 91, attributes := #[] }] 48 2 #[70] #[{ accessFlags := 18, nameIndex := 17, descriptorIndex := 18, attributes := #[] }, { accessFlags := 18, nameIndex := 26, descriptorIndex := 18, attributes := #[] }])
  fields := #[{ name := "e0", type := (.object "java/lang/Object"), accessFlags := 18, slot := 0, constantValue := 0 }, { name := "e1", type := (.object "java/lang/Object"), accessFlags := 18, slot := 1, constantValue := 0 }]
  methods := #[k28m0, k28m1, k28m2, k28m3]
  instanceTypes := #[(.object "java/lang/Object"), (.object "java/lang/Object")]
  staticTypes := #[]
  resolved := Array.replicate 125 none
  statics := none }

def pool29 : Array CpInfo := pool [(1, .methodref 2 3), (0, .class_ 4), (0, .nameAndType 5 6), (0, u "java/util/ImmutableCollections$AbstractImmutableList"), (0, u "<init>"), (0, u "()V"), (0, .fieldref 8 9), (0, .class_ 10), (0, .nameAndType 11 12), (0, u "java/util/ImmutableCollections$ListN"), (0, u "elements"), (0, u "[Ljava/lang/Object;"), (0, .fieldref 8 14), (0, .nameAndType 15 16), (0, u "allowNulls"), (0, u "Z"), (42, .class_ 60), (0, u "java/io/Serializable"), (4, u "([Ljava/lang/Object;Z)V"), (11, u "size"), (0, u "()I"), (0, u "get"), (0, u "(I)Ljava/lang/Object;"), (33, .class_ 115), (0, u "java/util/ImmutableCollections")] 3

def k29c0 : Code := { maxStack := 2, maxLocals := 3, code := jdk_45_method_1_code, exceptionTable := #[], attributes := #[] }
def k29m0 : Method := { name := "<init>", desc := "([Ljava/lang/Object;Z)V", sig := { parameters := [(.array (.object "java/lang/Object")), .boolean], returnType := none }, accessFlags := 2, code := some k29c0 }
def k29c1 : Code := { maxStack := 1, maxLocals := 1, code := jdk_45_method_3_code, exceptionTable := #[], attributes := #[] }
def k29m1 : Method := { name := "size", desc := "()I", sig := { parameters := [], returnType := some .int }, accessFlags := 1, code := some k29c1 }
def k29c2 : Code := { maxStack := 2, maxLocals := 2, code := jdk_45_method_4_code, exceptionTable := #[], attributes := #[] }
def k29m2 : Method := { name := "get", desc := "(I)Ljava/lang/Object;", sig := { parameters := [.int], returnType := some (.object "java/lang/Object") }, accessFlags := 1, code := some k29c2 }
/-- java/util/ImmutableCollections$ListN -/
def k29 : Class := { plain "java/util/ImmutableCollections$ListN" (some 27) with
  accessFlags := 48
  interfaces := #[2]
  cf := some (fileOf pool29 8 #[.nestHost 114] #[{ accessFlags := 2, nameIndex := 5, descriptorIndex := 65, attributes := #[] }, { accessFlags := 1, nameIndex := 77, descriptorIndex := 78, attributes := #[] }, { accessFlags := 1, nameIndex := 79, descriptorIndex := 80, attributes := #[] }] 48 2 #[59] #[{ accessFlags := 18, nameIndex := 11, descriptorIndex := 12, attributes := #[] }, { accessFlags := 18, nameIndex := 15, descriptorIndex := 16, attributes := #[] }])
  fields := #[{ name := "elements", type := (.array (.object "java/lang/Object")), accessFlags := 18, slot := 0, constantValue := 0 }, { name := "allowNulls", type := .boolean, accessFlags := 18, slot := 1, constantValue := 0 }]
  methods := #[k29m0, k29m1, k29m2]
  instanceTypes := #[(.array (.object "java/lang/Object")), .boolean]
  staticTypes := #[]
  resolved := Array.replicate 119 none
  statics := none }

def pool30 : Array CpInfo := pool [(1, .class_ 2), (0, u "java/lang/Appendable"), (0, .class_ 4), (0, u "java/lang/Object")] 9

/-- java/lang/Appendable -/
def k30 : Class := { plain "java/lang/Appendable" (some 0) with
  accessFlags := 1537
  interfaces := #[]
  cf := some (fileOf pool30 1 #[] #[] 1537 3 #[] #[])
  fields := #[]
  methods := #[]
  instanceTypes := #[]
  staticTypes := #[]
  resolved := Array.replicate 14 none
  statics := none }

def pool31 : Array CpInfo := pool [(1, .class_ 2), (0, u "java/lang/String"), (0, .methodref 4 5), (0, .class_ 6), (0, .nameAndType 7 8), (0, u "java/lang/Object"), (0, u "<init>"), (0, u "()V"), (1, .class_ 12), (1, u "java/lang/AbstractStringBuilder"), (0, u "EMPTYVALUE"), (0, u "[B"), (0, .fieldref 10 16), (0, .nameAndType 17 14), (0, u "value"), (0, .fieldref 1 19), (0, .nameAndType 20 21), (0, u "COMPACT_STRINGS"), (0, u "Z"), (0, .fieldref 10 23), (0, .nameAndType 24 25), (0, u "coder"), (0, u "B"), (6, .methodref 1 33), (0, .nameAndType 34 35), (0, u "length"), (0, u "()I"), (4, .methodref 1 41), (0, .nameAndType 24 42), (0, u "()B"), (2, u "append"), (0, u "(Ljava/lang/String;)Ljava/lang/AbstractStringBuilder;"), (1, .class_ 49), (0, u "java/lang/CharSequence"), (19, u "(Ljava/lang/String;)V"), (5, u "maybeLatin1"), (3, .fieldref 10 80), (0, .nameAndType 81 82), (0, u "count"), (0, u "I"), (2, u "isLatin1"), (0, u "()Z"), (13, .methodref 10 101), (0, .nameAndType 102 103), (0, u "ensureCapacityInternal"), (0, u "(I)V"), (104, .methodref 10 209), (0, .nameAndType 210 211), (0, u "putStringAt"), (0, u "(ILjava/lang/String;)V"), (5, u "inflateIfNeededFor"), (2, .nameAndType 221 222), (0, u "getBytes"), (0, u "([BIB)V"), (174, .methodref 10 398), (0, .nameAndType 217 69), (0, .methodref 1 220), (3, u "()[B"), (40, .class_ 445), (0, u "java/lang/Appendable"), (106, u "getValue")] 56

def k31m0 : Method := { name := "<init>", desc := "()V", sig := { parameters := [], returnType := none }, accessFlags := 0, code := none }
def k31c1 : Code := { maxStack := 2, maxLocals := 2, code := jdk_68_method_2_code, exceptionTable := #[], attributes := #[] }
def k31m1 : Method := { name := "<init>", desc := "(I)V", sig := { parameters := [.int], returnType := none }, accessFlags := 0, code := some k31c1 }
def k31c2 : Code := { maxStack := 1, maxLocals := 1, code := jdk_68_method_6_code, exceptionTable := #[], attributes := #[] }
def k31m2 : Method := { name := "length", desc := "()I", sig := { parameters := [], returnType := some .int }, accessFlags := 1, code := some k31c2 }
def k31c3 : Code := { maxStack := 4, maxLocals := 3, code := jdk_68_method_9_code, exceptionTable := #[], attributes := #[] }
def k31m3 : Method := { name := "ensureCapacityInternal", desc := "(I)V", sig := { parameters := [.int], returnType := none }, accessFlags := 2, code := some k31c3 }
def k31c4 : Code := { maxStack := 3, maxLocals := 3, code := jdk_68_method_22_code, exceptionTable := #[], attributes := #[] }
def k31m4 : Method := { name := "append", desc := "(Ljava/lang/String;)Ljava/lang/AbstractStringBuilder;", sig := { parameters := [(.object "java/lang/String")], returnType := some (.object "java/lang/AbstractStringBuilder") }, accessFlags := 1, code := some k31c4 }
def k31c5 : Code := { maxStack := 1, maxLocals := 1, code := jdk_68_method_64_code, exceptionTable := #[], attributes := #[] }
def k31m5 : Method := { name := "getValue", desc := "()[B", sig := { parameters := [], returnType := some (.array .byte) }, accessFlags := 16, code := some k31c5 }
def k31c6 : Code := { maxStack := 1, maxLocals := 1, code := jdk_68_method_68_code, exceptionTable := #[], attributes := #[] }
def k31m6 : Method := { name := "isLatin1", desc := "()Z", sig := { parameters := [], returnType := some .boolean }, accessFlags := 16, code := some k31c6 }
def k31c7 : Code := { maxStack := 2, maxLocals := 2, code := jdk_68_method_71_code, exceptionTable := #[], attributes := #[] }
def k31m7 : Method := { name := "inflateIfNeededFor", desc := "(Ljava/lang/String;)V", sig := { parameters := [(.object "java/lang/String")], returnType := none }, accessFlags := 2, code := some k31c7 }
def k31c8 : Code := { maxStack := 4, maxLocals := 3, code := jdk_68_method_73_code, exceptionTable := #[], attributes := #[] }
def k31m8 : Method := { name := "putStringAt", desc := "(ILjava/lang/String;)V", sig := { parameters := [.int, (.object "java/lang/String")], returnType := none }, accessFlags := 2, code := some k31c8 }
/-- java/lang/AbstractStringBuilder -/
def k31 : Class := { plain "java/lang/AbstractStringBuilder" (some 0) with
  accessFlags := 1056
  interfaces := #[30, 4]
  cf := some (fileOf pool31 10 #[] #[{ accessFlags := 0, nameIndex := 7, descriptorIndex := 8, attributes := #[] }, { accessFlags := 0, nameIndex := 7, descriptorIndex := 103, attributes := #[] }, { accessFlags := 1, nameIndex := 34, descriptorIndex := 35, attributes := #[] }, { accessFlags := 2, nameIndex := 102, descriptorIndex := 103, attributes := #[] }, { accessFlags := 1, nameIndex := 45, descriptorIndex := 46, attributes := #[] }, { accessFlags := 16, nameIndex := 552, descriptorIndex := 403, attributes := #[] }, { accessFlags := 16, nameIndex := 85, descriptorIndex := 86, attributes := #[] }, { accessFlags := 2, nameIndex := 217, descriptorIndex := 69, attributes := #[] }, { accessFlags := 2, nameIndex := 210, descriptorIndex := 211, attributes := #[] }] 1056 4 #[444, 48] #[{ accessFlags := 0, nameIndex := 17, descriptorIndex := 14, attributes := #[] }, { accessFlags := 0, nameIndex := 24, descriptorIndex := 25, attributes := #[] }, { accessFlags := 0, nameIndex := 75, descriptorIndex := 21, attributes := #[] }, { accessFlags := 0, nameIndex := 81, descriptorIndex := 82, attributes := #[] }, { accessFlags := 26, nameIndex := 13, descriptorIndex := 14, attributes := #[] }])
  fields := #[{ name := "value", type := (.array .byte), accessFlags := 0, slot := 0, constantValue := 0 }, { name := "coder", type := .byte, accessFlags := 0, slot := 1, constantValue := 0 }, { name := "maybeLatin1", type := .boolean, accessFlags := 0, slot := 2, constantValue := 0 }, { name := "count", type := .int, accessFlags := 0, slot := 3, constantValue := 0 }, { name := "EMPTYVALUE", type := (.array .byte), accessFlags := 26, slot := 0, constantValue := 0 }]
  methods := #[k31m0, k31m1, k31m2, k31m3, k31m4, k31m5, k31m6, k31m7, k31m8]
  instanceTypes := #[(.array .byte), .byte, .boolean, .int]
  staticTypes := #[(.array .byte)]
  resolved := Array.replicate 609 none
  statics := none }

def pool32 : Array CpInfo := pool [(1, .methodref 2 3), (0, .class_ 4), (0, .nameAndType 5 6), (0, u "java/lang/AbstractStringBuilder"), (0, u "<init>"), (0, u "(I)V"), (11, .class_ 20), (1, u "java/lang/String"), (3, .class_ 26), (1, u "java/lang/StringBuilder"), (0, u "append"), (0, u "(Ljava/lang/String;)Ljava/lang/StringBuilder;"), (0, .methodref 2 30), (0, .nameAndType 27 31), (0, u "(Ljava/lang/String;)Ljava/lang/AbstractStringBuilder;"), (105, .methodref 18 138), (0, .nameAndType 5 139), (0, u "(Ljava/lang/StringBuilder;)V"), (5, u "()V"), (10, u "()I"), (186, .methodref 2 344), (0, .nameAndType 345 156), (0, u "length"), (3, .class_ 350), (0, u "java/lang/Appendable"), (0, .class_ 352), (0, u "java/io/Serializable"), (0, .class_ 354), (0, u "java/lang/Comparable"), (0, .class_ 356), (0, u "java/lang/CharSequence"), (0, u "serialVersionUID"), (0, u "J"), (40, u "toString"), (0, u "()Ljava/lang/String;")] 21

def k32c0 : Code := { maxStack := 2, maxLocals := 1, code := jdk_67_method_1_code, exceptionTable := #[], attributes := #[] }
def k32m0 : Method := { name := "<init>", desc := "()V", sig := { parameters := [], returnType := none }, accessFlags := 1, code := some k32c0 }
def k32c1 : Code := { maxStack := 2, maxLocals := 2, code := jdk_67_method_7_code, exceptionTable := #[], attributes := #[] }
def k32m1 : Method := { name := "append", desc := "(Ljava/lang/String;)Ljava/lang/StringBuilder;", sig := { parameters := [(.object "java/lang/String")], returnType := some (.object "java/lang/StringBuilder") }, accessFlags := 1, code := some k32c1 }
def k32c2 : Code := { maxStack := 3, maxLocals := 1, code := jdk_67_method_42_code, exceptionTable := #[], attributes := #[] }
def k32m2 : Method := { name := "toString", desc := "()Ljava/lang/String;", sig := { parameters := [], returnType := some (.object "java/lang/String") }, accessFlags := 1, code := some k32c2 }
def k32c3 : Code := { maxStack := 1, maxLocals := 1, code := jdk_67_method_93_code, exceptionTable := #[], attributes := #[] }
def k32m3 : Method := { name := "length", desc := "()I", sig := { parameters := [], returnType := some .int }, accessFlags := 4161, code := some k32c3 }
/-- java/lang/StringBuilder -/
def k32 : Class := { plain "java/lang/StringBuilder" (some 31) with
  accessFlags := 49
  interfaces := #[30, 2, 3, 4]
  cf := some (fileOf pool32 24 #[] #[{ accessFlags := 1, nameIndex := 5, descriptorIndex := 145, attributes := #[] }, { accessFlags := 1, nameIndex := 27, descriptorIndex := 28, attributes := #[] }, { accessFlags := 1, nameIndex := 399, descriptorIndex := 400, attributes := #[] }, { accessFlags := 4161, nameIndex := 345, descriptorIndex := 156, attributes := #[] }] 49 2 #[349, 351, 353, 355] #[{ accessFlags := 24, nameIndex := 357, descriptorIndex := 358, attributes := #[] }])
  fields := #[{ name := "serialVersionUID", type := .long, accessFlags := 24, slot := 0, constantValue := 0 }]
  methods := #[k32m0, k32m1, k32m2, k32m3]
  instanceTypes := #[(.array .byte), .byte, .boolean, .int]
  staticTypes := #[.long]
  resolved := Array.replicate 422 none
  statics := none }

def pool33 : Array CpInfo := pool [(16, .class_ 18), (1, u "java/util/Iterator"), (0, u "hasNext"), (0, u "()Z"), (2, u "next"), (0, u "()Ljava/lang/Object;"), (6, .class_ 32), (0, u "java/lang/Object")] 20

def k33m0 : Method := { name := "hasNext", desc := "()Z", sig := { parameters := [], returnType := some .boolean }, accessFlags := 1025, code := none }
def k33m1 : Method := { name := "next", desc := "()Ljava/lang/Object;", sig := { parameters := [], returnType := some (.object "java/lang/Object") }, accessFlags := 1025, code := none }
/-- java/util/Iterator -/
def k33 : Class := { plain "java/util/Iterator" (some 0) with
  accessFlags := 1537
  interfaces := #[]
  cf := some (fileOf pool33 16 #[] #[{ accessFlags := 1025, nameIndex := 19, descriptorIndex := 20, attributes := #[] }, { accessFlags := 1025, nameIndex := 23, descriptorIndex := 24, attributes := #[] }] 1537 31 #[] #[])
  fields := #[]
  methods := #[k33m0, k33m1]
  instanceTypes := #[]
  staticTypes := #[]
  resolved := Array.replicate 53 none
  statics := none }

def pool34 : Array CpInfo := pool [(1, .class_ 2), (0, u "java/util/ListIterator"), (0, .class_ 4), (0, u "java/lang/Object"), (0, .class_ 6), (0, u "java/util/Iterator")] 20

/-- java/util/ListIterator -/
def k34 : Class := { plain "java/util/ListIterator" (some 0) with
  accessFlags := 1537
  interfaces := #[33]
  cf := some (fileOf pool34 1 #[] #[] 1537 3 #[5] #[])
  fields := #[]
  methods := #[]
  instanceTypes := #[]
  staticTypes := #[]
  resolved := Array.replicate 27 none
  statics := none }

def pool35 : Array CpInfo := pool [(1, .methodref 2 3), (0, .class_ 4), (0, .nameAndType 5 6), (0, u "java/lang/Object"), (0, u "<init>"), (0, u "()V"), (0, .fieldref 8 9), (0, .class_ 10), (0, .nameAndType 11 12), (0, u "java/util/ImmutableCollections$ListItr"), (0, u "list"), (0, u "Ljava/util/List;"), (0, .fieldref 8 14), (0, .nameAndType 15 16), (0, u "size"), (0, u "I"), (0, .fieldref 8 18), (0, .nameAndType 19 16), (0, u "cursor"), (0, .fieldref 8 21), (0, .nameAndType 22 23), (0, u "isListIterator"), (0, u "Z"), (0, .interfaceMethodref 25 26), (0, .class_ 27), (0, .nameAndType 28 29), (0, u "java/util/List"), (0, u "get"), (0, u "(I)Ljava/lang/Object;"), (6, .class_ 38), (1, u "java/util/ImmutableCollections"), (2, .class_ 42), (0, u "java/util/ListIterator"), (4, u "(Ljava/util/List;I)V"), (11, u "hasNext"), (0, u "()Z"), (1, u "next"), (0, u "()Ljava/lang/Object;")] 22

def k35c0 : Code := { maxStack := 2, maxLocals := 3, code := jdk_53_method_1_code, exceptionTable := #[], attributes := #[] }
def k35m0 : Method := { name := "<init>", desc := "(Ljava/util/List;I)V", sig := { parameters := [(.object "java/util/List"), .int], returnType := none }, accessFlags := 0, code := some k35c0 }
def k35c1 : Code := { maxStack := 2, maxLocals := 1, code := jdk_53_method_3_code, exceptionTable := #[], attributes := #[] }
def k35m1 : Method := { name := "hasNext", desc := "()Z", sig := { parameters := [], returnType := some .boolean }, accessFlags := 1, code := some k35c1 }
def k35c2 : Code := { maxStack := 3, maxLocals := 3, code := jdk_53_method_4_code, exceptionTable := #[{ startPc := 0, endPc := 24, handlerPc := 25, catchType := 30 }], attributes := #[] }
def k35m2 : Method := { name := "next", desc := "()Ljava/lang/Object;", sig := { parameters := [], returnType := some (.object "java/lang/Object") }, accessFlags := 1, code := some k35c2 }
/-- java/util/ImmutableCollections$ListItr -/
def k35 : Class := { plain "java/util/ImmutableCollections$ListItr" (some 0) with
  accessFlags := 48
  interfaces := #[34]
  cf := some (fileOf pool35 8 #[.nestHost 36] #[{ accessFlags := 0, nameIndex := 5, descriptorIndex := 47, attributes := #[] }, { accessFlags := 1, nameIndex := 59, descriptorIndex := 60, attributes := #[] }, { accessFlags := 1, nameIndex := 62, descriptorIndex := 63, attributes := #[] }] 48 2 #[41] #[{ accessFlags := 18, nameIndex := 11, descriptorIndex := 12, attributes := #[] }, { accessFlags := 18, nameIndex := 15, descriptorIndex := 16, attributes := #[] }, { accessFlags := 18, nameIndex := 22, descriptorIndex := 23, attributes := #[] }, { accessFlags := 2, nameIndex := 19, descriptorIndex := 16, attributes := #[] }])
  fields := #[{ name := "list", type := (.object "java/util/List"), accessFlags := 18, slot := 0, constantValue := 0 }, { name := "size", type := .int, accessFlags := 18, slot := 1, constantValue := 0 }, { name := "isListIterator", type := .boolean, accessFlags := 18, slot := 2, constantValue := 0 }, { name := "cursor", type := .int, accessFlags := 2, slot := 3, constantValue := 0 }]
  methods := #[k35m0, k35m1, k35m2]
  instanceTypes := #[(.object "java/util/List"), .int, .boolean, .int]
  staticTypes := #[]
  resolved := Array.replicate 86 none
  statics := none }

def pool36 : Array CpInfo := pool [(2, .class_ 4), (1, u "java/lang/Object"), (0, u "<init>"), (0, u "()V"), (7, .class_ 16), (1, u "java/util/Arrays"), (57, .class_ 76), (1, u "java/util/Arrays$NaturalOrder"), (9, .methodref 2 87), (0, .nameAndType 88 89), (0, u "getClass"), (0, u "()Ljava/lang/Class;"), (20, .class_ 111), (0, u "[Ljava/lang/Object;"), (1, .class_ 115), (1, u "java/util/Arrays$LegacyMergeSort"), (1, u "Z"), (21, u "copyOfRange"), (10, .methodref 151 152), (0, .class_ 153), (0, .nameAndType 154 155), (0, u "java/lang/System"), (0, u "arraycopy"), (0, u "(Ljava/lang/Object;ILjava/lang/Object;II)V"), (144, .methodref 14 301), (0, .nameAndType 302 303), (0, u "copyOf"), (0, u "([Ljava/lang/Object;ILjava/lang/Class;)[Ljava/lang/Object;"), (0, .methodref 305 306), (0, .class_ 307), (0, .nameAndType 308 309), (0, u "java/lang/Math"), (0, u "min"), (0, u "(II)I"), (29, .methodref 14 340), (0, .nameAndType 341 342), (0, u "copyOfRangeByte"), (0, u "([BII)[B"), (0, .methodref 14 344), (0, .nameAndType 345 346), (0, u "checkLength"), (0, u "(II)V"), (28, .class_ 376), (0, u "java/util/Arrays$ArrayList"), (68, u "$assertionsDisabled"), (269, u "MIN_ARRAY_SORT_GRAN"), (0, u "I"), (2, u "INSERTIONSORT_THRESHOLD"), (140, u "([Ljava/lang/Object;I)[Ljava/lang/Object;"), (114, .class_ 976), (0, u "java/util/Arrays$ArrayItr")] 52

def k36m0 : Method := { name := "<init>", desc := "()V", sig := { parameters := [], returnType := none }, accessFlags := 2, code := none }
def k36c1 : Code := { maxStack := 3, maxLocals := 2, code := jdk_65_method_119_code, exceptionTable := #[], attributes := #[] }
def k36m1 : Method := { name := "copyOf", desc := "([Ljava/lang/Object;I)[Ljava/lang/Object;", sig := { parameters := [(.array (.object "java/lang/Object")), .int], returnType := some (.array (.object "java/lang/Object")) }, accessFlags := 9, code := some k36c1 }
def k36c2 : Code := { maxStack := 6, maxLocals := 4, code := jdk_65_method_120_code, exceptionTable := #[], attributes := #[] }
def k36m2 : Method := { name := "copyOf", desc := "([Ljava/lang/Object;ILjava/lang/Class;)[Ljava/lang/Object;", sig := { parameters := [(.array (.object "java/lang/Object")), .int, (.object "java/lang/Class")], returnType := some (.array (.object "java/lang/Object")) }, accessFlags := 9, code := some k36c2 }
def k36c3 : Code := { maxStack := 4, maxLocals := 2, code := jdk_65_method_131_code, exceptionTable := #[], attributes := #[] }
def k36m3 : Method := { name := "checkLength", desc := "(II)V", sig := { parameters := [.int, .int], returnType := none }, accessFlags := 10, code := some k36c3 }
def k36c4 : Code := { maxStack := 3, maxLocals := 3, code := jdk_65_method_132_code, exceptionTable := #[], attributes := #[] }
def k36m4 : Method := { name := "copyOfRange", desc := "([BII)[B", sig := { parameters := [(.array .byte), .int, .int], returnType := some (.array .byte) }, accessFlags := 9, code := some k36c4 }
def k36c5 : Code := { maxStack := 6, maxLocals := 5, code := jdk_65_method_133_code, exceptionTable := #[], attributes := #[] }
def k36m5 : Method := { name := "copyOfRangeByte", desc := "([BII)[B", sig := { parameters := [(.array .byte), .int, .int], returnType := some (.array .byte) }, accessFlags := 10, code := some k36c5 }
/-- java/util/Arrays -/
def k36 : Class := { plain "java/util/Arrays" (some 0) with
  accessFlags := 49
  interfaces := #[]
  cf := some (fileOf pool36 14 #[.nestMembers #[975, 375, 113, 74]] #[{ accessFlags := 2, nameIndex := 5, descriptorIndex := 6, attributes := #[] }, { accessFlags := 9, nameIndex := 302, descriptorIndex := 860, attributes := #[] }, { accessFlags := 9, nameIndex := 302, descriptorIndex := 303, attributes := #[] }, { accessFlags := 10, nameIndex := 345, descriptorIndex := 346, attributes := #[] }, { accessFlags := 9, nameIndex := 139, descriptorIndex := 342, attributes := #[] }, { accessFlags := 10, nameIndex := 341, descriptorIndex := 342, attributes := #[] }] 49 2 #[] #[{ accessFlags := 26, nameIndex := 715, descriptorIndex := 716, attributes := #[] }, { accessFlags := 26, nameIndex := 719, descriptorIndex := 716, attributes := #[] }, { accessFlags := 4120, nameIndex := 445, descriptorIndex := 117, attributes := #[] }])
  fields := #[{ name := "MIN_ARRAY_SORT_GRAN", type := .int, accessFlags := 26, slot := 0, constantValue := 0 }, { name := "INSERTIONSORT_THRESHOLD", type := .int, accessFlags := 26, slot := 1, constantValue := 0 }, { name := "$assertionsDisabled", type := .boolean, accessFlags := 4120, slot := 2, constantValue := 0 }]
  methods := #[k36m0, k36m1, k36m2, k36m3, k36m4, k36m5]
  instanceTypes := #[]
  staticTypes := #[.int, .int, .boolean]
  resolved := Array.replicate 1029 none
  statics := none }

def pool37 : Array CpInfo := pool [(1, .class_ 2), (0, u "java/lang/Math"), (1, .class_ 6), (1, u "java/lang/Object"), (0, u "<init>"), (0, u "()V"), (89, .class_ 100), (1, u "java/lang/Math$RandomNumberGeneratorHolder"), (71, u "negativeZeroFloatBits"), (0, u "J"), (2, u "negativeZeroDoubleBits"), (21, u "max"), (2, u "min"), (43, u "$assertionsDisabled"), (0, u "Z"), (88, u "(II)I"), (2, u "twoToTheDoubleScaleDown"), (0, u "D"), (4, u "twoToTheDoubleScaleUp"), (9, u "E"), (3, u "PI"), (2, u "TAU"), (2, u "DEGREES_TO_RADIANS"), (0, u "RADIANS_TO_DEGREES")] 94

def k37m0 : Method := { name := "<init>", desc := "()V", sig := { parameters := [], returnType := none }, accessFlags := 2, code := none }
def k37c1 : Code := { maxStack := 2, maxLocals := 2, code := jdk_29_method_65_code, exceptionTable := #[], attributes := #[] }
def k37m1 : Method := { name := "max", desc := "(II)I", sig := { parameters := [.int, .int], returnType := some .int }, accessFlags := 9, code := some k37c1 }
def k37c2 : Code := { maxStack := 2, maxLocals := 2, code := jdk_29_method_69_code, exceptionTable := #[], attributes := #[] }
def k37m2 : Method := { name := "min", desc := "(II)I", sig := { parameters := [.int, .int], returnType := some .int }, accessFlags := 9, code := some k37c2 }
/-- java/lang/Math -/
def k37 : Class := { plain "java/lang/Math" (some 0) with
  accessFlags := 49
  interfaces := #[]
  cf := some (fileOf pool37 1 #[.nestMembers #[98]] #[{ accessFlags := 2, nameIndex := 7, descriptorIndex := 8, attributes := #[] }, { accessFlags := 9, nameIndex := 198, descriptorIndex := 335, attributes := #[] }, { accessFlags := 9, nameIndex := 201, descriptorIndex := 335, attributes := #[] }] 49 4 #[] #[{ accessFlags := 25, nameIndex := 354, descriptorIndex := 339, attributes := #[] }, { accessFlags := 25, nameIndex := 358, descriptorIndex := 339, attributes := #[] }, { accessFlags := 25, nameIndex := 361, descriptorIndex := 339, attributes := #[] }, { accessFlags := 26, nameIndex := 364, descriptorIndex := 339, attributes := #[] }, { accessFlags := 26, nameIndex := 365, descriptorIndex := 339, attributes := #[] }, { accessFlags := 26, nameIndex := 172, descriptorIndex := 173, attributes := #[] }, { accessFlags := 26, nameIndex := 176, descriptorIndex := 173, attributes := #[] }, { accessFlags := 8, nameIndex := 344, descriptorIndex := 339, attributes := #[] }, { accessFlags := 8, nameIndex := 338, descriptorIndex := 339, attributes := #[] }, { accessFlags := 4120, nameIndex := 245, descriptorIndex := 246, attributes := #[] }])
  fields := #[{ name := "E", type := .double, accessFlags := 25, slot := 0, constantValue := 0 }, { name := "PI", type := .double, accessFlags := 25, slot := 1, constantValue := 0 }, { name := "TAU", type := .double, accessFlags := 25, slot := 2, constantValue := 0 }, { name := "DEGREES_TO_RADIANS", type := .double, accessFlags := 26, slot := 3, constantValue := 0 }, { name := "RADIANS_TO_DEGREES", type := .double, accessFlags := 26, slot := 4, constantValue := 0 }, { name := "negativeZeroFloatBits", type := .long, accessFlags := 26, slot := 5, constantValue := 0 }, { name := "negativeZeroDoubleBits", type := .long, accessFlags := 26, slot := 6, constantValue := 0 }, { name := "twoToTheDoubleScaleUp", type := .double, accessFlags := 8, slot := 7, constantValue := 0 }, { name := "twoToTheDoubleScaleDown", type := .double, accessFlags := 8, slot := 8, constantValue := 0 }, { name := "$assertionsDisabled", type := .boolean, accessFlags := 4120, slot := 9, constantValue := 0 }]
  methods := #[k37m0, k37m1, k37m2]
  instanceTypes := #[]
  staticTypes := #[.double, .double, .double, .double, .double, .long, .long, .double, .double, .boolean]
  resolved := Array.replicate 460 none
  statics := none }

def pool38 : Array CpInfo := pool [(2, .class_ 4), (1, u "java/lang/Object"), (0, u "<init>"), (0, u "()V"), (1, .class_ 10), (1, u "java/lang/System"), (0, u "allowSecurityManager"), (0, u "I"), (16, u "cons"), (0, u "Ljava/io/Console;"), (77, .class_ 110), (1, u "java/lang/System$CallersHolder"), (43, u "initialErrStream"), (0, u "Ljava/io/PrintStream;"), (19, u "security"), (0, u "Ljava/lang/SecurityManager;"), (31, .class_ 209), (0, u "java/lang/System$1"), (7, u "props"), (0, u "Ljava/util/Properties;"), (2, u "lineSeparator"), (0, u "Ljava/lang/String;"), (96, .class_ 321), (1, u "java/lang/System$LoggerFinder"), (5, .class_ 328), (0, u "java/lang/System$Logger"), (67, u "err"), (2, u "out"), (91, u "notSupportedJnuEncoding"), (15, u "in"), (17, u "initialIn"), (0, u "Ljava/io/InputStream;"), (35, u "bootLayer"), (0, u "Ljava/lang/ModuleLayer;"), (99, .class_ 664), (0, u "java/lang/System$2"), (9, u "NEVER"), (2, u "MAYBE"), (49, u "arraycopy"), (0, u "(Ljava/lang/Object;ILjava/lang/Object;II)V"), (72, .class_ 802), (0, u "java/lang/System$Logger$Level")] 31

def k38m0 : Method := { name := "<init>", desc := "()V", sig := { parameters := [], returnType := none }, accessFlags := 2, code := none }
def k38m1 : Method := { name := "arraycopy", desc := "(Ljava/lang/Object;ILjava/lang/Object;II)V", sig := { parameters := [(.object "java/lang/Object"), .int, (.object "java/lang/Object"), .int, .int], returnType := none }, accessFlags := 265, code := none }
/-- java/lang/System -/
def k38 : Class := { plain "java/lang/System" (some 0) with
  accessFlags := 49
  interfaces := #[]
  cf := some (fileOf pool38 8 #[.nestMembers #[319, 327, 801, 108, 663, 208]] #[{ accessFlags := 2, nameIndex := 5, descriptorIndex := 6, attributes := #[] }, { accessFlags := 265, nameIndex := 727, descriptorIndex := 728, attributes := #[] }] 49 2 #[] #[{ accessFlags := 25, nameIndex := 507, descriptorIndex := 526, attributes := #[] }, { accessFlags := 25, nameIndex := 399, descriptorIndex := 155, attributes := #[] }, { accessFlags := 25, nameIndex := 396, descriptorIndex := 155, attributes := #[] }, { accessFlags := 10, nameIndex := 525, descriptorIndex := 526, attributes := #[] }, { accessFlags := 26, nameIndex := 674, descriptorIndex := 12, attributes := #[] }, { accessFlags := 26, nameIndex := 677, descriptorIndex := 12, attributes := #[] }, { accessFlags := 10, nameIndex := 11, descriptorIndex := 12, attributes := #[] }, { accessFlags := 74, nameIndex := 175, descriptorIndex := 176, attributes := #[] }, { accessFlags := 10, nameIndex := 491, descriptorIndex := 222, attributes := #[] }, { accessFlags := 74, nameIndex := 29, descriptorIndex := 30, attributes := #[] }, { accessFlags := 74, nameIndex := 154, descriptorIndex := 155, attributes := #[] }, { accessFlags := 10, nameIndex := 217, descriptorIndex := 218, attributes := #[] }, { accessFlags := 10, nameIndex := 221, descriptorIndex := 222, attributes := #[] }, { accessFlags := 8, nameIndex := 562, descriptorIndex := 563, attributes := #[] }])
  fields := #[{ name := "in", type := (.object "java/io/InputStream"), accessFlags := 25, slot := 0, constantValue := 0 }, { name := "out", type := (.object "java/io/PrintStream"), accessFlags := 25, slot := 1, constantValue := 0 }, { name := "err", type := (.object "java/io/PrintStream"), accessFlags := 25, slot := 2, constantValue := 0 }, { name := "initialIn", type := (.object "java/io/InputStream"), accessFlags := 10, slot := 3, constantValue := 0 }, { name := "NEVER", type := .int, accessFlags := 26, slot := 4, constantValue := 0 }, { name := "MAYBE", type := .int, accessFlags := 26, slot := 5, constantValue := 0 }, { name := "allowSecurityManager", type := .int, accessFlags := 10, slot := 6, constantValue := 0 }, { name := "security", type := (.object "java/lang/SecurityManager"), accessFlags := 74, slot := 7, constantValue := 0 }, { name := "notSupportedJnuEncoding", type := (.object "java/lang/String"), accessFlags := 10, slot := 8, constantValue := 0 }, { name := "cons", type := (.object "java/io/Console"), accessFlags := 74, slot := 9, constantValue := 0 }, { name := "initialErrStream", type := (.object "java/io/PrintStream"), accessFlags := 74, slot := 10, constantValue := 0 }, { name := "props", type := (.object "java/util/Properties"), accessFlags := 10, slot := 11, constantValue := 0 }, { name := "lineSeparator", type := (.object "java/lang/String"), accessFlags := 10, slot := 12, constantValue := 0 }, { name := "bootLayer", type := (.object "java/lang/ModuleLayer"), accessFlags := 8, slot := 13, constantValue := 0 }]
  methods := #[k38m0, k38m1]
  instanceTypes := #[]
  staticTypes := #[(.object "java/io/InputStream"), (.object "java/io/PrintStream"), (.object "java/io/PrintStream"), (.object "java/io/InputStream"), .int, .int, .int, (.object "java/lang/SecurityManager"), (.object "java/lang/String"), (.object "java/io/Console"), (.object "java/io/PrintStream"), (.object "java/util/Properties"), (.object "java/lang/String"), (.object "java/lang/ModuleLayer")]
  resolved := Array.replicate 834 none
  statics := none }

def pool39 : Array CpInfo := pool [(1, .fieldref 2 3), (0, .class_ 4), (0, .nameAndType 5 6), (0, u "java/util/Optional"), (0, u "EMPTY"), (0, u "Ljava/util/Optional;"), (0, .methodref 8 9), (0, .class_ 10), (0, .nameAndType 11 12), (0, u "java/lang/Object"), (0, u "<init>"), (0, u "()V"), (0, .fieldref 2 14), (0, .nameAndType 15 16), (0, u "value"), (0, u "Ljava/lang/Object;"), (0, .methodref 18 19), (0, .class_ 20), (0, .nameAndType 21 22), (0, u "java/util/Objects"), (0, u "requireNonNull"), (0, u "(Ljava/lang/Object;)Ljava/lang/Object;"), (0, .methodref 2 24), (0, .nameAndType 11 25), (0, u "(Ljava/lang/Object;)V"), (20, u "()Z"), (8, u "empty"), (0, u "()Ljava/util/Optional;"), (8, u "(Ljava/lang/Object;)Ljava/util/Optional;"), (2, u "isPresent"), (4, u "get"), (0, u "()Ljava/lang/Object;"), (7, u "of")] 104

def k39c0 : Code := { maxStack := 1, maxLocals := 1, code := jdk_32_method_1_code, exceptionTable := #[], attributes := #[] }
def k39m0 : Method := { name := "empty", desc := "()Ljava/util/Optional;", sig := { parameters := [], returnType := some (.object "java/util/Optional") }, accessFlags := 9, code := some k39c0 }
def k39c1 : Code := { maxStack := 2, maxLocals := 2, code := jdk_32_method_2_code, exceptionTable := #[], attributes := #[] }
def k39m1 : Method := { name := "<init>", desc := "(Ljava/lang/Object;)V", sig := { parameters := [(.object "java/lang/Object")], returnType := none }, accessFlags := 2, code := some k39c1 }
def k39c2 : Code := { maxStack := 3, maxLocals := 1, code := jdk_32_method_3_code, exceptionTable := #[], attributes := #[] }
def k39m2 : Method := { name := "of", desc := "(Ljava/lang/Object;)Ljava/util/Optional;", sig := { parameters := [(.object "java/lang/Object")], returnType := some (.object "java/util/Optional") }, accessFlags := 9, code := some k39c2 }
def k39c3 : Code := { maxStack := 3, maxLocals := 1, code := jdk_32_method_5_code, exceptionTable := #[], attributes := #[] }
def k39m3 : Method := { name := "get", desc := "()Ljava/lang/Object;", sig := { parameters := [], returnType := some (.object "java/lang/Object") }, accessFlags := 1, code := some k39c3 }
def k39c4 : Code := { maxStack := 1, maxLocals := 1, code := jdk_32_method_6_code, exceptionTable := #[], attributes := #[] }
def k39m4 : Method := { name := "isPresent", desc := "()Z", sig := { parameters := [], returnType := some .boolean }, accessFlags := 1, code := some k39c4 }
/-- java/util/Optional -/
def k39 : Class := { plain "java/util/Optional" (some 0) with
  accessFlags := 49
  interfaces := #[]
  cf := some (fileOf pool39 2 #[] #[{ accessFlags := 9, nameIndex := 55, descriptorIndex := 56, attributes := #[] }, { accessFlags := 2, nameIndex := 11, descriptorIndex := 25, attributes := #[] }, { accessFlags := 9, nameIndex := 82, descriptorIndex := 65, attributes := #[] }, { accessFlags := 1, nameIndex := 73, descriptorIndex := 74, attributes := #[] }, { accessFlags := 1, nameIndex := 68, descriptorIndex := 46, attributes := #[] }] 49 8 #[] #[{ accessFlags := 26, nameIndex := 5, descriptorIndex := 6, attributes := #[] }, { accessFlags := 18, nameIndex := 15, descriptorIndex := 16, attributes := #[] }])
  fields := #[{ name := "EMPTY", type := (.object "java/util/Optional"), accessFlags := 26, slot := 0, constantValue := 0 }, { name := "value", type := (.object "java/lang/Object"), accessFlags := 18, slot := 0, constantValue := 0 }]
  methods := #[k39m0, k39m1, k39m2, k39m3, k39m4]
  instanceTypes := #[(.object "java/lang/Object")]
  staticTypes := #[(.object "java/util/Optional")]
  resolved := Array.replicate 187 none
  statics := some 3 }

def pool40 : Array CpInfo := pool [(6, .class_ 8), (1, u "java/lang/Object"), (0, u "<init>"), (0, u "()V"), (1, .class_ 14), (1, u "java/lang/StringUTF16"), (31, u "$assertionsDisabled"), (0, u "Z"), (13, u "HI_BYTE_SHIFT"), (0, u "I"), (2, u "LO_BYTE_SHIFT"), (49, .methodref 12 116), (0, .nameAndType 117 118), (0, u "compress"), (0, u "([CI[BII)I"), (3, u "([CII)[B"), (138, u "coderFromArrayLen"), (0, u "([BI)B"), (106, .class_ 371), (1, u "java/lang/StringUTF16$LinesSpliterator"), (58, u "MAX_LENGTH"), (196, .class_ 628), (0, u "java/lang/StringUTF16$CodePointsSpliterator"), (0, .class_ 630), (0, u "java/lang/StringUTF16$CharsSpliterator")] 4

def k40m0 : Method := { name := "<init>", desc := "()V", sig := { parameters := [], returnType := none }, accessFlags := 0, code := none }
def k40c1 : Code := { maxStack := 2, maxLocals := 2, code := jdk_52_method_15_code, exceptionTable := #[], attributes := #[] }
def k40m1 : Method := { name := "coderFromArrayLen", desc := "([BI)B", sig := { parameters := [(.array .byte), .int], returnType := some .byte }, accessFlags := 8, code := some k40c1 }
def k40c2 : Code := { maxStack := 5, maxLocals := 6, code := jdk_52_method_16_code, exceptionTable := #[], attributes := #[] }
def k40m2 : Method := { name := "compress", desc := "([CII)[B", sig := { parameters := [(.array .char), .int, .int], returnType := some (.array .byte) }, accessFlags := 9, code := some k40c2 }
def k40c3 : Code := { maxStack := 3, maxLocals := 7, code := jdk_52_method_21_code, exceptionTable := #[], attributes := #[] }
def k40m3 : Method := { name := "compress", desc := "([CI[BII)I", sig := { parameters := [(.array .char), .int, (.array .byte), .int, .int], returnType := some .int }, accessFlags := 9, code := some k40c3 }
/-- java/lang/StringUTF16 -/
def k40 : Class := { plain "java/lang/StringUTF16" (some 0) with
  accessFlags := 48
  interfaces := #[]
  cf := some (fileOf pool40 12 #[.nestMembers #[627, 629, 369]] #[{ accessFlags := 0, nameIndex := 9, descriptorIndex := 10, attributes := #[] }, { accessFlags := 8, nameIndex := 261, descriptorIndex := 262, attributes := #[] }, { accessFlags := 9, nameIndex := 117, descriptorIndex := 122, attributes := #[] }, { accessFlags := 9, nameIndex := 117, descriptorIndex := 118, attributes := #[] }] 48 6 #[] #[{ accessFlags := 26, nameIndex := 61, descriptorIndex := 62, attributes := #[] }, { accessFlags := 26, nameIndex := 65, descriptorIndex := 62, attributes := #[] }, { accessFlags := 24, nameIndex := 430, descriptorIndex := 62, attributes := #[] }, { accessFlags := 4120, nameIndex := 46, descriptorIndex := 47, attributes := #[] }])
  fields := #[{ name := "HI_BYTE_SHIFT", type := .int, accessFlags := 26, slot := 0, constantValue := 0 }, { name := "LO_BYTE_SHIFT", type := .int, accessFlags := 26, slot := 1, constantValue := 0 }, { name := "MAX_LENGTH", type := .int, accessFlags := 24, slot := 2, constantValue := 0 }, { name := "$assertionsDisabled", type := .boolean, accessFlags := 4120, slot := 3, constantValue := 0 }]
  methods := #[k40m0, k40m1, k40m2, k40m3]
  instanceTypes := #[]
  staticTypes := #[.int, .int, .int, .boolean]
  resolved := Array.replicate 635 none
  statics := none }

def pool41 : Array CpInfo := pool [(2, .class_ 4), (1, u "java/lang/Object"), (0, u "<init>"), (0, u "()V"), (17, .class_ 26), (1, u "jdk/internal/util/Preconditions"), (6, u "checkIndex"), (21, .class_ 56), (0, u "jdk/internal/util/Preconditions$4"), (57, .class_ 115), (0, u "jdk/internal/util/Preconditions$1"), (7, u "SIOOBE_FORMATTER"), (0, u "Ljava/util/function/BiFunction;"), (0, .class_ 126), (0, u "jdk/internal/util/Preconditions$2"), (3, u "AIOOBE_FORMATTER"), (0, .class_ 132), (0, u "jdk/internal/util/Preconditions$3"), (3, u "IOOBE_FORMATTER"), (41, u "(IILjava/util/function/BiFunction;)I")] 15

def k41m0 : Method := { name := "<init>", desc := "()V", sig := { parameters := [], returnType := none }, accessFlags := 1, code := none }
def k41c1 : Code := { maxStack := 3, maxLocals := 3, code := jdk_41_method_11_code, exceptionTable := #[], attributes := #[] }
def k41m1 : Method := { name := "checkIndex", desc := "(IILjava/util/function/BiFunction;)I", sig := { parameters := [.int, .int, (.object "java/util/function/BiFunction")], returnType := some .int }, accessFlags := 9, code := some k41c1 }
/-- jdk/internal/util/Preconditions -/
def k41 : Class := { plain "jdk/internal/util/Preconditions" (some 0) with
  accessFlags := 33
  interfaces := #[]
  cf := some (fileOf pool41 24 #[.nestMembers #[55, 131, 125, 114]] #[{ accessFlags := 1, nameIndex := 5, descriptorIndex := 6, attributes := #[] }, { accessFlags := 9, nameIndex := 33, descriptorIndex := 178, attributes := #[] }] 33 2 #[] #[{ accessFlags := 25, nameIndex := 123, descriptorIndex := 124, attributes := #[] }, { accessFlags := 25, nameIndex := 130, descriptorIndex := 124, attributes := #[] }, { accessFlags := 25, nameIndex := 136, descriptorIndex := 124, attributes := #[] }])
  fields := #[{ name := "SIOOBE_FORMATTER", type := (.object "java/util/function/BiFunction"), accessFlags := 25, slot := 0, constantValue := 0 }, { name := "AIOOBE_FORMATTER", type := (.object "java/util/function/BiFunction"), accessFlags := 25, slot := 1, constantValue := 0 }, { name := "IOOBE_FORMATTER", type := (.object "java/util/function/BiFunction"), accessFlags := 25, slot := 2, constantValue := 0 }]
  methods := #[k41m0, k41m1]
  instanceTypes := #[]
  staticTypes := #[(.object "java/util/function/BiFunction"), (.object "java/util/function/BiFunction"), (.object "java/util/function/BiFunction")]
  resolved := Array.replicate 194 none
  statics := some 4 }

def pool42 : Array CpInfo := pool [(9, u "<init>"), (6, .class_ 18), (1, u "java/lang/Object"), (0, u "()V"), (1, .class_ 23), (1, u "jdk/internal/util/ArraysSupport"), (0, u "LOG2_ARRAY_LONG_INDEX_SCALE"), (0, u "I"), (2, u "U"), (0, u "Ljdk/internal/misc/Unsafe;"), (8, u "BIG_ENDIAN"), (0, u "Z"), (8, u "LOG2_BYTE_BIT_SIZE"), (4, u "LOG2_ARRAY_INT_INDEX_SCALE"), (54, u "JLA"), (0, u "Ljdk/internal/access/JavaLangAccess;"), (11, u "LOG2_ARRAY_BOOLEAN_INDEX_SCALE"), (9, u "LOG2_ARRAY_BYTE_INDEX_SCALE"), (5, u "LOG2_ARRAY_CHAR_INDEX_SCALE"), (5, u "LOG2_ARRAY_SHORT_INDEX_SCALE"), (18, u "LOG2_ARRAY_FLOAT_INDEX_SCALE"), (24, u "LOG2_ARRAY_DOUBLE_INDEX_SCALE"), (89, u "T_BOOLEAN"), (2, u "T_CHAR"), (1, u "T_FLOAT"), (1, u "T_DOUBLE"), (1, u "T_BYTE"), (1, u "T_SHORT"), (1, u "T_INT"), (1, u "T_LONG"), (1, u "SOFT_MAX_ARRAY_LENGTH")] 83

def k42m0 : Method := { name := "<init>", desc := "()V", sig := { parameters := [], returnType := none }, accessFlags := 2, code := none }
/-- jdk/internal/util/ArraysSupport -/
def k42 : Class := { plain "jdk/internal/util/ArraysSupport" (some 0) with
  accessFlags := 33
  interfaces := #[]
  cf := some (fileOf pool42 21 #[] #[{ accessFlags := 2, nameIndex := 9, descriptorIndex := 19, attributes := #[] }] 33 16 #[] #[{ accessFlags := 24, nameIndex := 28, descriptorIndex := 29, attributes := #[] }, { accessFlags := 26, nameIndex := 38, descriptorIndex := 39, attributes := #[] }, { accessFlags := 25, nameIndex := 121, descriptorIndex := 25, attributes := #[] }, { accessFlags := 25, nameIndex := 131, descriptorIndex := 25, attributes := #[] }, { accessFlags := 25, nameIndex := 137, descriptorIndex := 25, attributes := #[] }, { accessFlags := 25, nameIndex := 143, descriptorIndex := 25, attributes := #[] }, { accessFlags := 25, nameIndex := 53, descriptorIndex := 25, attributes := #[] }, { accessFlags := 25, nameIndex := 24, descriptorIndex := 25, attributes := #[] }, { accessFlags := 25, nameIndex := 162, descriptorIndex := 25, attributes := #[] }, { accessFlags := 25, nameIndex := 187, descriptorIndex := 25, attributes := #[] }, { accessFlags := 26, nameIndex := 48, descriptorIndex := 25, attributes := #[] }, { accessFlags := 25, nameIndex := 277, descriptorIndex := 25, attributes := #[] }, { accessFlags := 25, nameIndex := 280, descriptorIndex := 25, attributes := #[] }, { accessFlags := 25, nameIndex := 282, descriptorIndex := 25, attributes := #[] }, { accessFlags := 25, nameIndex := 284, descriptorIndex := 25, attributes := #[] }, { accessFlags := 25, nameIndex := 286, descriptorIndex := 25, attributes := #[] }, { accessFlags := 25, nameIndex := 288, descriptorIndex := 25, attributes := #[] }, { accessFlags := 25, nameIndex := 290, descriptorIndex := 25, attributes := #[] }, { accessFlags := 25, nameIndex := 292, descriptorIndex := 25, attributes := #[] }, { accessFlags := 26, nameIndex := 108, descriptorIndex := 109, attributes := #[] }, { accessFlags := 25, nameIndex := 294, descriptorIndex := 25, attributes := #[] }])
  fields := #[{ name := "U", type := (.object "jdk/internal/misc/Unsafe"), accessFlags := 24, slot := 0, constantValue := 0 }, { name := "BIG_ENDIAN", type := .boolean, accessFlags := 26, slot := 1, constantValue := 0 }, { name := "LOG2_ARRAY_BOOLEAN_INDEX_SCALE", type := .int, accessFlags := 25, slot := 2, constantValue := 0 }, { name := "LOG2_ARRAY_BYTE_INDEX_SCALE", type := .int, accessFlags := 25, slot := 3, constantValue := 0 }, { name := "LOG2_ARRAY_CHAR_INDEX_SCALE", type := .int, accessFlags := 25, slot := 4, constantValue := 0 }, { name := "LOG2_ARRAY_SHORT_INDEX_SCALE", type := .int, accessFlags := 25, slot := 5, constantValue := 0 }, { name := "LOG2_ARRAY_INT_INDEX_SCALE", type := .int, accessFlags := 25, slot := 6, constantValue := 0 }, { name := "LOG2_ARRAY_LONG_INDEX_SCALE", type := .int, accessFlags := 25, slot := 7, constantValue := 0 }, { name := "LOG2_ARRAY_FLOAT_INDEX_SCALE", type := .int, accessFlags := 25, slot := 8, constantValue := 0 }, { name := "LOG2_ARRAY_DOUBLE_INDEX_SCALE", type := .int, accessFlags := 25, slot := 9, constantValue := 0 }, { name := "LOG2_BYTE_BIT_SIZE", type := .int, accessFlags := 26, slot := 10, constantValue := 0 }, { name := "T_BOOLEAN", type := .int, accessFlags := 25, slot := 11, constantValue := 0 }, { name := "T_CHAR", type := .int, accessFlags := 25, slot := 12, constantValue := 0 }, { name := "T_FLOAT", type := .int, accessFlags := 25, slot := 13, constantValue := 0 }, { name := "T_DOUBLE", type := .int, accessFlags := 25, slot := 14, constantValue := 0 }, { name := "T_BYTE", type := .int, accessFlags := 25, slot := 15, constantValue := 0 }, { name := "T_SHORT", type := .int, accessFlags := 25, slot := 16, constantValue := 0 }, { name := "T_INT", type := .int, accessFlags := 25, slot := 17, constantValue := 0 }, { name := "T_LONG", type := .int, accessFlags := 25, slot := 18, constantValue := 0 }, { name := "JLA", type := (.object "jdk/internal/access/JavaLangAccess"), accessFlags := 26, slot := 19, constantValue := 0 }, { name := "SOFT_MAX_ARRAY_LENGTH", type := .int, accessFlags := 25, slot := 20, constantValue := 0 }]
  methods := #[k42m0]
  instanceTypes := #[]
  staticTypes := #[(.object "jdk/internal/misc/Unsafe"), .boolean, .int, .int, .int, .int, .int, .int, .int, .int, .int, .int, .int, .int, .int, .int, .int, .int, .int, (.object "jdk/internal/access/JavaLangAccess"), .int]
  resolved := Array.replicate 378 none
  statics := none }

def pool43 : Array CpInfo := pool [(1, u "java/lang/Class"), (0, .class_ 1), (0, u "java/lang/Object"), (0, .class_ 3)] 0

/-- java/lang/Class -/
def k43 : Class := { plain "java/lang/Class" (some 0) with
  accessFlags := 49
  interfaces := #[]
  cf := some (fileOf pool43 2 #[] #[] 49 4 #[] #[])
  fields := #[]
  methods := #[]
  instanceTypes := #[]
  staticTypes := #[]
  resolved := Array.replicate 5 none
  statics := none }

/-- the primitive byte -/
def k44 : Class := { plain "byte" none with kind := .primitive 'B', accessFlags := 0x411 }
/-- [B -/
def k45 : Class := { plain "[B" (some 0) with kind := .array 44 .byte, interfaces := #[22, 2], accessFlags := 1041 }

/-- the primitive char -/
def k46 : Class := { plain "char" none with kind := .primitive 'C', accessFlags := 0x411 }
/-- [C -/
def k47 : Class := { plain "[C" (some 0) with kind := .array 46 .char, interfaces := #[22, 2], accessFlags := 1041 }

/-- the primitive int -/
def k48 : Class := { plain "int" none with kind := .primitive 'I', accessFlags := 0x411 }
/-- [I -/
def k49 : Class := { plain "[I" (some 0) with kind := .array 48 .int, interfaces := #[22, 2], accessFlags := 1041 }

/-- [Ljava/lang/Object; -/
def k50 : Class := { plain "[Ljava/lang/Object;" (some 0) with mirror := some 5, kind := .array 0 (.object "java/lang/Object"), interfaces := #[22, 2], accessFlags := 1041 }

def heap : Heap := #[{ cls := 7, slots := #[.long 0, .int 1, .null, .int 0, .null, .int 0, .int 0], vm := .statics 7 },
  { cls := 23, slots := #[.long 0, .int 0, .ref 8, .ref 9], vm := .statics 23 },
  { cls := 25, slots := #[.long 0, .int 0, .null, .ref 11, .ref 7, .null, .null, .null, .int 0, .int 1], vm := .statics 25 },
  { cls := 39, slots := #[.ref 10], vm := .statics 39 },
  { cls := 41, slots := #[.null, .null, .null], vm := .statics 41 },
  { cls := 43, slots := #[], vm := .mirror 50 },
  { cls := 50, slots := #[], vm := .none },
  { cls := 29, slots := #[.ref 6, .int 0], vm := .none },
  { cls := 50, slots := #[], vm := .none },
  { cls := 50, slots := #[], vm := .none },
  { cls := 39, slots := #[.null], vm := .none },
  { cls := 0, slots := #[], vm := .none }]
def classes : Array Class := #[k0, k1, k2, k3, k4, k5, k6, k7, k8, k9, k10, k11, k12, k13, k14, k15, k16, k17, k18, k19, k20, k21, k22, k23, k24, k25, k26, k27, k28, k29, k30, k31, k32, k33, k34, k35, k36, k37, k38, k39, k40, k41, k42, k43, k44, k45, k46, k47, k48, k49, k50]
def interned : List (Array UInt16 × Addr) := []
def slotsUsed : Nat := 28
def theMethod : MethodId := ⟨1, 1⟩
def args0 : Array Value := #[.int 5, .int 5, .int 5, .int 5, .int 5]
def aboutOver (below : List Frame) : State where
  vm := { classes := classes, interned := interned.toArray }
  heap := heap
  slotsUsed := slotsUsed
  threads := #[{ frames := .invoking theMethod args0 :: below }]
def below0 : List Frame := [.native { method := ⟨0, 0⟩, args := #[] }]
def about1 : State := aboutOver below0
def p0 : Program := .bare "" "" ""
def e0 : Env := launch0.env 0 0 0
theorem w_frames : about1.frames = Frame.invoking theMethod args0 :: below0 := rfl
set_option maxRecDepth 65536 in
theorem w_args : argsFit about1.vm theMethod args0 = true := by decide +kernel
set_option maxRecDepth 65536 in
theorem w_heap : heapFits about1 = true := by decide +kernel
set_option maxRecDepth 65536 in
theorem w_runnable : about1.curStatus? = some .runnable := by decide +kernel
set_option maxRecDepth 65536 in
theorem w_alone : about1.alone = true := by decide +kernel
set_option maxRecDepth 65536 in
theorem w_named : about1.methodNamed? x = some theMethod := by decide +kernel
set_option maxRecDepth 65536 in
theorem w_hears : about1.hears theMethod below0 = true := by decide +kernel
set_option maxRecDepth 65536 in
theorem w_ripe : about1.ripe theMethod args0 below0 = true := by decide +kernel
theorem w_running : about1.status = .running := rfl
set_option maxRecDepth 65536 in
theorem w_room : about1.hasRoom e0.platform room_1 = true :=
  launch0.hasRoom_least _ room_1 (by decide +kernel) (by decide +kernel) (by decide +kernel) (by decide +kernel) (by decide +kernel) (by decide +kernel)
theorem allAtoms_all (ts : List Jvm.Cond) (a : Array Jvm.Value) (st : Jvm.State) : (allAtoms ts).before a st = ts.all (fun c => c.before a st) := by
  induction ts with
  | nil => rfl
  | cons c t ih =>
    show (Jvm.Cond.and c (allAtoms t)).before a st = _
    rw [Jvm.Cond.before_and, ih, List.all_cons]
def words1 : List Jvm.Cond := Jvm.Cond.code x code maxLocals ret :: tables_1
/-- a 'code' word, met by the world's own term for the bytes: nothing is compared byte by byte -/
theorem code_word {y : MethodName} {bytes : ByteArray} {mx : Nat} {rt : Option FieldType} {a : Array Value} {s : State} {m : MethodId} {meth : Method} {c : Code} (h1 : s.methodNamed? y = some m) (h2 : s.vm.method? m = some meth) (h3 : meth.code = some c) (h4 : c.code = bytes)
    (h5 : (c.maxLocals == mx && c.exceptionTable.isEmpty && decide (c.maxStack ≤ mostOperands) && decide (meth.sig.returnType = rt) && !meth.locks && decide (parseMethodDescriptor y.desc = some meth.sig)) = true) : (Jvm.Cond.code y bytes mx rt).before a s = true := by
  simp only [Bool.and_eq_true, beq_iff_eq, Bool.not_eq_true', decide_eq_true_eq] at h5
  obtain ⟨⟨⟨⟨⟨g1, g2⟩, g3⟩, g4⟩, g5⟩, g6⟩ := h5
  simp [Cond.before, Cond.holds, Cond.value, h1, h2, h3, h4, g1, g2, g3, g4, g5, g6]
def isCode : Jvm.Cond → Bool
  | .code _ _ _ _ => true
  | _ => false
theorem all_split {L : List Jvm.Cond} {P : Jvm.Cond → Bool} (h1 : L.all (fun c => isCode c || P c) = true) (h2 : ∀ c ∈ L.filter isCode, P c = true) : L.all P = true := by
  refine List.all_eq_true.mpr fun c hc => ?_
  have h := List.all_eq_true.mp h1 c hc
  rcases Bool.eq_false_or_eq_true (isCode c) with hi | hi
  · exact h2 c (List.mem_filter.mpr ⟨hc, hi⟩)
  · simpa [hi] using h
set_option maxRecDepth 65536 in
theorem w_c0 : (Jvm.Cond.code x code maxLocals ret).before args0 about1 = true := code_word (m := ⟨1, 1⟩) (meth := k1m1) (c := k1c1) (by decide +kernel) rfl rfl rfl (by decide +kernel)
set_option maxRecDepth 65536 in
theorem w_c1 : (Jvm.Cond.code ({ cls := "com/example/ontology_over_tables/ontologyovertables/mapping/TermMapConstantPinLaw", name := "text", desc := "(I)Ljava/lang/String;" } : Jvm.MethodName) method_3_code (5 : Nat) (Option.some (Jvm.ClassFile.FieldType.object "java/lang/String"))).before args0 about1 = true := code_word (m := ⟨1, 2⟩) (meth := k1m2) (c := k1c2) (by decide +kernel) rfl rfl rfl (by decide +kernel)
set_option maxRecDepth 65536 in
theorem w_c2 : (Jvm.Cond.code ({ cls := "java/lang/String", name := "<init>", desc := "([C)V" } : Jvm.MethodName) jdk_42_method_3_code (2 : Nat) (Option.none : Option Jvm.ClassFile.FieldType)).before args0 about1 = true := code_word (m := ⟨7, 1⟩) (meth := k7m1) (c := k7c1) (by decide +kernel) rfl rfl rfl (by decide +kernel)
set_option maxRecDepth 65536 in
theorem w_c3 : (Jvm.Cond.code ({ cls := "java/lang/String", name := "<init>", desc := "([CIILjava/lang/Void;)V" } : Jvm.MethodName) jdk_42_method_149_code (6 : Nat) (Option.none : Option Jvm.ClassFile.FieldType)).before args0 about1 = true := code_word (m := ⟨7, 7⟩) (meth := k7m7) (c := k7c7) (by decide +kernel) rfl rfl rfl (by decide +kernel)
set_option maxRecDepth 65536 in
theorem w_c4 : (Jvm.Cond.code ({ cls := "java/lang/Object", name := "<init>", desc := "()V" } : Jvm.MethodName) object_method_1_code (1 : Nat) (Option.none : Option Jvm.ClassFile.FieldType)).before args0 about1 = true := code_word (m := ⟨0, 0⟩) (meth := k0m0) (c := k0c0) (by decide +kernel) rfl rfl rfl (by decide +kernel)
set_option maxRecDepth 65536 in
theorem w_c5 : (Jvm.Cond.code ({ cls := "java/lang/String", name := "valueOf", desc := "(C)Ljava/lang/String;" } : Jvm.MethodName) jdk_42_method_139_code (1 : Nat) (Option.some (Jvm.ClassFile.FieldType.object "java/lang/String"))).before args0 about1 = true := code_word (m := ⟨7, 5⟩) (meth := k7m5) (c := k7c5) (by decide +kernel) rfl rfl rfl (by decide +kernel)
set_option maxRecDepth 65536 in
theorem w_c6 : (Jvm.Cond.code ({ cls := "java/lang/StringLatin1", name := "canEncode", desc := "(C)Z" } : Jvm.MethodName) jdk_43_method_3_code (1 : Nat) (Option.some Jvm.ClassFile.FieldType.boolean)).before args0 about1 = true := code_word (m := ⟨10, 2⟩) (meth := k10m2) (c := k10c2) (by decide +kernel) rfl rfl rfl (by decide +kernel)
set_option maxRecDepth 65536 in
theorem w_c7 : (Jvm.Cond.code ({ cls := "java/lang/StringLatin1", name := "toBytes", desc := "(C)[B" } : Jvm.MethodName) jdk_43_method_46_code (1 : Nat) (Option.some (Jvm.ClassFile.FieldType.array Jvm.ClassFile.FieldType.byte))).before args0 about1 = true := code_word (m := ⟨10, 3⟩) (meth := k10m3) (c := k10c3) (by decide +kernel) rfl rfl rfl (by decide +kernel)
set_option maxRecDepth 65536 in
theorem w_c8 : (Jvm.Cond.code ({ cls := "java/lang/String", name := "<init>", desc := "([BB)V" } : Jvm.MethodName) jdk_42_method_151_code (3 : Nat) (Option.none : Option Jvm.ClassFile.FieldType)).before args0 about1 = true := code_word (m := ⟨7, 9⟩) (meth := k7m9) (c := k7c9) (by decide +kernel) rfl rfl rfl (by decide +kernel)
set_option maxRecDepth 65536 in
theorem w_c9 : (Jvm.Cond.code ({ cls := "com/example/ontology_over_tables/ontologyovertables/mapping/SqlIdentifier", name := "<init>", desc := "(Ljava/lang/String;Z)V" } : Jvm.MethodName) prog_7_method_1_code (3 : Nat) (Option.none : Option Jvm.ClassFile.FieldType)).before args0 about1 = true := code_word (m := ⟨9, 0⟩) (meth := k9m0) (c := k9c0) (by decide +kernel) rfl rfl rfl (by decide +kernel)
set_option maxRecDepth 65536 in
theorem w_c10 : (Jvm.Cond.code ({ cls := "java/lang/Record", name := "<init>", desc := "()V" } : Jvm.MethodName) jdk_30_method_1_code (1 : Nat) (Option.none : Option Jvm.ClassFile.FieldType)).before args0 about1 = true := code_word (m := ⟨8, 0⟩) (meth := k8m0) (c := k8c0) (by decide +kernel) rfl rfl rfl (by decide +kernel)
set_option maxRecDepth 65536 in
theorem w_c11 : (Jvm.Cond.code ({ cls := "com/example/ontology_over_tables/ontologyovertables/mapping/TriplesMap$TermMap$Column", name := "<init>", desc := "(Lcom/example/ontology_over_tables/ontologyovertables/mapping/SqlIdentifier;)V" } : Jvm.MethodName) prog_19_method_1_code (2 : Nat) (Option.none : Option Jvm.ClassFile.FieldType)).before args0 about1 = true := code_word (m := ⟨12, 0⟩) (meth := k12m0) (c := k12c0) (by decide +kernel) rfl rfl rfl (by decide +kernel)
set_option maxRecDepth 65536 in
theorem w_c12 : (Jvm.Cond.code ({ cls := "java/util/Objects", name := "requireNonNull", desc := "(Ljava/lang/Object;Ljava/lang/String;)Ljava/lang/Object;" } : Jvm.MethodName) jdk_31_method_11_code (2 : Nat) (Option.some (Jvm.ClassFile.FieldType.object "java/lang/Object"))).before args0 about1 = true := code_word (m := ⟨13, 2⟩) (meth := k13m2) (c := k13c2) (by decide +kernel) rfl rfl rfl (by decide +kernel)
set_option maxRecDepth 65536 in
theorem w_c13 : (Jvm.Cond.code ({ cls := "com/example/ontology_over_tables/ontologyovertables/mapping/TriplesMap$TermMap$Text", name := "<init>", desc := "(Ljava/lang/String;)V" } : Jvm.MethodName) prog_21_method_1_code (2 : Nat) (Option.none : Option Jvm.ClassFile.FieldType)).before args0 about1 = true := code_word (m := ⟨14, 0⟩) (meth := k14m0) (c := k14c0) (by decide +kernel) rfl rfl rfl (by decide +kernel)
set_option maxRecDepth 65536 in
theorem w_c14 : (Jvm.Cond.code ({ cls := "java/util/ArrayList", name := "<init>", desc := "()V" } : Jvm.MethodName) jdk_38_method_2_code (1 : Nat) (Option.none : Option Jvm.ClassFile.FieldType)).before args0 about1 = true := code_word (m := ⟨23, 0⟩) (meth := k23m0) (c := k23c0) (by decide +kernel) rfl rfl rfl (by decide +kernel)
set_option maxRecDepth 65536 in
theorem w_c15 : (Jvm.Cond.code ({ cls := "java/util/AbstractList", name := "<init>", desc := "()V" } : Jvm.MethodName) jdk_39_method_1_code (1 : Nat) (Option.none : Option Jvm.ClassFile.FieldType)).before args0 about1 = true := code_word (m := ⟨20, 0⟩) (meth := k20m0) (c := k20c0) (by decide +kernel) rfl rfl rfl (by decide +kernel)
set_option maxRecDepth 65536 in
theorem w_c16 : (Jvm.Cond.code ({ cls := "java/util/AbstractCollection", name := "<init>", desc := "()V" } : Jvm.MethodName) jdk_22_method_1_code (1 : Nat) (Option.none : Option Jvm.ClassFile.FieldType)).before args0 about1 = true := code_word (m := ⟨17, 0⟩) (meth := k17m0) (c := k17c0) (by decide +kernel) rfl rfl rfl (by decide +kernel)
set_option maxRecDepth 65536 in
theorem w_c17 : (Jvm.Cond.code ({ cls := "com/example/ontology_over_tables/ontologyovertables/mapping/TriplesMap$TermMap", name := "<init>", desc := "(Ljava/util/List;ZZ)V" } : Jvm.MethodName) prog_18_method_1_code (4 : Nat) (Option.none : Option Jvm.ClassFile.FieldType)).before args0 about1 = true := code_word (m := ⟨24, 0⟩) (meth := k24m0) (c := k24c0) (by decide +kernel) rfl rfl rfl (by decide +kernel)
set_option maxRecDepth 65536 in
theorem w_c18 : (Jvm.Cond.code ({ cls := "java/util/List", name := "copyOf", desc := "(Ljava/util/Collection;)Ljava/util/List;" } : Jvm.MethodName) jdk_40_method_48_code (1 : Nat) (Option.some (Jvm.ClassFile.FieldType.object "java/util/List"))).before args0 about1 = true := code_word (m := ⟨19, 4⟩) (meth := k19m4) (c := k19c4) (by decide +kernel) rfl rfl rfl (by decide +kernel)
set_option maxRecDepth 65536 in
theorem w_c19 : (Jvm.Cond.code ({ cls := "java/util/ImmutableCollections", name := "listCopy", desc := "(Ljava/util/Collection;)Ljava/util/List;" } : Jvm.MethodName) jdk_56_method_3_code (2 : Nat) (Option.some (Jvm.ClassFile.FieldType.object "java/util/List"))).before args0 about1 = true := code_word (m := ⟨25, 1⟩) (meth := k25m1) (c := k25c1) (by decide +kernel) rfl rfl rfl (by decide +kernel)
set_option maxRecDepth 65536 in
theorem w_c20 : (Jvm.Cond.code ({ cls := "java/util/ArrayList", name := "isEmpty", desc := "()Z" } : Jvm.MethodName) jdk_38_method_9_code (1 : Nat) (Option.some Jvm.ClassFile.FieldType.boolean)).before args0 about1 = true := code_word (m := ⟨23, 3⟩) (meth := k23m3) (c := k23c3) (by decide +kernel) rfl rfl rfl (by decide +kernel)
set_option maxRecDepth 65536 in
theorem w_c21 : (Jvm.Cond.code ({ cls := "java/util/List", name := "of", desc := "()Ljava/util/List;" } : Jvm.MethodName) jdk_40_method_36_code (0 : Nat) (Option.some (Jvm.ClassFile.FieldType.object "java/util/List"))).before args0 about1 = true := code_word (m := ⟨19, 2⟩) (meth := k19m2) (c := k19c2) (by decide +kernel) rfl rfl rfl (by decide +kernel)
set_option maxRecDepth 65536 in
theorem w_c22 : (Jvm.Cond.code ({ cls := "com/example/ontology_over_tables/ontologyovertables/mapping/TriplesMap$TermMap", name := "constant", desc := "()Ljava/util/Optional;" } : Jvm.MethodName) prog_18_method_3_code (5 : Nat) (Option.some (Jvm.ClassFile.FieldType.object "java/util/Optional"))).before args0 about1 = true := code_word (m := ⟨24, 1⟩) (meth := k24m1) (c := k24c1) (by decide +kernel) rfl rfl rfl (by decide +kernel)
set_option maxRecDepth 65536 in
theorem w_c23 : (Jvm.Cond.code ({ cls := "java/lang/StringBuilder", name := "<init>", desc := "()V" } : Jvm.MethodName) jdk_67_method_1_code (1 : Nat) (Option.none : Option Jvm.ClassFile.FieldType)).before args0 about1 = true := code_word (m := ⟨32, 0⟩) (meth := k32m0) (c := k32c0) (by decide +kernel) rfl rfl rfl (by decide +kernel)
set_option maxRecDepth 65536 in
theorem w_c24 : (Jvm.Cond.code ({ cls := "java/lang/AbstractStringBuilder", name := "<init>", desc := "(I)V" } : Jvm.MethodName) jdk_68_method_2_code (2 : Nat) (Option.none : Option Jvm.ClassFile.FieldType)).before args0 about1 = true := code_word (m := ⟨31, 1⟩) (meth := k31m1) (c := k31c1) (by decide +kernel) rfl rfl rfl (by decide +kernel)
set_option maxRecDepth 65536 in
theorem w_c25 : (Jvm.Cond.code ({ cls := "java/util/ImmutableCollections$AbstractImmutableList", name := "iterator", desc := "()Ljava/util/Iterator;" } : Jvm.MethodName) jdk_46_method_10_code (1 : Nat) (Option.some (Jvm.ClassFile.FieldType.object "java/util/Iterator"))).before args0 about1 = true := code_word (m := ⟨27, 1⟩) (meth := k27m1) (c := k27c1) (by decide +kernel) rfl rfl rfl (by decide +kernel)
set_option maxRecDepth 65536 in
theorem w_c26 : (Jvm.Cond.code ({ cls := "java/util/ImmutableCollections$ListN", name := "size", desc := "()I" } : Jvm.MethodName) jdk_45_method_3_code (1 : Nat) (Option.some Jvm.ClassFile.FieldType.int)).before args0 about1 = true := code_word (m := ⟨29, 1⟩) (meth := k29m1) (c := k29c1) (by decide +kernel) rfl rfl rfl (by decide +kernel)
set_option maxRecDepth 65536 in
theorem w_c27 : (Jvm.Cond.code ({ cls := "java/util/ImmutableCollections$ListItr", name := "<init>", desc := "(Ljava/util/List;I)V" } : Jvm.MethodName) jdk_53_method_1_code (3 : Nat) (Option.none : Option Jvm.ClassFile.FieldType)).before args0 about1 = true := code_word (m := ⟨35, 0⟩) (meth := k35m0) (c := k35c0) (by decide +kernel) rfl rfl rfl (by decide +kernel)
set_option maxRecDepth 65536 in
theorem w_c28 : (Jvm.Cond.code ({ cls := "java/util/ImmutableCollections$ListItr", name := "hasNext", desc := "()Z" } : Jvm.MethodName) jdk_53_method_3_code (1 : Nat) (Option.some Jvm.ClassFile.FieldType.boolean)).before args0 about1 = true := code_word (m := ⟨35, 1⟩) (meth := k35m1) (c := k35c1) (by decide +kernel) rfl rfl rfl (by decide +kernel)
set_option maxRecDepth 65536 in
theorem w_c29 : (Jvm.Cond.code ({ cls := "java/lang/StringBuilder", name := "toString", desc := "()Ljava/lang/String;" } : Jvm.MethodName) jdk_67_method_42_code (1 : Nat) (Option.some (Jvm.ClassFile.FieldType.object "java/lang/String"))).before args0 about1 = true := code_word (m := ⟨32, 2⟩) (meth := k32m2) (c := k32c2) (by decide +kernel) rfl rfl rfl (by decide +kernel)
set_option maxRecDepth 65536 in
theorem w_c30 : (Jvm.Cond.code ({ cls := "java/lang/String", name := "<init>", desc := "(Ljava/lang/StringBuilder;)V" } : Jvm.MethodName) jdk_42_method_53_code (2 : Nat) (Option.none : Option Jvm.ClassFile.FieldType)).before args0 about1 = true := code_word (m := ⟨7, 2⟩) (meth := k7m2) (c := k7c2) (by decide +kernel) rfl rfl rfl (by decide +kernel)
set_option maxRecDepth 65536 in
theorem w_c31 : (Jvm.Cond.code ({ cls := "java/lang/String", name := "<init>", desc := "(Ljava/lang/AbstractStringBuilder;Ljava/lang/Void;)V" } : Jvm.MethodName) jdk_42_method_150_code (5 : Nat) (Option.none : Option Jvm.ClassFile.FieldType)).before args0 about1 = true := code_word (m := ⟨7, 8⟩) (meth := k7m8) (c := k7c8) (by decide +kernel) rfl rfl rfl (by decide +kernel)
set_option maxRecDepth 65536 in
theorem w_c32 : (Jvm.Cond.code ({ cls := "java/lang/AbstractStringBuilder", name := "getValue", desc := "()[B" } : Jvm.MethodName) jdk_68_method_64_code (1 : Nat) (Option.some (Jvm.ClassFile.FieldType.array Jvm.ClassFile.FieldType.byte))).before args0 about1 = true := code_word (m := ⟨31, 5⟩) (meth := k31m5) (c := k31c5) (by decide +kernel) rfl rfl rfl (by decide +kernel)
set_option maxRecDepth 65536 in
theorem w_c33 : (Jvm.Cond.code ({ cls := "java/lang/StringBuilder", name := "length", desc := "()I" } : Jvm.MethodName) jdk_67_method_93_code (1 : Nat) (Option.some Jvm.ClassFile.FieldType.int)).before args0 about1 = true := code_word (m := ⟨32, 3⟩) (meth := k32m3) (c := k32c3) (by decide +kernel) rfl rfl rfl (by decide +kernel)
set_option maxRecDepth 65536 in
theorem w_c34 : (Jvm.Cond.code ({ cls := "java/lang/AbstractStringBuilder", name := "length", desc := "()I" } : Jvm.MethodName) jdk_68_method_6_code (1 : Nat) (Option.some Jvm.ClassFile.FieldType.int)).before args0 about1 = true := code_word (m := ⟨31, 2⟩) (meth := k31m2) (c := k31c2) (by decide +kernel) rfl rfl rfl (by decide +kernel)
set_option maxRecDepth 65536 in
theorem w_c35 : (Jvm.Cond.code ({ cls := "java/lang/AbstractStringBuilder", name := "isLatin1", desc := "()Z" } : Jvm.MethodName) jdk_68_method_68_code (1 : Nat) (Option.some Jvm.ClassFile.FieldType.boolean)).before args0 about1 = true := code_word (m := ⟨31, 6⟩) (meth := k31m6) (c := k31c6) (by decide +kernel) rfl rfl rfl (by decide +kernel)
set_option maxRecDepth 65536 in
theorem w_c36 : (Jvm.Cond.code ({ cls := "java/util/Arrays", name := "copyOfRange", desc := "([BII)[B" } : Jvm.MethodName) jdk_65_method_132_code (3 : Nat) (Option.some (Jvm.ClassFile.FieldType.array Jvm.ClassFile.FieldType.byte))).before args0 about1 = true := code_word (m := ⟨36, 4⟩) (meth := k36m4) (c := k36c4) (by decide +kernel) rfl rfl rfl (by decide +kernel)
set_option maxRecDepth 65536 in
theorem w_c37 : (Jvm.Cond.code ({ cls := "java/util/Arrays", name := "copyOfRangeByte", desc := "([BII)[B" } : Jvm.MethodName) jdk_65_method_133_code (5 : Nat) (Option.some (Jvm.ClassFile.FieldType.array Jvm.ClassFile.FieldType.byte))).before args0 about1 = true := code_word (m := ⟨36, 5⟩) (meth := k36m5) (c := k36c5) (by decide +kernel) rfl rfl rfl (by decide +kernel)
set_option maxRecDepth 65536 in
theorem w_c38 : (Jvm.Cond.code ({ cls := "java/util/Arrays", name := "checkLength", desc := "(II)V" } : Jvm.MethodName) jdk_65_method_131_code (2 : Nat) (Option.none : Option Jvm.ClassFile.FieldType)).before args0 about1 = true := code_word (m := ⟨36, 3⟩) (meth := k36m3) (c := k36c3) (by decide +kernel) rfl rfl rfl (by decide +kernel)
set_option maxRecDepth 65536 in
theorem w_c39 : (Jvm.Cond.code ({ cls := "java/lang/Math", name := "min", desc := "(II)I" } : Jvm.MethodName) jdk_29_method_69_code (2 : Nat) (Option.some Jvm.ClassFile.FieldType.int)).before args0 about1 = true := code_word (m := ⟨37, 2⟩) (meth := k37m2) (c := k37c2) (by decide +kernel) rfl rfl rfl (by decide +kernel)
set_option maxRecDepth 65536 in
theorem w_c40 : (Jvm.Cond.code ({ cls := "java/util/Optional", name := "of", desc := "(Ljava/lang/Object;)Ljava/util/Optional;" } : Jvm.MethodName) jdk_32_method_3_code (1 : Nat) (Option.some (Jvm.ClassFile.FieldType.object "java/util/Optional"))).before args0 about1 = true := code_word (m := ⟨39, 2⟩) (meth := k39m2) (c := k39c2) (by decide +kernel) rfl rfl rfl (by decide +kernel)
set_option maxRecDepth 65536 in
theorem w_c41 : (Jvm.Cond.code ({ cls := "java/util/Objects", name := "requireNonNull", desc := "(Ljava/lang/Object;)Ljava/lang/Object;" } : Jvm.MethodName) jdk_31_method_10_code (1 : Nat) (Option.some (Jvm.ClassFile.FieldType.object "java/lang/Object"))).before args0 about1 = true := code_word (m := ⟨13, 1⟩) (meth := k13m1) (c := k13c1) (by decide +kernel) rfl rfl rfl (by decide +kernel)
set_option maxRecDepth 65536 in
theorem w_c42 : (Jvm.Cond.code ({ cls := "java/util/Optional", name := "<init>", desc := "(Ljava/lang/Object;)V" } : Jvm.MethodName) jdk_32_method_2_code (2 : Nat) (Option.none : Option Jvm.ClassFile.FieldType)).before args0 about1 = true := code_word (m := ⟨39, 1⟩) (meth := k39m1) (c := k39c1) (by decide +kernel) rfl rfl rfl (by decide +kernel)
set_option maxRecDepth 65536 in
theorem w_c43 : (Jvm.Cond.code ({ cls := "java/util/Optional", name := "isPresent", desc := "()Z" } : Jvm.MethodName) jdk_32_method_6_code (1 : Nat) (Option.some Jvm.ClassFile.FieldType.boolean)).before args0 about1 = true := code_word (m := ⟨39, 4⟩) (meth := k39m4) (c := k39c4) (by decide +kernel) rfl rfl rfl (by decide +kernel)
set_option maxRecDepth 65536 in
theorem w_c44 : (Jvm.Cond.code ({ cls := "java/util/Optional", name := "get", desc := "()Ljava/lang/Object;" } : Jvm.MethodName) jdk_32_method_5_code (1 : Nat) (Option.some (Jvm.ClassFile.FieldType.object "java/lang/Object"))).before args0 about1 = true := code_word (m := ⟨39, 3⟩) (meth := k39m3) (c := k39c3) (by decide +kernel) rfl rfl rfl (by decide +kernel)
set_option maxRecDepth 65536 in
theorem w_c45 : (Jvm.Cond.code ({ cls := "com/example/ontology_over_tables/ontologyovertables/mapping/TermMapConstantPinLaw", name := "same", desc := "(Ljava/lang/String;[CI)Z" } : Jvm.MethodName) method_5_code (3 : Nat) (Option.some Jvm.ClassFile.FieldType.boolean)).before args0 about1 = true := code_word (m := ⟨1, 4⟩) (meth := k1m4) (c := k1c4) (by decide +kernel) rfl rfl rfl (by decide +kernel)
set_option maxRecDepth 65536 in
theorem w_c46 : (Jvm.Cond.code ({ cls := "java/lang/String", name := "length", desc := "()I" } : Jvm.MethodName) jdk_42_method_54_code (1 : Nat) (Option.some Jvm.ClassFile.FieldType.int)).before args0 about1 = true := code_word (m := ⟨7, 3⟩) (meth := k7m3) (c := k7c3) (by decide +kernel) rfl rfl rfl (by decide +kernel)
set_option maxRecDepth 65536 in
theorem w_c47 : (Jvm.Cond.code ({ cls := "java/lang/String", name := "coder", desc := "()B" } : Jvm.MethodName) jdk_42_method_152_code (1 : Nat) (Option.some Jvm.ClassFile.FieldType.byte)).before args0 about1 = true := code_word (m := ⟨7, 10⟩) (meth := k7m10) (c := k7c10) (by decide +kernel) rfl rfl rfl (by decide +kernel)
set_option maxRecDepth 65536 in
theorem w_c48 : (Jvm.Cond.code ({ cls := "java/util/ArrayList", name := "add", desc := "(Ljava/lang/Object;)Z" } : Jvm.MethodName) jdk_38_method_25_code (2 : Nat) (Option.some Jvm.ClassFile.FieldType.boolean)).before args0 about1 = true := code_word (m := ⟨23, 6⟩) (meth := k23m6) (c := k23c6) (by decide +kernel) rfl rfl rfl (by decide +kernel)
set_option maxRecDepth 65536 in
theorem w_c49 : (Jvm.Cond.code ({ cls := "java/util/ArrayList", name := "add", desc := "(Ljava/lang/Object;[Ljava/lang/Object;I)V" } : Jvm.MethodName) jdk_38_method_24_code (4 : Nat) (Option.none : Option Jvm.ClassFile.FieldType)).before args0 about1 = true := code_word (m := ⟨23, 5⟩) (meth := k23m5) (c := k23c5) (by decide +kernel) rfl rfl rfl (by decide +kernel)
set_option maxRecDepth 65536 in
theorem w_c50 : (Jvm.Cond.code ({ cls := "java/util/ArrayList", name := "grow", desc := "()[Ljava/lang/Object;" } : Jvm.MethodName) jdk_38_method_7_code (1 : Nat) (Option.some (Jvm.ClassFile.FieldType.array (Jvm.ClassFile.FieldType.object "java/lang/Object")))).before args0 about1 = true := code_word (m := ⟨23, 2⟩) (meth := k23m2) (c := k23c2) (by decide +kernel) rfl rfl rfl (by decide +kernel)
set_option maxRecDepth 65536 in
theorem w_c51 : (Jvm.Cond.code ({ cls := "java/util/ArrayList", name := "grow", desc := "(I)[Ljava/lang/Object;" } : Jvm.MethodName) jdk_38_method_6_code (4 : Nat) (Option.some (Jvm.ClassFile.FieldType.array (Jvm.ClassFile.FieldType.object "java/lang/Object")))).before args0 about1 = true := code_word (m := ⟨23, 1⟩) (meth := k23m1) (c := k23c1) (by decide +kernel) rfl rfl rfl (by decide +kernel)
set_option maxRecDepth 65536 in
theorem w_c52 : (Jvm.Cond.code ({ cls := "java/lang/Math", name := "max", desc := "(II)I" } : Jvm.MethodName) jdk_29_method_65_code (2 : Nat) (Option.some Jvm.ClassFile.FieldType.int)).before args0 about1 = true := code_word (m := ⟨37, 1⟩) (meth := k37m1) (c := k37c1) (by decide +kernel) rfl rfl rfl (by decide +kernel)
set_option maxRecDepth 65536 in
theorem w_c53 : (Jvm.Cond.code ({ cls := "java/util/ArrayList", name := "toArray", desc := "()[Ljava/lang/Object;" } : Jvm.MethodName) jdk_38_method_16_code (1 : Nat) (Option.some (Jvm.ClassFile.FieldType.array (Jvm.ClassFile.FieldType.object "java/lang/Object")))).before args0 about1 = true := code_word (m := ⟨23, 4⟩) (meth := k23m4) (c := k23c4) (by decide +kernel) rfl rfl rfl (by decide +kernel)
set_option maxRecDepth 65536 in
theorem w_c54 : (Jvm.Cond.code ({ cls := "java/util/Arrays", name := "copyOf", desc := "([Ljava/lang/Object;I)[Ljava/lang/Object;" } : Jvm.MethodName) jdk_65_method_119_code (2 : Nat) (Option.some (Jvm.ClassFile.FieldType.array (Jvm.ClassFile.FieldType.object "java/lang/Object")))).before args0 about1 = true := code_word (m := ⟨36, 1⟩) (meth := k36m1) (c := k36c1) (by decide +kernel) rfl rfl rfl (by decide +kernel)
set_option maxRecDepth 65536 in
theorem w_c55 : (Jvm.Cond.code ({ cls := "java/util/Arrays", name := "copyOf", desc := "([Ljava/lang/Object;ILjava/lang/Class;)[Ljava/lang/Object;" } : Jvm.MethodName) jdk_65_method_120_code (4 : Nat) (Option.some (Jvm.ClassFile.FieldType.array (Jvm.ClassFile.FieldType.object "java/lang/Object")))).before args0 about1 = true := code_word (m := ⟨36, 2⟩) (meth := k36m2) (c := k36c2) (by decide +kernel) rfl rfl rfl (by decide +kernel)
set_option maxRecDepth 65536 in
theorem w_c56 : (Jvm.Cond.code ({ cls := "java/util/List", name := "of", desc := "([Ljava/lang/Object;)Ljava/util/List;" } : Jvm.MethodName) jdk_40_method_47_code (2 : Nat) (Option.some (Jvm.ClassFile.FieldType.object "java/util/List"))).before args0 about1 = true := code_word (m := ⟨19, 3⟩) (meth := k19m3) (c := k19c3) (by decide +kernel) rfl rfl rfl (by decide +kernel)
set_option maxRecDepth 65536 in
theorem w_c57 : (Jvm.Cond.code ({ cls := "java/util/ImmutableCollections", name := "listFromArray", desc := "([Ljava/lang/Object;)Ljava/util/List;" } : Jvm.MethodName) jdk_56_method_4_code (3 : Nat) (Option.some (Jvm.ClassFile.FieldType.object "java/util/List"))).before args0 about1 = true := code_word (m := ⟨25, 2⟩) (meth := k25m2) (c := k25c2) (by decide +kernel) rfl rfl rfl (by decide +kernel)
set_option maxRecDepth 65536 in
theorem w_c58 : (Jvm.Cond.code ({ cls := "java/util/ImmutableCollections$ListN", name := "<init>", desc := "([Ljava/lang/Object;Z)V" } : Jvm.MethodName) jdk_45_method_1_code (3 : Nat) (Option.none : Option Jvm.ClassFile.FieldType)).before args0 about1 = true := code_word (m := ⟨29, 0⟩) (meth := k29m0) (c := k29c0) (by decide +kernel) rfl rfl rfl (by decide +kernel)
set_option maxRecDepth 65536 in
theorem w_c59 : (Jvm.Cond.code ({ cls := "java/util/ImmutableCollections$AbstractImmutableList", name := "<init>", desc := "()V" } : Jvm.MethodName) jdk_46_method_1_code (1 : Nat) (Option.none : Option Jvm.ClassFile.FieldType)).before args0 about1 = true := code_word (m := ⟨27, 0⟩) (meth := k27m0) (c := k27c0) (by decide +kernel) rfl rfl rfl (by decide +kernel)
set_option maxRecDepth 65536 in
theorem w_c60 : (Jvm.Cond.code ({ cls := "java/util/ImmutableCollections$AbstractImmutableCollection", name := "<init>", desc := "()V" } : Jvm.MethodName) jdk_47_method_1_code (1 : Nat) (Option.none : Option Jvm.ClassFile.FieldType)).before args0 about1 = true := code_word (m := ⟨26, 0⟩) (meth := k26m0) (c := k26c0) (by decide +kernel) rfl rfl rfl (by decide +kernel)
set_option maxRecDepth 65536 in
theorem w_c61 : (Jvm.Cond.code ({ cls := "java/util/ImmutableCollections$ListN", name := "get", desc := "(I)Ljava/lang/Object;" } : Jvm.MethodName) jdk_45_method_4_code (2 : Nat) (Option.some (Jvm.ClassFile.FieldType.object "java/lang/Object"))).before args0 about1 = true := code_word (m := ⟨29, 2⟩) (meth := k29m2) (c := k29c2) (by decide +kernel) rfl rfl rfl (by decide +kernel)
set_option maxRecDepth 65536 in
theorem w_c62 : (Jvm.Cond.code ({ cls := "com/example/ontology_over_tables/ontologyovertables/mapping/TriplesMap$TermMap$Text", name := "text", desc := "()Ljava/lang/String;" } : Jvm.MethodName) prog_21_method_5_code (1 : Nat) (Option.some (Jvm.ClassFile.FieldType.object "java/lang/String"))).before args0 about1 = true := code_word (m := ⟨14, 1⟩) (meth := k14m1) (c := k14c1) (by decide +kernel) rfl rfl rfl (by decide +kernel)
set_option maxRecDepth 65536 in
theorem w_c63 : (Jvm.Cond.code ({ cls := "java/lang/StringBuilder", name := "append", desc := "(Ljava/lang/String;)Ljava/lang/StringBuilder;" } : Jvm.MethodName) jdk_67_method_7_code (2 : Nat) (Option.some (Jvm.ClassFile.FieldType.object "java/lang/StringBuilder"))).before args0 about1 = true := code_word (m := ⟨32, 1⟩) (meth := k32m1) (c := k32c1) (by decide +kernel) rfl rfl rfl (by decide +kernel)
set_option maxRecDepth 65536 in
theorem w_c64 : (Jvm.Cond.code ({ cls := "java/lang/AbstractStringBuilder", name := "append", desc := "(Ljava/lang/String;)Ljava/lang/AbstractStringBuilder;" } : Jvm.MethodName) jdk_68_method_22_code (3 : Nat) (Option.some (Jvm.ClassFile.FieldType.object "java/lang/AbstractStringBuilder"))).before args0 about1 = true := code_word (m := ⟨31, 4⟩) (meth := k31m4) (c := k31c4) (by decide +kernel) rfl rfl rfl (by decide +kernel)
set_option maxRecDepth 65536 in
theorem w_c65 : (Jvm.Cond.code ({ cls := "java/lang/AbstractStringBuilder", name := "ensureCapacityInternal", desc := "(I)V" } : Jvm.MethodName) jdk_68_method_9_code (3 : Nat) (Option.none : Option Jvm.ClassFile.FieldType)).before args0 about1 = true := code_word (m := ⟨31, 3⟩) (meth := k31m3) (c := k31c3) (by decide +kernel) rfl rfl rfl (by decide +kernel)
set_option maxRecDepth 65536 in
theorem w_c66 : (Jvm.Cond.code ({ cls := "java/lang/AbstractStringBuilder", name := "putStringAt", desc := "(ILjava/lang/String;)V" } : Jvm.MethodName) jdk_68_method_73_code (3 : Nat) (Option.none : Option Jvm.ClassFile.FieldType)).before args0 about1 = true := code_word (m := ⟨31, 8⟩) (meth := k31m8) (c := k31c8) (by decide +kernel) rfl rfl rfl (by decide +kernel)
set_option maxRecDepth 65536 in
theorem w_c67 : (Jvm.Cond.code ({ cls := "java/lang/AbstractStringBuilder", name := "inflateIfNeededFor", desc := "(Ljava/lang/String;)V" } : Jvm.MethodName) jdk_68_method_71_code (2 : Nat) (Option.none : Option Jvm.ClassFile.FieldType)).before args0 about1 = true := code_word (m := ⟨31, 7⟩) (meth := k31m7) (c := k31c7) (by decide +kernel) rfl rfl rfl (by decide +kernel)
set_option maxRecDepth 65536 in
theorem w_c68 : (Jvm.Cond.code ({ cls := "java/lang/String", name := "getBytes", desc := "([BIB)V" } : Jvm.MethodName) jdk_42_method_147_code (4 : Nat) (Option.none : Option Jvm.ClassFile.FieldType)).before args0 about1 = true := code_word (m := ⟨7, 6⟩) (meth := k7m6) (c := k7c6) (by decide +kernel) rfl rfl rfl (by decide +kernel)
set_option maxRecDepth 65536 in
theorem w_c69 : (Jvm.Cond.code ({ cls := "com/example/ontology_over_tables/ontologyovertables/mapping/TermMapConstantPinLaw", name := "put", desc := "([CILjava/lang/String;)I" } : Jvm.MethodName) method_4_code (3 : Nat) (Option.some Jvm.ClassFile.FieldType.int)).before args0 about1 = true := code_word (m := ⟨1, 3⟩) (meth := k1m3) (c := k1c3) (by decide +kernel) rfl rfl rfl (by decide +kernel)
set_option maxRecDepth 65536 in
theorem w_c70 : (Jvm.Cond.code ({ cls := "java/lang/StringUTF16", name := "compress", desc := "([CII)[B" } : Jvm.MethodName) jdk_52_method_16_code (6 : Nat) (Option.some (Jvm.ClassFile.FieldType.array Jvm.ClassFile.FieldType.byte))).before args0 about1 = true := code_word (m := ⟨40, 2⟩) (meth := k40m2) (c := k40c2) (by decide +kernel) rfl rfl rfl (by decide +kernel)
set_option maxRecDepth 65536 in
theorem w_c71 : (Jvm.Cond.code ({ cls := "java/lang/StringUTF16", name := "compress", desc := "([CI[BII)I" } : Jvm.MethodName) jdk_52_method_21_code (7 : Nat) (Option.some Jvm.ClassFile.FieldType.int)).before args0 about1 = true := code_word (m := ⟨40, 3⟩) (meth := k40m3) (c := k40c3) (by decide +kernel) rfl rfl rfl (by decide +kernel)
set_option maxRecDepth 65536 in
theorem w_c72 : (Jvm.Cond.code ({ cls := "java/lang/StringUTF16", name := "coderFromArrayLen", desc := "([BI)B" } : Jvm.MethodName) jdk_52_method_15_code (2 : Nat) (Option.some Jvm.ClassFile.FieldType.byte)).before args0 about1 = true := code_word (m := ⟨40, 1⟩) (meth := k40m1) (c := k40c1) (by decide +kernel) rfl rfl rfl (by decide +kernel)
set_option maxRecDepth 65536 in
theorem w_c73 : (Jvm.Cond.code ({ cls := "java/util/Optional", name := "empty", desc := "()Ljava/util/Optional;" } : Jvm.MethodName) jdk_32_method_1_code (1 : Nat) (Option.some (Jvm.ClassFile.FieldType.object "java/util/Optional"))).before args0 about1 = true := code_word (m := ⟨39, 0⟩) (meth := k39m0) (c := k39c0) (by decide +kernel) rfl rfl rfl (by decide +kernel)
set_option maxRecDepth 65536 in
theorem w_c74 : (Jvm.Cond.code ({ cls := "java/util/ImmutableCollections$List12", name := "<init>", desc := "(Ljava/lang/Object;Ljava/lang/Object;)V" } : Jvm.MethodName) jdk_44_method_2_code (3 : Nat) (Option.none : Option Jvm.ClassFile.FieldType)).before args0 about1 = true := code_word (m := ⟨28, 1⟩) (meth := k28m1) (c := k28c1) (by decide +kernel) rfl rfl rfl (by decide +kernel)
set_option maxRecDepth 65536 in
theorem w_c75 : (Jvm.Cond.code ({ cls := "java/util/ImmutableCollections$List12", name := "size", desc := "()I" } : Jvm.MethodName) jdk_44_method_3_code (1 : Nat) (Option.some Jvm.ClassFile.FieldType.int)).before args0 about1 = true := code_word (m := ⟨28, 2⟩) (meth := k28m2) (c := k28c2) (by decide +kernel) rfl rfl rfl (by decide +kernel)
set_option maxRecDepth 65536 in
theorem w_c76 : (Jvm.Cond.code ({ cls := "java/util/ImmutableCollections$List12", name := "get", desc := "(I)Ljava/lang/Object;" } : Jvm.MethodName) jdk_44_method_5_code (2 : Nat) (Option.some (Jvm.ClassFile.FieldType.object "java/lang/Object"))).before args0 about1 = true := code_word (m := ⟨28, 3⟩) (meth := k28m3) (c := k28c3) (by decide +kernel) rfl rfl rfl (by decide +kernel)
set_option maxRecDepth 65536 in
theorem w_c77 : (Jvm.Cond.code ({ cls := "java/util/ImmutableCollections$List12", name := "<init>", desc := "(Ljava/lang/Object;)V" } : Jvm.MethodName) jdk_44_method_1_code (2 : Nat) (Option.none : Option Jvm.ClassFile.FieldType)).before args0 about1 = true := code_word (m := ⟨28, 0⟩) (meth := k28m0) (c := k28c0) (by decide +kernel) rfl rfl rfl (by decide +kernel)
set_option maxRecDepth 65536 in
theorem w_c78 : (Jvm.Cond.code ({ cls := "java/lang/String", name := "charAt", desc := "(I)C" } : Jvm.MethodName) jdk_42_method_56_code (2 : Nat) (Option.some Jvm.ClassFile.FieldType.char)).before args0 about1 = true := code_word (m := ⟨7, 4⟩) (meth := k7m4) (c := k7c4) (by decide +kernel) rfl rfl rfl (by decide +kernel)
set_option maxRecDepth 65536 in
theorem w_c79 : (Jvm.Cond.code ({ cls := "java/lang/String", name := "isLatin1", desc := "()Z" } : Jvm.MethodName) jdk_42_method_154_code (1 : Nat) (Option.some Jvm.ClassFile.FieldType.boolean)).before args0 about1 = true := code_word (m := ⟨7, 11⟩) (meth := k7m11) (c := k7c11) (by decide +kernel) rfl rfl rfl (by decide +kernel)
set_option maxRecDepth 65536 in
theorem w_c80 : (Jvm.Cond.code ({ cls := "java/lang/StringLatin1", name := "charAt", desc := "([BI)C" } : Jvm.MethodName) jdk_43_method_2_code (2 : Nat) (Option.some Jvm.ClassFile.FieldType.char)).before args0 about1 = true := code_word (m := ⟨10, 1⟩) (meth := k10m1) (c := k10c1) (by decide +kernel) rfl rfl rfl (by decide +kernel)
set_option maxRecDepth 65536 in
theorem w_c81 : (Jvm.Cond.code ({ cls := "java/lang/String", name := "checkIndex", desc := "(II)V" } : Jvm.MethodName) jdk_42_method_155_code (2 : Nat) (Option.none : Option Jvm.ClassFile.FieldType)).before args0 about1 = true := code_word (m := ⟨7, 12⟩) (meth := k7m12) (c := k7c12) (by decide +kernel) rfl rfl rfl (by decide +kernel)
set_option maxRecDepth 65536 in
theorem w_c82 : (Jvm.Cond.code ({ cls := "jdk/internal/util/Preconditions", name := "checkIndex", desc := "(IILjava/util/function/BiFunction;)I" } : Jvm.MethodName) jdk_41_method_11_code (3 : Nat) (Option.some Jvm.ClassFile.FieldType.int)).before args0 about1 = true := code_word (m := ⟨41, 1⟩) (meth := k41m1) (c := k41c1) (by decide +kernel) rfl rfl rfl (by decide +kernel)
def codes1 : List Jvm.Cond := [Jvm.Cond.code x code maxLocals ret, Jvm.Cond.code ({ cls := "com/example/ontology_over_tables/ontologyovertables/mapping/TermMapConstantPinLaw", name := "text", desc := "(I)Ljava/lang/String;" } : Jvm.MethodName) method_3_code (5 : Nat) (Option.some (Jvm.ClassFile.FieldType.object "java/lang/String")), Jvm.Cond.code ({ cls := "java/lang/String", name := "<init>", desc := "([C)V" } : Jvm.MethodName) jdk_42_method_3_code (2 : Nat) (Option.none : Option Jvm.ClassFile.FieldType), Jvm.Cond.code ({ cls := "java/lang/String", name := "<init>", desc := "([CIILjava/lang/Void;)V" } : Jvm.MethodName) jdk_42_method_149_code (6 : Nat) (Option.none : Option Jvm.ClassFile.FieldType), Jvm.Cond.code ({ cls := "java/lang/Object", name := "<init>", desc := "()V" } : Jvm.MethodName) object_method_1_code (1 : Nat) (Option.none : Option Jvm.ClassFile.FieldType), Jvm.Cond.code ({ cls := "java/lang/String", name := "valueOf", desc := "(C)Ljava/lang/String;" } : Jvm.MethodName) jdk_42_method_139_code (1 : Nat) (Option.some (Jvm.ClassFile.FieldType.object "java/lang/String")), Jvm.Cond.code ({ cls := "java/lang/StringLatin1", name := "canEncode", desc := "(C)Z" } : Jvm.MethodName) jdk_43_method_3_code (1 : Nat) (Option.some Jvm.ClassFile.FieldType.boolean), Jvm.Cond.code ({ cls := "java/lang/StringLatin1", name := "toBytes", desc := "(C)[B" } : Jvm.MethodName) jdk_43_method_46_code (1 : Nat) (Option.some (Jvm.ClassFile.FieldType.array Jvm.ClassFile.FieldType.byte)), Jvm.Cond.code ({ cls := "java/lang/String", name := "<init>", desc := "([BB)V" } : Jvm.MethodName) jdk_42_method_151_code (3 : Nat) (Option.none : Option Jvm.ClassFile.FieldType), Jvm.Cond.code ({ cls := "com/example/ontology_over_tables/ontologyovertables/mapping/SqlIdentifier", name := "<init>", desc := "(Ljava/lang/String;Z)V" } : Jvm.MethodName) prog_7_method_1_code (3 : Nat) (Option.none : Option Jvm.ClassFile.FieldType), Jvm.Cond.code ({ cls := "java/lang/Record", name := "<init>", desc := "()V" } : Jvm.MethodName) jdk_30_method_1_code (1 : Nat) (Option.none : Option Jvm.ClassFile.FieldType), Jvm.Cond.code ({ cls := "com/example/ontology_over_tables/ontologyovertables/mapping/TriplesMap$TermMap$Column", name := "<init>", desc := "(Lcom/example/ontology_over_tables/ontologyovertables/mapping/SqlIdentifier;)V" } : Jvm.MethodName) prog_19_method_1_code (2 : Nat) (Option.none : Option Jvm.ClassFile.FieldType), Jvm.Cond.code ({ cls := "java/util/Objects", name := "requireNonNull", desc := "(Ljava/lang/Object;Ljava/lang/String;)Ljava/lang/Object;" } : Jvm.MethodName) jdk_31_method_11_code (2 : Nat) (Option.some (Jvm.ClassFile.FieldType.object "java/lang/Object")), Jvm.Cond.code ({ cls := "com/example/ontology_over_tables/ontologyovertables/mapping/TriplesMap$TermMap$Text", name := "<init>", desc := "(Ljava/lang/String;)V" } : Jvm.MethodName) prog_21_method_1_code (2 : Nat) (Option.none : Option Jvm.ClassFile.FieldType), Jvm.Cond.code ({ cls := "java/util/ArrayList", name := "<init>", desc := "()V" } : Jvm.MethodName) jdk_38_method_2_code (1 : Nat) (Option.none : Option Jvm.ClassFile.FieldType), Jvm.Cond.code ({ cls := "java/util/AbstractList", name := "<init>", desc := "()V" } : Jvm.MethodName) jdk_39_method_1_code (1 : Nat) (Option.none : Option Jvm.ClassFile.FieldType), Jvm.Cond.code ({ cls := "java/util/AbstractCollection", name := "<init>", desc := "()V" } : Jvm.MethodName) jdk_22_method_1_code (1 : Nat) (Option.none : Option Jvm.ClassFile.FieldType), Jvm.Cond.code ({ cls := "com/example/ontology_over_tables/ontologyovertables/mapping/TriplesMap$TermMap", name := "<init>", desc := "(Ljava/util/List;ZZ)V" } : Jvm.MethodName) prog_18_method_1_code (4 : Nat) (Option.none : Option Jvm.ClassFile.FieldType), Jvm.Cond.code ({ cls := "java/util/List", name := "copyOf", desc := "(Ljava/util/Collection;)Ljava/util/List;" } : Jvm.MethodName) jdk_40_method_48_code (1 : Nat) (Option.some (Jvm.ClassFile.FieldType.object "java/util/List")), Jvm.Cond.code ({ cls := "java/util/ImmutableCollections", name := "listCopy", desc := "(Ljava/util/Collection;)Ljava/util/List;" } : Jvm.MethodName) jdk_56_method_3_code (2 : Nat) (Option.some (Jvm.ClassFile.FieldType.object "java/util/List")), Jvm.Cond.code ({ cls := "java/util/ArrayList", name := "isEmpty", desc := "()Z" } : Jvm.MethodName) jdk_38_method_9_code (1 : Nat) (Option.some Jvm.ClassFile.FieldType.boolean), Jvm.Cond.code ({ cls := "java/util/List", name := "of", desc := "()Ljava/util/List;" } : Jvm.MethodName) jdk_40_method_36_code (0 : Nat) (Option.some (Jvm.ClassFile.FieldType.object "java/util/List")), Jvm.Cond.code ({ cls := "com/example/ontology_over_tables/ontologyovertables/mapping/TriplesMap$TermMap", name := "constant", desc := "()Ljava/util/Optional;" } : Jvm.MethodName) prog_18_method_3_code (5 : Nat) (Option.some (Jvm.ClassFile.FieldType.object "java/util/Optional")), Jvm.Cond.code ({ cls := "java/lang/StringBuilder", name := "<init>", desc := "()V" } : Jvm.MethodName) jdk_67_method_1_code (1 : Nat) (Option.none : Option Jvm.ClassFile.FieldType), Jvm.Cond.code ({ cls := "java/lang/AbstractStringBuilder", name := "<init>", desc := "(I)V" } : Jvm.MethodName) jdk_68_method_2_code (2 : Nat) (Option.none : Option Jvm.ClassFile.FieldType), Jvm.Cond.code ({ cls := "java/util/ImmutableCollections$AbstractImmutableList", name := "iterator", desc := "()Ljava/util/Iterator;" } : Jvm.MethodName) jdk_46_method_10_code (1 : Nat) (Option.some (Jvm.ClassFile.FieldType.object "java/util/Iterator")), Jvm.Cond.code ({ cls := "java/util/ImmutableCollections$ListN", name := "size", desc := "()I" } : Jvm.MethodName) jdk_45_method_3_code (1 : Nat) (Option.some Jvm.ClassFile.FieldType.int), Jvm.Cond.code ({ cls := "java/util/ImmutableCollections$ListItr", name := "<init>", desc := "(Ljava/util/List;I)V" } : Jvm.MethodName) jdk_53_method_1_code (3 : Nat) (Option.none : Option Jvm.ClassFile.FieldType), Jvm.Cond.code ({ cls := "java/util/ImmutableCollections$ListItr", name := "hasNext", desc := "()Z" } : Jvm.MethodName) jdk_53_method_3_code (1 : Nat) (Option.some Jvm.ClassFile.FieldType.boolean), Jvm.Cond.code ({ cls := "java/lang/StringBuilder", name := "toString", desc := "()Ljava/lang/String;" } : Jvm.MethodName) jdk_67_method_42_code (1 : Nat) (Option.some (Jvm.ClassFile.FieldType.object "java/lang/String")), Jvm.Cond.code ({ cls := "java/lang/String", name := "<init>", desc := "(Ljava/lang/StringBuilder;)V" } : Jvm.MethodName) jdk_42_method_53_code (2 : Nat) (Option.none : Option Jvm.ClassFile.FieldType), Jvm.Cond.code ({ cls := "java/lang/String", name := "<init>", desc := "(Ljava/lang/AbstractStringBuilder;Ljava/lang/Void;)V" } : Jvm.MethodName) jdk_42_method_150_code (5 : Nat) (Option.none : Option Jvm.ClassFile.FieldType), Jvm.Cond.code ({ cls := "java/lang/AbstractStringBuilder", name := "getValue", desc := "()[B" } : Jvm.MethodName) jdk_68_method_64_code (1 : Nat) (Option.some (Jvm.ClassFile.FieldType.array Jvm.ClassFile.FieldType.byte)), Jvm.Cond.code ({ cls := "java/lang/StringBuilder", name := "length", desc := "()I" } : Jvm.MethodName) jdk_67_method_93_code (1 : Nat) (Option.some Jvm.ClassFile.FieldType.int), Jvm.Cond.code ({ cls := "java/lang/AbstractStringBuilder", name := "length", desc := "()I" } : Jvm.MethodName) jdk_68_method_6_code (1 : Nat) (Option.some Jvm.ClassFile.FieldType.int), Jvm.Cond.code ({ cls := "java/lang/AbstractStringBuilder", name := "isLatin1", desc := "()Z" } : Jvm.MethodName) jdk_68_method_68_code (1 : Nat) (Option.some Jvm.ClassFile.FieldType.boolean), Jvm.Cond.code ({ cls := "java/util/Arrays", name := "copyOfRange", desc := "([BII)[B" } : Jvm.MethodName) jdk_65_method_132_code (3 : Nat) (Option.some (Jvm.ClassFile.FieldType.array Jvm.ClassFile.FieldType.byte)), Jvm.Cond.code ({ cls := "java/util/Arrays", name := "copyOfRangeByte", desc := "([BII)[B" } : Jvm.MethodName) jdk_65_method_133_code (5 : Nat) (Option.some (Jvm.ClassFile.FieldType.array Jvm.ClassFile.FieldType.byte)), Jvm.Cond.code ({ cls := "java/util/Arrays", name := "checkLength", desc := "(II)V" } : Jvm.MethodName) jdk_65_method_131_code (2 : Nat) (Option.none : Option Jvm.ClassFile.FieldType), Jvm.Cond.code ({ cls := "java/lang/Math", name := "min", desc := "(II)I" } : Jvm.MethodName) jdk_29_method_69_code (2 : Nat) (Option.some Jvm.ClassFile.FieldType.int), Jvm.Cond.code ({ cls := "java/util/Optional", name := "of", desc := "(Ljava/lang/Object;)Ljava/util/Optional;" } : Jvm.MethodName) jdk_32_method_3_code (1 : Nat) (Option.some (Jvm.ClassFile.FieldType.object "java/util/Optional")), Jvm.Cond.code ({ cls := "java/util/Objects", name := "requireNonNull", desc := "(Ljava/lang/Object;)Ljava/lang/Object;" } : Jvm.MethodName) jdk_31_method_10_code (1 : Nat) (Option.some (Jvm.ClassFile.FieldType.object "java/lang/Object")), Jvm.Cond.code ({ cls := "java/util/Optional", name := "<init>", desc := "(Ljava/lang/Object;)V" } : Jvm.MethodName) jdk_32_method_2_code (2 : Nat) (Option.none : Option Jvm.ClassFile.FieldType), Jvm.Cond.code ({ cls := "java/util/Optional", name := "isPresent", desc := "()Z" } : Jvm.MethodName) jdk_32_method_6_code (1 : Nat) (Option.some Jvm.ClassFile.FieldType.boolean), Jvm.Cond.code ({ cls := "java/util/Optional", name := "get", desc := "()Ljava/lang/Object;" } : Jvm.MethodName) jdk_32_method_5_code (1 : Nat) (Option.some (Jvm.ClassFile.FieldType.object "java/lang/Object")), Jvm.Cond.code ({ cls := "com/example/ontology_over_tables/ontologyovertables/mapping/TermMapConstantPinLaw", name := "same", desc := "(Ljava/lang/String;[CI)Z" } : Jvm.MethodName) method_5_code (3 : Nat) (Option.some Jvm.ClassFile.FieldType.boolean), Jvm.Cond.code ({ cls := "java/lang/String", name := "length", desc := "()I" } : Jvm.MethodName) jdk_42_method_54_code (1 : Nat) (Option.some Jvm.ClassFile.FieldType.int), Jvm.Cond.code ({ cls := "java/lang/String", name := "coder", desc := "()B" } : Jvm.MethodName) jdk_42_method_152_code (1 : Nat) (Option.some Jvm.ClassFile.FieldType.byte), Jvm.Cond.code ({ cls := "java/util/ArrayList", name := "add", desc := "(Ljava/lang/Object;)Z" } : Jvm.MethodName) jdk_38_method_25_code (2 : Nat) (Option.some Jvm.ClassFile.FieldType.boolean), Jvm.Cond.code ({ cls := "java/util/ArrayList", name := "add", desc := "(Ljava/lang/Object;[Ljava/lang/Object;I)V" } : Jvm.MethodName) jdk_38_method_24_code (4 : Nat) (Option.none : Option Jvm.ClassFile.FieldType), Jvm.Cond.code ({ cls := "java/util/ArrayList", name := "grow", desc := "()[Ljava/lang/Object;" } : Jvm.MethodName) jdk_38_method_7_code (1 : Nat) (Option.some (Jvm.ClassFile.FieldType.array (Jvm.ClassFile.FieldType.object "java/lang/Object"))), Jvm.Cond.code ({ cls := "java/util/ArrayList", name := "grow", desc := "(I)[Ljava/lang/Object;" } : Jvm.MethodName) jdk_38_method_6_code (4 : Nat) (Option.some (Jvm.ClassFile.FieldType.array (Jvm.ClassFile.FieldType.object "java/lang/Object"))), Jvm.Cond.code ({ cls := "java/lang/Math", name := "max", desc := "(II)I" } : Jvm.MethodName) jdk_29_method_65_code (2 : Nat) (Option.some Jvm.ClassFile.FieldType.int), Jvm.Cond.code ({ cls := "java/util/ArrayList", name := "toArray", desc := "()[Ljava/lang/Object;" } : Jvm.MethodName) jdk_38_method_16_code (1 : Nat) (Option.some (Jvm.ClassFile.FieldType.array (Jvm.ClassFile.FieldType.object "java/lang/Object"))), Jvm.Cond.code ({ cls := "java/util/Arrays", name := "copyOf", desc := "([Ljava/lang/Object;I)[Ljava/lang/Object;" } : Jvm.MethodName) jdk_65_method_119_code (2 : Nat) (Option.some (Jvm.ClassFile.FieldType.array (Jvm.ClassFile.FieldType.object "java/lang/Object"))), Jvm.Cond.code ({ cls := "java/util/Arrays", name := "copyOf", desc := "([Ljava/lang/Object;ILjava/lang/Class;)[Ljava/lang/Object;" } : Jvm.MethodName) jdk_65_method_120_code (4 : Nat) (Option.some (Jvm.ClassFile.FieldType.array (Jvm.ClassFile.FieldType.object "java/lang/Object"))), Jvm.Cond.code ({ cls := "java/util/List", name := "of", desc := "([Ljava/lang/Object;)Ljava/util/List;" } : Jvm.MethodName) jdk_40_method_47_code (2 : Nat) (Option.some (Jvm.ClassFile.FieldType.object "java/util/List")), Jvm.Cond.code ({ cls := "java/util/ImmutableCollections", name := "listFromArray", desc := "([Ljava/lang/Object;)Ljava/util/List;" } : Jvm.MethodName) jdk_56_method_4_code (3 : Nat) (Option.some (Jvm.ClassFile.FieldType.object "java/util/List")), Jvm.Cond.code ({ cls := "java/util/ImmutableCollections$ListN", name := "<init>", desc := "([Ljava/lang/Object;Z)V" } : Jvm.MethodName) jdk_45_method_1_code (3 : Nat) (Option.none : Option Jvm.ClassFile.FieldType), Jvm.Cond.code ({ cls := "java/util/ImmutableCollections$AbstractImmutableList", name := "<init>", desc := "()V" } : Jvm.MethodName) jdk_46_method_1_code (1 : Nat) (Option.none : Option Jvm.ClassFile.FieldType), Jvm.Cond.code ({ cls := "java/util/ImmutableCollections$AbstractImmutableCollection", name := "<init>", desc := "()V" } : Jvm.MethodName) jdk_47_method_1_code (1 : Nat) (Option.none : Option Jvm.ClassFile.FieldType), Jvm.Cond.code ({ cls := "java/util/ImmutableCollections$ListN", name := "get", desc := "(I)Ljava/lang/Object;" } : Jvm.MethodName) jdk_45_method_4_code (2 : Nat) (Option.some (Jvm.ClassFile.FieldType.object "java/lang/Object")), Jvm.Cond.code ({ cls := "com/example/ontology_over_tables/ontologyovertables/mapping/TriplesMap$TermMap$Text", name := "text", desc := "()Ljava/lang/String;" } : Jvm.MethodName) prog_21_method_5_code (1 : Nat) (Option.some (Jvm.ClassFile.FieldType.object "java/lang/String")), Jvm.Cond.code ({ cls := "java/lang/StringBuilder", name := "append", desc := "(Ljava/lang/String;)Ljava/lang/StringBuilder;" } : Jvm.MethodName) jdk_67_method_7_code (2 : Nat) (Option.some (Jvm.ClassFile.FieldType.object "java/lang/StringBuilder")), Jvm.Cond.code ({ cls := "java/lang/AbstractStringBuilder", name := "append", desc := "(Ljava/lang/String;)Ljava/lang/AbstractStringBuilder;" } : Jvm.MethodName) jdk_68_method_22_code (3 : Nat) (Option.some (Jvm.ClassFile.FieldType.object "java/lang/AbstractStringBuilder")), Jvm.Cond.code ({ cls := "java/lang/AbstractStringBuilder", name := "ensureCapacityInternal", desc := "(I)V" } : Jvm.MethodName) jdk_68_method_9_code (3 : Nat) (Option.none : Option Jvm.ClassFile.FieldType), Jvm.Cond.code ({ cls := "java/lang/AbstractStringBuilder", name := "putStringAt", desc := "(ILjava/lang/String;)V" } : Jvm.MethodName) jdk_68_method_73_code (3 : Nat) (Option.none : Option Jvm.ClassFile.FieldType), Jvm.Cond.code ({ cls := "java/lang/AbstractStringBuilder", name := "inflateIfNeededFor", desc := "(Ljava/lang/String;)V" } : Jvm.MethodName) jdk_68_method_71_code (2 : Nat) (Option.none : Option Jvm.ClassFile.FieldType), Jvm.Cond.code ({ cls := "java/lang/String", name := "getBytes", desc := "([BIB)V" } : Jvm.MethodName) jdk_42_method_147_code (4 : Nat) (Option.none : Option Jvm.ClassFile.FieldType), Jvm.Cond.code ({ cls := "com/example/ontology_over_tables/ontologyovertables/mapping/TermMapConstantPinLaw", name := "put", desc := "([CILjava/lang/String;)I" } : Jvm.MethodName) method_4_code (3 : Nat) (Option.some Jvm.ClassFile.FieldType.int), Jvm.Cond.code ({ cls := "java/lang/StringUTF16", name := "compress", desc := "([CII)[B" } : Jvm.MethodName) jdk_52_method_16_code (6 : Nat) (Option.some (Jvm.ClassFile.FieldType.array Jvm.ClassFile.FieldType.byte)), Jvm.Cond.code ({ cls := "java/lang/StringUTF16", name := "compress", desc := "([CI[BII)I" } : Jvm.MethodName) jdk_52_method_21_code (7 : Nat) (Option.some Jvm.ClassFile.FieldType.int), Jvm.Cond.code ({ cls := "java/lang/StringUTF16", name := "coderFromArrayLen", desc := "([BI)B" } : Jvm.MethodName) jdk_52_method_15_code (2 : Nat) (Option.some Jvm.ClassFile.FieldType.byte), Jvm.Cond.code ({ cls := "java/util/Optional", name := "empty", desc := "()Ljava/util/Optional;" } : Jvm.MethodName) jdk_32_method_1_code (1 : Nat) (Option.some (Jvm.ClassFile.FieldType.object "java/util/Optional")), Jvm.Cond.code ({ cls := "java/util/ImmutableCollections$List12", name := "<init>", desc := "(Ljava/lang/Object;Ljava/lang/Object;)V" } : Jvm.MethodName) jdk_44_method_2_code (3 : Nat) (Option.none : Option Jvm.ClassFile.FieldType), Jvm.Cond.code ({ cls := "java/util/ImmutableCollections$List12", name := "size", desc := "()I" } : Jvm.MethodName) jdk_44_method_3_code (1 : Nat) (Option.some Jvm.ClassFile.FieldType.int), Jvm.Cond.code ({ cls := "java/util/ImmutableCollections$List12", name := "get", desc := "(I)Ljava/lang/Object;" } : Jvm.MethodName) jdk_44_method_5_code (2 : Nat) (Option.some (Jvm.ClassFile.FieldType.object "java/lang/Object")), Jvm.Cond.code ({ cls := "java/util/ImmutableCollections$List12", name := "<init>", desc := "(Ljava/lang/Object;)V" } : Jvm.MethodName) jdk_44_method_1_code (2 : Nat) (Option.none : Option Jvm.ClassFile.FieldType), Jvm.Cond.code ({ cls := "java/lang/String", name := "charAt", desc := "(I)C" } : Jvm.MethodName) jdk_42_method_56_code (2 : Nat) (Option.some Jvm.ClassFile.FieldType.char), Jvm.Cond.code ({ cls := "java/lang/String", name := "isLatin1", desc := "()Z" } : Jvm.MethodName) jdk_42_method_154_code (1 : Nat) (Option.some Jvm.ClassFile.FieldType.boolean), Jvm.Cond.code ({ cls := "java/lang/StringLatin1", name := "charAt", desc := "([BI)C" } : Jvm.MethodName) jdk_43_method_2_code (2 : Nat) (Option.some Jvm.ClassFile.FieldType.char), Jvm.Cond.code ({ cls := "java/lang/String", name := "checkIndex", desc := "(II)V" } : Jvm.MethodName) jdk_42_method_155_code (2 : Nat) (Option.none : Option Jvm.ClassFile.FieldType), Jvm.Cond.code ({ cls := "jdk/internal/util/Preconditions", name := "checkIndex", desc := "(IILjava/util/function/BiFunction;)I" } : Jvm.MethodName) jdk_41_method_11_code (3 : Nat) (Option.some Jvm.ClassFile.FieldType.int)]
set_option maxRecDepth 65536 in
theorem codes_eq : words1.filter isCode = codes1 := rfl
theorem w_codes : ∀ c ∈ words1.filter isCode, c.before args0 about1 = true := by
  rw [codes_eq]
  intro c hc
  simp only [codes1, List.mem_cons, List.not_mem_nil, or_false] at hc
  rcases hc with rfl | rfl | rfl | rfl | rfl | rfl | rfl | rfl | rfl | rfl | rfl | rfl | rfl | rfl | rfl | rfl | rfl | rfl | rfl | rfl | rfl | rfl | rfl | rfl | rfl | rfl | rfl | rfl | rfl | rfl | rfl | rfl | rfl | rfl | rfl | rfl | rfl | rfl | rfl | rfl | rfl | rfl | rfl | rfl | rfl | rfl | rfl | rfl | rfl | rfl | rfl | rfl | rfl | rfl | rfl | rfl | rfl | rfl | rfl | rfl | rfl | rfl | rfl | rfl | rfl | rfl | rfl | rfl | rfl | rfl | rfl | rfl | rfl | rfl | rfl | rfl | rfl | rfl | rfl | rfl | rfl | rfl | rfl
  · exact w_c0
  · exact w_c1
  · exact w_c2
  · exact w_c3
  · exact w_c4
  · exact w_c5
  · exact w_c6
  · exact w_c7
  · exact w_c8
  · exact w_c9
  · exact w_c10
  · exact w_c11
  · exact w_c12
  · exact w_c13
  · exact w_c14
  · exact w_c15
  · exact w_c16
  · exact w_c17
  · exact w_c18
  · exact w_c19
  · exact w_c20
  · exact w_c21
  · exact w_c22
  · exact w_c23
  · exact w_c24
  · exact w_c25
  · exact w_c26
  · exact w_c27
  · exact w_c28
  · exact w_c29
  · exact w_c30
  · exact w_c31
  · exact w_c32
  · exact w_c33
  · exact w_c34
  · exact w_c35
  · exact w_c36
  · exact w_c37
  · exact w_c38
  · exact w_c39
  · exact w_c40
  · exact w_c41
  · exact w_c42
  · exact w_c43
  · exact w_c44
  · exact w_c45
  · exact w_c46
  · exact w_c47
  · exact w_c48
  · exact w_c49
  · exact w_c50
  · exact w_c51
  · exact w_c52
  · exact w_c53
  · exact w_c54
  · exact w_c55
  · exact w_c56
  · exact w_c57
  · exact w_c58
  · exact w_c59
  · exact w_c60
  · exact w_c61
  · exact w_c62
  · exact w_c63
  · exact w_c64
  · exact w_c65
  · exact w_c66
  · exact w_c67
  · exact w_c68
  · exact w_c69
  · exact w_c70
  · exact w_c71
  · exact w_c72
  · exact w_c73
  · exact w_c74
  · exact w_c75
  · exact w_c76
  · exact w_c77
  · exact w_c78
  · exact w_c79
  · exact w_c80
  · exact w_c81
  · exact w_c82
set_option maxRecDepth 65536 in
theorem w_t1 : (words1.take 24).all (fun c => isCode c || c.before args0 about1) = true := by decide +kernel
set_option maxRecDepth 65536 in
theorem w_t2 : ((words1.drop 24).take 24).all (fun c => isCode c || c.before args0 about1) = true := by decide +kernel
set_option maxRecDepth 65536 in
theorem w_t3 : (((words1.drop 24).drop 24).take 24).all (fun c => isCode c || c.before args0 about1) = true := by decide +kernel
set_option maxRecDepth 65536 in
theorem w_t4 : ((((words1.drop 24).drop 24).drop 24).take 24).all (fun c => isCode c || c.before args0 about1) = true := by decide +kernel
set_option maxRecDepth 65536 in
theorem w_t5 : (((((words1.drop 24).drop 24).drop 24).drop 24).take 24).all (fun c => isCode c || c.before args0 about1) = true := by decide +kernel
set_option maxRecDepth 65536 in
theorem w_t6 : ((((((words1.drop 24).drop 24).drop 24).drop 24).drop 24).take 24).all (fun c => isCode c || c.before args0 about1) = true := by decide +kernel
set_option maxRecDepth 65536 in
theorem w_t7 : (((((((words1.drop 24).drop 24).drop 24).drop 24).drop 24).drop 24).take 24).all (fun c => isCode c || c.before args0 about1) = true := by decide +kernel
set_option maxRecDepth 65536 in
theorem w_t8 : ((((((((words1.drop 24).drop 24).drop 24).drop 24).drop 24).drop 24).drop 24).take 24).all (fun c => isCode c || c.before args0 about1) = true := by decide +kernel
set_option maxRecDepth 65536 in
theorem w_t9 : (((((((((words1.drop 24).drop 24).drop 24).drop 24).drop 24).drop 24).drop 24).drop 24).take 24).all (fun c => isCode c || c.before args0 about1) = true := by decide +kernel
set_option maxRecDepth 65536 in
theorem w_t10 : ((((((((((words1.drop 24).drop 24).drop 24).drop 24).drop 24).drop 24).drop 24).drop 24).drop 24).take 24).all (fun c => isCode c || c.before args0 about1) = true := by decide +kernel
set_option maxRecDepth 65536 in
theorem w_t11 : (((((((((((words1.drop 24).drop 24).drop 24).drop 24).drop 24).drop 24).drop 24).drop 24).drop 24).drop 24).take 24).all (fun c => isCode c || c.before args0 about1) = true := by decide +kernel
set_option maxRecDepth 65536 in
theorem w_t12 : ((((((((((((words1.drop 24).drop 24).drop 24).drop 24).drop 24).drop 24).drop 24).drop 24).drop 24).drop 24).drop 24).take 24).all (fun c => isCode c || c.before args0 about1) = true := by decide +kernel
set_option maxRecDepth 65536 in
theorem w_t13 : (((((((((((((words1.drop 24).drop 24).drop 24).drop 24).drop 24).drop 24).drop 24).drop 24).drop 24).drop 24).drop 24).drop 24).take 24).all (fun c => isCode c || c.before args0 about1) = true := by decide +kernel
set_option maxRecDepth 65536 in
theorem w_t14 : ((((((((((((((words1.drop 24).drop 24).drop 24).drop 24).drop 24).drop 24).drop 24).drop 24).drop 24).drop 24).drop 24).drop 24).drop 24).take 24).all (fun c => isCode c || c.before args0 about1) = true := by decide +kernel
set_option maxRecDepth 65536 in
theorem w_t15 : (((((((((((((((words1.drop 24).drop 24).drop 24).drop 24).drop 24).drop 24).drop 24).drop 24).drop 24).drop 24).drop 24).drop 24).drop 24).drop 24).take 24).all (fun c => isCode c || c.before args0 about1) = true := by decide +kernel
set_option maxRecDepth 65536 in
theorem w_t16 : ((((((((((((((((words1.drop 24).drop 24).drop 24).drop 24).drop 24).drop 24).drop 24).drop 24).drop 24).drop 24).drop 24).drop 24).drop 24).drop 24).drop 24).take 24).all (fun c => isCode c || c.before args0 about1) = true := by decide +kernel
set_option maxRecDepth 65536 in
theorem w_t17 : (((((((((((((((((words1.drop 24).drop 24).drop 24).drop 24).drop 24).drop 24).drop 24).drop 24).drop 24).drop 24).drop 24).drop 24).drop 24).drop 24).drop 24).drop 24).take 24).all (fun c => isCode c || c.before args0 about1) = true := by decide +kernel
set_option maxRecDepth 65536 in
theorem w_t18 : ((((((((((((((((((words1.drop 24).drop 24).drop 24).drop 24).drop 24).drop 24).drop 24).drop 24).drop 24).drop 24).drop 24).drop 24).drop 24).drop 24).drop 24).drop 24).drop 24).take 24).all (fun c => isCode c || c.before args0 about1) = true := by decide +kernel
set_option maxRecDepth 65536 in
theorem w_t19 : (((((((((((((((((((words1.drop 24).drop 24).drop 24).drop 24).drop 24).drop 24).drop 24).drop 24).drop 24).drop 24).drop 24).drop 24).drop 24).drop 24).drop 24).drop 24).drop 24).drop 24).take 24).all (fun c => isCode c || c.before args0 about1) = true := by decide +kernel
set_option maxRecDepth 65536 in
theorem w_t20 : ((((((((((((((((((((words1.drop 24).drop 24).drop 24).drop 24).drop 24).drop 24).drop 24).drop 24).drop 24).drop 24).drop 24).drop 24).drop 24).drop 24).drop 24).drop 24).drop 24).drop 24).drop 24).take 24).all (fun c => isCode c || c.before args0 about1) = true := by decide +kernel
set_option maxRecDepth 65536 in
theorem w_t21 : (((((((((((((((((((((words1.drop 24).drop 24).drop 24).drop 24).drop 24).drop 24).drop 24).drop 24).drop 24).drop 24).drop 24).drop 24).drop 24).drop 24).drop 24).drop 24).drop 24).drop 24).drop 24).drop 24).take 24).all (fun c => isCode c || c.before args0 about1) = true := by decide +kernel
set_option maxRecDepth 65536 in
theorem w_t22 : (((((((((((((((((((((words1.drop 24).drop 24).drop 24).drop 24).drop 24).drop 24).drop 24).drop 24).drop 24).drop 24).drop 24).drop 24).drop 24).drop 24).drop 24).drop 24).drop 24).drop 24).drop 24).drop 24).drop 24).all (fun c => isCode c || c.before args0 about1) = true := by decide +kernel
theorem w_tables : (allAtoms (Jvm.Cond.code x code maxLocals ret :: tables_1)).before args0 about1 = true := by
  rw [allAtoms_all]
  show words1.all (fun c => c.before args0 about1) = true
  refine all_split ?_ w_codes
  rw [← List.take_append_drop 24 words1, List.all_append, w_t1, ← List.take_append_drop 24 (words1.drop 24), List.all_append, w_t2, ← List.take_append_drop 24 ((words1.drop 24).drop 24), List.all_append, w_t3, ← List.take_append_drop 24 (((words1.drop 24).drop 24).drop 24), List.all_append, w_t4, ← List.take_append_drop 24 ((((words1.drop 24).drop 24).drop 24).drop 24), List.all_append, w_t5, ← List.take_append_drop 24 (((((words1.drop 24).drop 24).drop 24).drop 24).drop 24), List.all_append, w_t6, ← List.take_append_drop 24 ((((((words1.drop 24).drop 24).drop 24).drop 24).drop 24).drop 24), List.all_append, w_t7, ← List.take_append_drop 24 (((((((words1.drop 24).drop 24).drop 24).drop 24).drop 24).drop 24).drop 24), List.all_append, w_t8, ← List.take_append_drop 24 ((((((((words1.drop 24).drop 24).drop 24).drop 24).drop 24).drop 24).drop 24).drop 24), List.all_append, w_t9, ← List.take_append_drop 24 (((((((((words1.drop 24).drop 24).drop 24).drop 24).drop 24).drop 24).drop 24).drop 24).drop 24), List.all_append, w_t10, ← List.take_append_drop 24 ((((((((((words1.drop 24).drop 24).drop 24).drop 24).drop 24).drop 24).drop 24).drop 24).drop 24).drop 24), List.all_append, w_t11, ← List.take_append_drop 24 (((((((((((words1.drop 24).drop 24).drop 24).drop 24).drop 24).drop 24).drop 24).drop 24).drop 24).drop 24).drop 24), List.all_append, w_t12, ← List.take_append_drop 24 ((((((((((((words1.drop 24).drop 24).drop 24).drop 24).drop 24).drop 24).drop 24).drop 24).drop 24).drop 24).drop 24).drop 24), List.all_append, w_t13, ← List.take_append_drop 24 (((((((((((((words1.drop 24).drop 24).drop 24).drop 24).drop 24).drop 24).drop 24).drop 24).drop 24).drop 24).drop 24).drop 24).drop 24), List.all_append, w_t14, ← List.take_append_drop 24 ((((((((((((((words1.drop 24).drop 24).drop 24).drop 24).drop 24).drop 24).drop 24).drop 24).drop 24).drop 24).drop 24).drop 24).drop 24).drop 24), List.all_append, w_t15, ← List.take_append_drop 24 (((((((((((((((words1.drop 24).drop 24).drop 24).drop 24).drop 24).drop 24).drop 24).drop 24).drop 24).drop 24).drop 24).drop 24).drop 24).drop 24).drop 24), List.all_append, w_t16, ← List.take_append_drop 24 ((((((((((((((((words1.drop 24).drop 24).drop 24).drop 24).drop 24).drop 24).drop 24).drop 24).drop 24).drop 24).drop 24).drop 24).drop 24).drop 24).drop 24).drop 24), List.all_append, w_t17, ← List.take_append_drop 24 (((((((((((((((((words1.drop 24).drop 24).drop 24).drop 24).drop 24).drop 24).drop 24).drop 24).drop 24).drop 24).drop 24).drop 24).drop 24).drop 24).drop 24).drop 24).drop 24), List.all_append, w_t18, ← List.take_append_drop 24 ((((((((((((((((((words1.drop 24).drop 24).drop 24).drop 24).drop 24).drop 24).drop 24).drop 24).drop 24).drop 24).drop 24).drop 24).drop 24).drop 24).drop 24).drop 24).drop 24).drop 24), List.all_append, w_t19, ← List.take_append_drop 24 (((((((((((((((((((words1.drop 24).drop 24).drop 24).drop 24).drop 24).drop 24).drop 24).drop 24).drop 24).drop 24).drop 24).drop 24).drop 24).drop 24).drop 24).drop 24).drop 24).drop 24).drop 24), List.all_append, w_t20, ← List.take_append_drop 24 ((((((((((((((((((((words1.drop 24).drop 24).drop 24).drop 24).drop 24).drop 24).drop 24).drop 24).drop 24).drop 24).drop 24).drop 24).drop 24).drop 24).drop 24).drop 24).drop 24).drop 24).drop 24).drop 24), List.all_append, w_t21, w_t22]
  rfl
set_option maxRecDepth 65536 in
theorem w_rest : rest_1_c.before args0 about1 = true := by decide +kernel
set_option maxRecDepth 65536 in
theorem w_case : (Jvm.Cond.and given_1 narrow_1).before args0 about1 = true := by decide +kernel
set_option maxRecDepth 65536 in
theorem w_consts : constsHeld consts_1 about1 := Jvm.Lit.constsHeldB_iff.mp (by decide +kernel)
theorem w_applies : (headSpec (Jvm.Cond.code x code maxLocals ret :: tables_1) room_1).applies x e0.platform about1 = true :=
  (Spec.applies_iff w_frames).mpr ⟨w_running, w_runnable, w_alone, w_named, w_hears, w_ripe, w_room, w_tables⟩
theorem atStart : AtStart classFile x code maxLocals ret World_1 tables_1 room_1 Calls_1 rest_1 Pre_1 launch0 p0 e0 about1 theMethod args0 below0 :=
  ⟨lists_1, trivial, launch0.admits_env _ _ _, launch0.least_env, fairChoices_fair.cas, fairChoices_fair.clock, w_frames, w_args, w_heap, w_applies, ⟨⟨50, k50, 5, by decide +kernel, rfl, rfl, _, rfl, rfl⟩, ⟨w_consts, trivial⟩⟩, w_rest, w_case⟩
end start1
theorem witness_1 : WitnessClaimed_1 := ⟨start1.p0, start1.e0, start1.about1, start1.theMethod, start1.args0, start1.below0, start1.atStart⟩
end Jvm.Pilot.@@N@@
