import JvmDerived
import JvmDerived.Pilot.@@N@@Statement
import JvmDerived.Pilot.@@N@@Code
set_option linter.unusedVariables false
set_option linter.unusedSimpArgs false
namespace Jvm.Pilot.@@N@@
open Jvm Jvm.ClassFile Sem Op Lib Jvm.Free Jvm.Stand Jvm.LawKit Jvm.RoadKit Bundle Jvm.Pilot.@@N@@.Jvm.D
section OwnHead
variable {p : Program} {l : Launch} {e : Env} {R : Room} {s : State} {m : MethodId} {args : Array Value} {below : List Frame} {meth : Method} {c : Code} {T T' : State} {locs : List Loc} {cells slots : Nat} {Q : Option Value → Heap → List Loc → Prop} {k n : Nat} {g : JFrame}
/-- from here (the state T, the frame g on top) the call comes to its end, and the end is as Fin says -/
def own_E (p : Program) (e : Env) (below : List Frame) (Fin : Outcome → State → Prop) (T : State) (g : JFrame) : Prop :=
  ∃ s₂ o, Steps p.tables e below (T.setTop g) s₂ ∧ s₂.status = .running ∧ Ended s₂ below o ∧ Fin o s₂
/-- the end of a body that interns nothing: what it returns, the heap and the places written as Q says, within k cells and n slots -/
def own_Fin (s : State) (Q : Option Value → Heap → List Loc → Prop) (k n : Nat) (o : Outcome) (t : State) : Prop := ∃ v L, o = .returned v ∧ Q v t.heap L ∧ FrameEnd s o t L k n
theorem own_start {Fin : Outcome → State → Prop} (h : own_E p e below Fin T g) : ∃ s₂ o, Steps p.tables e below (T.setTop g) s₂ ∧ s₂.status = .running ∧ Ended s₂ below o ∧ Fin o s₂ := h
theorem own_from {Fin : Outcome → State → Prop} (g' : JFrame) (h : ∀ {t}, Steps p.tables e below (T.setTop g') t → Steps p.tables e below (T.setTop g) t) (w : own_E p e below Fin T g') : own_E p e below Fin T g := by
  obtain ⟨s₂, o, h1, r⟩ := w; exact ⟨s₂, o, h h1, r⟩
theorem own_to {Fin : Outcome → State → Prop} (g' : JFrame) (h : ∀ t, Steps p.tables e below (T'.setTop g') t → Steps p.tables e below (T.setTop g) t) (w : own_E p e below Fin T' g') : own_E p e below Fin T g := by
  obtain ⟨s₂, o, h1, r⟩ := w; exact ⟨s₂, o, h _ h1, r⟩
theorem own_via {Fin : Outcome → State → Prop} (g' : JFrame) (h : Steps p.tables e below (T.setTop g) (T'.setTop g')) (w : own_E p e below Fin T' g') : own_E p e below Fin T g := by
  obtain ⟨s₂, o, h1, r⟩ := w; exact ⟨s₂, o, h.trans h1, r⟩
theorem own_end {v : Option Value} {pc : Nat} {Ls : Array Slot} {st : List Value} (X : Stand p l e R s m args below meth c T locs cells slots) (hv : meth.sig.returnType = none → v = none) (hlk : meth.locks = false) (hk : cells ≤ k) (hn : slots ≤ n) (hQ : Q v T.heap locs)
    (hs : ∀ fs, (∀ (f : JFrame) (acts : List Action), f.method = m → f.locked = none → f.entered = [] → (doReturn e (T.setTop f) acts v).1 = T.setFrames fs) → Steps p.tables e below (T.setTop (mkF m pc Ls st)) (T.setFrames fs)) : own_E p e below (own_Fin s Q k n) T (mkF m pc Ls st) := by
  obtain ⟨fs, hr, hrun, hended, hW, hsame⟩ := X.leave (v := v) hv hlk
  exact ⟨_, _, hs fs hr, hrun, hended, _, _, rfl, hQ, ⟨_, rfl⟩, hW, hsame.mono hk hn⟩
theorem own_retN (X : Stand p l e R s m args below meth c T locs cells slots) (hx : p.tables.exec = Jvm.exec) {pc : Nat} {Ls : Array Slot} {z : Int32} {t : FieldType} {rest : List Value} (hret : meth.sig.returnType = some t) (ht : t = .boolean ∨ t = .byte ∨ t = .char ∨ t = .short) (hlk : meth.locks = false)
    (hd : decode c.code pc = .ok (.ireturn, 1)) (hk : cells ≤ k) (hn : slots ≤ n) (hQ : Q (some (.int (nar t z))) T.heap locs) : own_E p e below (own_Fin s Q k n) T (mkF m pc Ls (.int z :: rest)) :=
  own_end X (fun h => by rw [hret] at h; cases h) hlk hk hn hQ fun _ hr => retN X hx hret ht hd hr
theorem own_retI (X : Stand p l e R s m args below meth c T locs cells slots) (hx : p.tables.exec = Jvm.exec) {pc : Nat} {Ls : Array Slot} {z : Int32} {rest : List Value} (hret : meth.sig.returnType = some .int) (hlk : meth.locks = false)
    (hd : decode c.code pc = .ok (.ireturn, 1)) (hk : cells ≤ k) (hn : slots ≤ n) (hQ : Q (some (.int z)) T.heap locs) : own_E p e below (own_Fin s Q k n) T (mkF m pc Ls (.int z :: rest)) :=
  own_end X (fun h => by rw [hret] at h; cases h) hlk hk hn hQ fun _ hr => retOut X hx hret rfl (Or.inl ⟨rfl, Or.inl rfl, _, rfl⟩) hd hr
theorem own_retJ (X : Stand p l e R s m args below meth c T locs cells slots) (hx : p.tables.exec = Jvm.exec) {pc : Nat} {Ls : Array Slot} {z : Int64} {rest : List Value} (hret : meth.sig.returnType = some .long) (hlk : meth.locks = false)
    (hd : decode c.code pc = .ok (.lreturn, 1)) (hk : cells ≤ k) (hn : slots ≤ n) (hQ : Q (some (.long z)) T.heap locs) : own_E p e below (own_Fin s Q k n) T (mkF m pc Ls (.long z :: rest)) :=
  own_end X (fun h => by rw [hret] at h; cases h) hlk hk hn hQ fun _ hr => retOut X hx hret rfl (Or.inr (Or.inl ⟨rfl, rfl, _, rfl⟩)) hd hr
theorem own_retA (X : Stand p l e R s m args below meth c T locs cells slots) (hx : p.tables.exec = Jvm.exec) {pc : Nat} {Ls : Array Slot} {w : Value} {t : FieldType} {rest : List Value} (hret : meth.sig.returnType = some t) (ht : t.isReference = true) (hlk : meth.locks = false)
    (hd : decode c.code pc = .ok (.areturn, 1)) (hw : w.isRef = true) (hk : cells ≤ k) (hn : slots ≤ n) (hQ : Q (some w) T.heap locs) : own_E p e below (own_Fin s Q k n) T (mkF m pc Ls (w :: rest)) :=
  own_end X (fun h => by rw [hret] at h; cases h) hlk hk hn hQ fun _ hr => retOut X hx hret (by cases t <;> first | rfl | cases ht) (Or.inr (Or.inr (Or.inr (Or.inr ⟨rfl, ht, hw⟩)))) hd hr
theorem own_ret0 (X : Stand p l e R s m args below meth c T locs cells slots) (hx : p.tables.exec = Jvm.exec) {pc : Nat} {Ls : Array Slot} (hret : meth.sig.returnType = none) (hlk : meth.locks = false)
    (hd : decode c.code pc = .ok (.return_, 1)) (hk : cells ≤ k) (hn : slots ≤ n) (hQ : Q none T.heap locs) : own_E p e below (own_Fin s Q k n) T (mkF m pc Ls []) :=
  own_end X (fun _ => rfl) hlk hk hn hQ fun _ hr => X.returnOut hx hret hd hr
theorem own_01 {C : Prop} {d : Int32} (h1 : C → d = (0 : Int32)) (h2 : ¬ C → d = (1 : Int32)) : d = 0 ∨ d = 1 := (Classical.em C).elim (fun q => Or.inl (h1 q)) (fun q => Or.inr (h2 q))
theorem own_irr (x : Int32) : ¬ x < x := Int32.lt_irrefl
end OwnHead
section OwnWords
variable {args : Array Value} {s : State} {t : Term} {C n d : String} {a : Addr}
theorem own_fldI {k : Int32} (ht : t.eval args s none [] s = some (.ref a)) (h : (Jvm.Cond.eq (Term.field t C n d) (Term.int k)).value args s none s [] = some true) : Fld s s.heap a C n d (.int k) := by
  obtain ⟨x, y, e1, e2, -, k2⟩ := cmp_v (Or.inl h)
  have q : y = .int k := Option.some.inj (e2.symm.trans (Term.int_eval k))
  subst q
  obtain ⟨z, rfl⟩ := k2
  have q := gotT (Cond.eq_ints e1 (Term.int_eval k)) h
  subst q
  exact Fld.start ((fld_at ht).symm.trans e1)
theorem own_fldJ {k : Int64} (ht : t.eval args s none [] s = some (.ref a)) (h : (Jvm.Cond.eq (Term.field t C n d) (Term.long k)).value args s none s [] = some true) : Fld s s.heap a C n d (.long k) := by
  obtain ⟨x, y, e1, e2, -, k2⟩ := cmp_v (Or.inl h)
  have q : y = .long k := Option.some.inj (e2.symm.trans (long_at k))
  subst q
  obtain ⟨z, rfl⟩ := k2
  have q := gotT (eq_L e1 (long_at k)) h
  subst q
  exact Fld.start ((fld_at ht).symm.trans e1)
end OwnWords
section OwnWide
variable {p : Program} {l : Launch} {e : Env} {R : Room} {s : State} {m : MethodId} {args : Array Value} {below : List Frame} {meth : Method} {c : Code} {T T' : State} {locs : List Loc} {cells slots : Nat} {Q : Option Value → Heap → List Loc → Prop} {k n : Nat} {g : JFrame} {vm₁ : Vm} {k1 : Nat}
/-- the end of a law that may have interned a String constant -/
def own_FinW (s : State) (Q : Option Value → Heap → List Loc → Prop) (k n : Nat) (o : Outcome) (t : State) : Prop := ∃ v L, o = .returned v ∧ Q v t.heap L ∧ ReturnedEndW s o t L k n
theorem own_endW {v : Option Value} {pc : Nat} {Ls : Array Slot} {st : List Value} (X : Stand p l e R (s.setVm vm₁) m args below meth c T locs cells slots) (hS : s.Since vm₁ k1) (hk1 : k1 ≤ T.heap.size) (hv : meth.sig.returnType = none → v = none) (hlk : meth.locks = false) (hk : cells ≤ k) (hn : slots ≤ n) (hQ : Q v T.heap locs)
    (hs : ∀ fs, (∀ (f : JFrame) (acts : List Action), f.method = m → f.locked = none → f.entered = [] → (doReturn e (T.setTop f) acts v).1 = T.setFrames fs) → Steps p.tables e below (T.setTop (mkF m pc Ls st)) (T.setFrames fs)) : own_E p e below (own_FinW s Q k n) T (mkF m pc Ls st) := by
  obtain ⟨fs, hr, hrun, hended, h1, h2, h3, h4⟩ := X.leaveW hS hk1 (v := v) hv hlk
  exact ⟨_, _, hs fs hr, hrun, hended, _, _, rfl, hQ, h1, h2, h3, h4.mono hk hn⟩
theorem own_retNW (X : Stand p l e R (s.setVm vm₁) m args below meth c T locs cells slots) (hS : s.Since vm₁ k1) (hk1 : k1 ≤ T.heap.size) (hx : p.tables.exec = Jvm.exec) {pc : Nat} {Ls : Array Slot} {z : Int32} {t : FieldType} {rest : List Value} (hret : meth.sig.returnType = some t) (ht : t = .boolean ∨ t = .byte ∨ t = .char ∨ t = .short) (hlk : meth.locks = false)
    (hd : decode c.code pc = .ok (.ireturn, 1)) (hk : cells ≤ k) (hn : slots ≤ n) (hQ : Q (some (.int (nar t z))) T.heap locs) : own_E p e below (own_FinW s Q k n) T (mkF m pc Ls (.int z :: rest)) :=
  own_endW X hS hk1 (fun h => by rw [hret] at h; cases h) hlk hk hn hQ fun _ hr => retN X hx hret ht hd hr
end OwnWide
theorem own_nat (n k m : Nat) : n &&& (m <<< k) = ((n >>> k) &&& m) <<< k := by
  apply Nat.eq_of_testBit_eq
  intro i
  simp only [Nat.testBit_and, Nat.testBit_shiftLeft, Nat.testBit_shiftRight]
  by_cases h : k ≤ i
  · simp [h, Nat.add_sub_cancel' h]
  · simp [h]
theorem own_u (B : Int64) : B.toInt % 18446744073709551616 = (B.toBitVec.toNat : Int) := by
  have h : B.toInt = ((B.toBitVec.toNat : Int)).bmod (2 ^ 64) := BitVec.toInt_eq_toNat_bmod _
  have h2 := Int.bmod_emod (x := (B.toBitVec.toNat : Int)) (m := 2 ^ 64)
  have h3 := B.toBitVec.isLt
  rw [h]; omega
theorem own_and (B inf : Int64) (k w : Nat) (hinf : inf.toBitVec.toNat = (2 ^ w - 1) <<< k) : B &&& inf = 0 ↔ (B.toBitVec.toNat / 2 ^ k) % 2 ^ w = 0 := by
  have e : (B &&& inf).toBitVec.toNat = ((B.toBitVec.toNat / 2 ^ k) % 2 ^ w) * 2 ^ k := by
    rw [Int64.toBitVec_and, BitVec.toNat_and, hinf, own_nat, Nat.and_two_pow_sub_one_eq_mod, Nat.shiftRight_eq_div_pow, Nat.shiftLeft_eq]
  have z : (0 : Int64).toBitVec.toNat = 0 := rfl
  rw [← Int64.toBitVec_inj, ← BitVec.toNat_inj, e, z]
  constructor
  · intro h
    rcases Nat.mul_eq_zero.mp h with h | h
    · exact h
    · exact absurd h (Nat.ne_of_gt (Nat.two_pow_pos k))
  · intro h; rw [h, Nat.zero_mul]
theorem own_orD (B : Int64) : (B &&& (4503599627370495 : Int64)) ||| (4503599627370496 : Int64) = (4503599627370496 : Int64) + (B &&& (4503599627370495 : Int64)) := by
  have e : (B &&& (4503599627370495 : Int64)).toInt = B.toInt % (2 ^ 52 : Nat) := c_maskL B 4503599627370495 52 (by decide) (by decide)
  have h : (4503599627370496 : Int64).toInt = 4503599627370496 := rfl
  have o := c_orL' (B &&& (4503599627370495 : Int64)) (4503599627370496 : Int64) 52 (by decide) 4503599627370496 (by decide) (by rw [h]; decide) (by omega) (by omega)
  have a := c_ladd (4503599627370496 : Int64) (B &&& (4503599627370495 : Int64))
  have r1 := rng64 ((B &&& (4503599627370495 : Int64)) ||| (4503599627370496 : Int64))
  have r2 := rng64 ((4503599627370496 : Int64) + (B &&& (4503599627370495 : Int64)))
  rw [← Int64.toInt_inj]; omega
theorem own_orS (B : Int64) : (B &&& (8388607 : Int64)) ||| (8388608 : Int64) = (8388608 : Int64) + (B &&& (8388607 : Int64)) := by
  have e : (B &&& (8388607 : Int64)).toInt = B.toInt % (2 ^ 23 : Nat) := c_maskL B 8388607 23 (by decide) (by decide)
  have h : (8388608 : Int64).toInt = 8388608 := rfl
  have o := c_orL' (B &&& (8388607 : Int64)) (8388608 : Int64) 23 (by decide) 8388608 (by decide) (by rw [h]; decide) (by omega) (by omega)
  have a := c_ladd (8388608 : Int64) (B &&& (8388607 : Int64))
  have r1 := rng64 ((B &&& (8388607 : Int64)) ||| (8388608 : Int64))
  have r2 := rng64 ((8388608 : Int64) + (B &&& (8388607 : Int64)))
  rw [← Int64.toInt_inj]; omega
theorem own_fieldD (B : Int64) : ((((B.toUInt64 >>> ((52 : Int32) &&& 0x3f).toInt64.toUInt64).toInt64) &&& (2047 : Int64)).toInt32) = (0 : Int32) ↔ (B.toBitVec.toNat / 2 ^ 52) % 2 ^ 11 = 0 := by
  have e1 := c_lushr B (52 : Int32) 52 (by decide) (by decide)
  have e2 := c_maskL ((B.toUInt64 >>> ((52 : Int32) &&& 0x3f).toInt64.toUInt64).toInt64) (2047 : Int64) 11 (by decide) (by decide)
  have e3 := c_l2i (((B.toUInt64 >>> ((52 : Int32) &&& 0x3f).toInt64.toUInt64).toInt64) &&& (2047 : Int64))
  have r := rng32 ((((B.toUInt64 >>> ((52 : Int32) &&& 0x3f).toInt64.toUInt64).toInt64) &&& (2047 : Int64)).toInt32)
  have z : (0 : Int32).toInt = 0 := rfl
  rw [own_u] at e1
  rw [← Int32.toInt_inj, z]; omega
theorem own_fieldS (B : Int64) : ((((B.toUInt64 >>> ((23 : Int32) &&& 0x3f).toInt64.toUInt64).toInt64) &&& (255 : Int64)).toInt32) = (0 : Int32) ↔ (B.toBitVec.toNat / 2 ^ 23) % 2 ^ 8 = 0 := by
  have e1 := c_lushr B (23 : Int32) 23 (by decide) (by decide)
  have e2 := c_maskL ((B.toUInt64 >>> ((23 : Int32) &&& 0x3f).toInt64.toUInt64).toInt64) (255 : Int64) 8 (by decide) (by decide)
  have e3 := c_l2i (((B.toUInt64 >>> ((23 : Int32) &&& 0x3f).toInt64.toUInt64).toInt64) &&& (255 : Int64))
  have r := rng32 ((((B.toUInt64 >>> ((23 : Int32) &&& 0x3f).toInt64.toUInt64).toInt64) &&& (255 : Int64)).toInt32)
  have z : (0 : Int32).toInt = 0 := rfl
  rw [own_u] at e1
  rw [← Int32.toInt_inj, z]; omega
theorem own_single (B m ex : Int64) (hm : m = (if (lcmpW (B &&& (2139095040 : Int64)) (0 : Int64)) = (0 : Int32) then (B &&& (((1 : Int64) <<< (((24 : Int32) - (1 : Int32)) &&& 0x3f).toInt64) - (1 : Int64))) else ((B &&& (((1 : Int64) <<< (((24 : Int32) - (1 : Int32)) &&& 0x3f).toInt64) - (1 : Int64))) ||| ((1 : Int64) <<< (((24 : Int32) - (1 : Int32)) &&& 0x3f).toInt64)))) (h1 : ((((B.toUInt64 >>> ((23 : Int32) &&& 0x3f).toInt64.toUInt64).toInt64) &&& (255 : Int64)).toInt32) = (0 : Int32) → ex = (B &&& (8388607 : Int64))) (h2 : ¬ (((((B.toUInt64 >>> ((23 : Int32) &&& 0x3f).toInt64.toUInt64).toInt64) &&& (255 : Int64)).toInt32) = (0 : Int32)) → ex = ((8388608 : Int64) + (B &&& (8388607 : Int64)))) : m = ex := by
  have hC := (lw_eq (B &&& (2139095040 : Int64)) 0).trans ((own_and B 2139095040 23 8 (by decide)).trans (own_fieldS B).symm)
  have hl : ((1 : Int64) <<< (((24 : Int32) - (1 : Int32)) &&& 0x3f).toInt64) = (8388608 : Int64) := by decide
  have hs : ((8388608 : Int64) - (1 : Int64)) = (8388607 : Int64) := by decide
  rw [hl, hs] at hm
  by_cases q : ((((B.toUInt64 >>> ((23 : Int32) &&& 0x3f).toInt64.toUInt64).toInt64) &&& (255 : Int64)).toInt32) = (0 : Int32)
  · rw [hm, if_pos (hC.mpr q), h1 q]
  · rw [hm, if_neg (fun z => q (hC.mp z)), h2 q, own_orS]
theorem own_double (B m ex : Int64) (hm : m = (if (lcmpW (B &&& (9218868437227405312 : Int64)) (0 : Int64)) = (0 : Int32) then (B &&& (((1 : Int64) <<< (((53 : Int32) - (1 : Int32)) &&& 0x3f).toInt64) - (1 : Int64))) else ((B &&& (((1 : Int64) <<< (((53 : Int32) - (1 : Int32)) &&& 0x3f).toInt64) - (1 : Int64))) ||| ((1 : Int64) <<< (((53 : Int32) - (1 : Int32)) &&& 0x3f).toInt64)))) (h1 : ((((B.toUInt64 >>> ((52 : Int32) &&& 0x3f).toInt64.toUInt64).toInt64) &&& (2047 : Int64)).toInt32) = (0 : Int32) → ex = (B &&& (4503599627370495 : Int64))) (h2 : ¬ (((((B.toUInt64 >>> ((52 : Int32) &&& 0x3f).toInt64.toUInt64).toInt64) &&& (2047 : Int64)).toInt32) = (0 : Int32)) → ex = ((4503599627370496 : Int64) + (B &&& (4503599627370495 : Int64)))) : m = ex := by
  have hC := (lw_eq (B &&& (9218868437227405312 : Int64)) 0).trans ((own_and B 9218868437227405312 52 11 (by decide)).trans (own_fieldD B).symm)
  have hl : ((1 : Int64) <<< (((53 : Int32) - (1 : Int32)) &&& 0x3f).toInt64) = (4503599627370496 : Int64) := by decide
  have hs : ((4503599627370496 : Int64) - (1 : Int64)) = (4503599627370495 : Int64) := by decide
  rw [hl, hs] at hm
  by_cases q : ((((B.toUInt64 >>> ((52 : Int32) &&& 0x3f).toInt64.toUInt64).toInt64) &&& (2047 : Int64)).toInt32) = (0 : Int32)
  · rw [hm, if_pos (hC.mpr q), h1 q]
  · rw [hm, if_neg (fun z => q (hC.mp z)), h2 q, own_orD]

theorem own_d_prog_12_method_8_0 : decode prog_12_method_8_code 0 = .ok (.lconst 1, 1) := by decide +kernel
theorem own_d_prog_12_method_8_1 : decode prog_12_method_8_code 1 = .ok (.aload_n 0, 1) := by decide +kernel
theorem own_d_prog_12_method_8_2 : decode prog_12_method_8_code 2 = .ok (.getfield 29, 3) := by decide +kernel
theorem own_d_prog_12_method_8_5 : decode prog_12_method_8_code 5 = .ok (.iconst 1, 1) := by decide +kernel
theorem own_d_prog_12_method_8_6 : decode prog_12_method_8_code 6 = .ok (.isub, 1) := by decide +kernel
theorem own_d_prog_12_method_8_7 : decode prog_12_method_8_code 7 = .ok (.lshl, 1) := by decide +kernel
theorem own_d_prog_12_method_8_8 : decode prog_12_method_8_code 8 = .ok (.lstore_n 3, 1) := by decide +kernel
theorem own_d_prog_12_method_8_9 : decode prog_12_method_8_code 9 = .ok (.lload_n 1, 1) := by decide +kernel
theorem own_d_prog_12_method_8_10 : decode prog_12_method_8_code 10 = .ok (.lload_n 3, 1) := by decide +kernel
theorem own_d_prog_12_method_8_11 : decode prog_12_method_8_code 11 = .ok (.lconst 1, 1) := by decide +kernel
theorem own_d_prog_12_method_8_12 : decode prog_12_method_8_code 12 = .ok (.lsub, 1) := by decide +kernel
theorem own_d_prog_12_method_8_13 : decode prog_12_method_8_code 13 = .ok (.land, 1) := by decide +kernel
theorem own_d_prog_12_method_8_14 : decode prog_12_method_8_code 14 = .ok (.lstore 5, 2) := by decide +kernel
theorem own_d_prog_12_method_8_16 : decode prog_12_method_8_code 16 = .ok (.lload_n 1, 1) := by decide +kernel
theorem own_d_prog_12_method_8_17 : decode prog_12_method_8_code 17 = .ok (.aload_n 0, 1) := by decide +kernel
theorem own_d_prog_12_method_8_18 : decode prog_12_method_8_code 18 = .ok (.getfield 39, 3) := by decide +kernel
theorem own_d_prog_12_method_8_21 : decode prog_12_method_8_code 21 = .ok (.land, 1) := by decide +kernel
theorem own_d_prog_12_method_8_22 : decode prog_12_method_8_code 22 = .ok (.lconst 0, 1) := by decide +kernel
theorem own_d_prog_12_method_8_23 : decode prog_12_method_8_code 23 = .ok (.lcmp, 1) := by decide +kernel
theorem own_d_prog_12_method_8_24 : decode prog_12_method_8_code 24 = .ok (.ifCond .ne 8, 3) := by decide +kernel
theorem own_d_prog_12_method_8_27 : decode prog_12_method_8_code 27 = .ok (.lload 5, 2) := by decide +kernel
theorem own_d_prog_12_method_8_29 : decode prog_12_method_8_code 29 = .ok (.goto 7, 3) := by decide +kernel
theorem own_d_prog_12_method_8_32 : decode prog_12_method_8_code 32 = .ok (.lload 5, 2) := by decide +kernel
theorem own_d_prog_12_method_8_34 : decode prog_12_method_8_code 34 = .ok (.lload_n 3, 1) := by decide +kernel
theorem own_d_prog_12_method_8_35 : decode prog_12_method_8_code 35 = .ok (.lor, 1) := by decide +kernel
theorem own_d_prog_12_method_8_36 : decode prog_12_method_8_code 36 = .ok (.lreturn, 1) := by decide +kernel
theorem own_pd0 : parseMethodDescriptor "(J)J" = some ⟨[.long], some .long⟩ := by decide +kernel
theorem own_pn0 : plainName "ballast/number/BinaryFormat" = true := by first | (simp [plainName, overriddenIn]; done) | decide +kernel
theorem own_pn1 : plainName "ballast/number/BinaryFormatSignificandPinLaw" = true := by first | (simp [plainName, overriddenIn]; done) | decide +kernel
theorem own_ef_1 (m : MethodId) (x0 : Addr) (x1 : Int64) : entryFrame m #[(.ref x0), (.long x1)] 7 = mkF m 0 #[.val (.ref x0), .val (.long x1), .second, .unset, .unset, .unset, .unset] [] := by first | (simp [entryFrame, mkF, argsToLocals, Value.category]; done) | rfl
theorem own_ef_0 (m : MethodId) (x0 : Int32) (x1 : Int64) : entryFrame m #[(.int x0), (.long x1)] maxLocals = mkF m 0 #[.val (.int x0), .val (.long x1), .second, .unset, .unset, .unset, .unset, .unset, .unset, .unset, .unset, .unset, .unset, .unset, .unset, .unset, .unset, .unset, .unset, .unset, .unset] [] := by first | (simp [entryFrame, mkF, argsToLocals, Value.category, maxLocals]; done) | rfl
def own_Q1 (Z : State) (a : Addr) (bb : Int64) (pr : Int32) (inf : Int64) (h0 : Heap) (n0 : Nat) (v : Option Value) (h : Heap) (L : List Loc) : Prop := ∃ r : Int64, v = some (.long r) ∧ r = (if (lcmpW (bb &&& inf) (0 : Int64)) = (0 : Int32) then (bb &&& (((1 : Int64) <<< ((pr - (1 : Int32)) &&& 0x3f).toInt64) - (1 : Int64))) else ((bb &&& (((1 : Int64) <<< ((pr - (1 : Int32)) &&& 0x3f).toInt64) - (1 : Int64))) ||| ((1 : Int64) <<< ((pr - (1 : Int32)) &&& 0x3f).toInt64))) ∧ Fr n0 L ∧ h = h0
set_option maxRecDepth 65536 in
set_option maxHeartbeats 40000000 in
theorem own_rm1 (l : Launch) (Z : State) (a0 : Array Value) (hw : ∀ d ∈ tables_1, d.before a0 Z = true) (ws : List Jvm.Cond) (a : Addr) (bb : Int64) (pr : Int32) (inf : Int64) (h0 : Heap) (n0 : Nat) (Z0 : n0 ≤ h0.size) (OL : Old Z n0 h0) (Fp : Fld Z h0 a "ballast/number/BinaryFormat" "precision" "I" (.int pr)) (Fi : Fld Z h0 a "ballast/number/BinaryFormat" "infinity" "J" (.long inf)) :
    MetFree l (⟨"ballast/number/BinaryFormat", "significand", "(J)J"⟩ : MethodName) (head1 (Jvm.Cond.code (⟨"ballast/number/BinaryFormat", "significand", "(J)J"⟩ : MethodName) prog_12_method_8_code 7 (some .long) :: ws) ({ frames := 0, cells := 0, slots := 0, locals := 0 } : Room)) (fun aa_ U => aa_ = #[(.ref a), (.long bb)] ∧ Z.Warmed39 U.vm ∧ U.heap = h0) (fun _ _ _ _ _ => True) (fun _ U o U' => ∃ v L, o = .returned v ∧ own_Q1 Z a bb pr inf h0 n0 v U'.heap L ∧ FrameEnd U o U' L ({ frames := 0, cells := 0, slots := 0, locals := 0 } : Room).cells ({ frames := 0, cells := 0, slots := 0, locals := 0 } : Room).slots) := by
  refine MetFree.of_bodySF (plainFor_of_name own_pn0) hisR ?_
  intro p e s m args below meth c s₁ Bd hml0 hP hK
  obtain ⟨rfl, hZ, hh⟩ := hP
  have hx := Bd.exec
  have hby := Bd.bytes
  have hlk : meth.locks = false := BodyLoose.notSynchronized Bd
  have hml : c.maxLocals = 7 := hml0
  have hown : s.vm.findClass "ballast/number/BinaryFormat" = some m.cls := findClass_of_methodNamed Bd.named
  have hnm := (name_of_methodNamed Bd.named Bd.method).1
  have X0 : Stand p l e ({ frames := 0, cells := 0, slots := 0, locals := 0 } : Room) s m #[(.ref a), (.long bb)] below meth c s₁ [] 0 0 := Stand.of_body Bd
  have e0 : s₁.heap = h0 := by rw [← hh, Bd.state]; rfl
  have N0 := Fr.nil n0
  have KP : Keep h0 h0 [] := Keep.refl _ _
  refine own_start (Fin := (own_Fin s (own_Q1 Z a bb pr inf h0 n0) ({ frames := 0, cells := 0, slots := 0, locals := 0 } : Room).cells ({ frames := 0, cells := 0, slots := 0, locals := 0 } : Room).slots)) (own_from (mkF m 0 #[rv a, .val (.long bb), .second, .unset, .unset, .unset, .unset] []) (castTop (own_ef_1 m a bb)) ?_)
  refine own_to (T' := s₁) (mkF m 1 #[rv a, .val (.long bb), .second, .unset, .unset, .unset, .unset] [(.long (1 : Int64))]) (fun _ k => XS.lconst X0.here hx rfl (hb hby own_d_prog_12_method_8_0) k) ?_
  refine own_to (T' := s₁) (mkF m 2 #[rv a, .val (.long bb), .second, .unset, .unset, .unset, .unset] [(.ref a), (.long (1 : Int64))]) (fun _ k => XS.aloadN X0.here hx rfl (hb hby own_d_prog_12_method_8_1) rfl rfl k) ?_
  obtain ⟨T1, X1, e1, st1⟩ := getF X0 hx hZ hown (host := "") (Or.inl (hw _ (List.mem_of_getElem? (i := 12) rfl))) Via.refl e0 Fp (g := (mkF m 2 #[rv a, .val (.long bb), .second, .unset, .unset, .unset, .unset] [(.ref a), (.long (1 : Int64))])) rfl rfl (hb hby own_d_prog_12_method_8_2)
  refine own_to (mkF m 5 #[rv a, .val (.long bb), .second, .unset, .unset, .unset, .unset] [(.int pr), (.long (1 : Int64))]) st1 ?_
  refine own_to (T' := T1) (mkF m 6 #[rv a, .val (.long bb), .second, .unset, .unset, .unset, .unset] [(.int (1 : Int32)), (.int pr), (.long (1 : Int64))]) (fun _ k => XS.iconst X1.here hx rfl (hb hby own_d_prog_12_method_8_5) k) ?_
  refine own_to (T' := T1) (mkF m 7 #[rv a, .val (.long bb), .second, .unset, .unset, .unset, .unset] [(.int (pr - (1 : Int32))), (.long (1 : Int64))]) (fun _ k => XS.isub X1.here hx rfl (hb hby own_d_prog_12_method_8_6) rfl k) ?_
  refine own_to (T' := T1) (mkF m 8 #[rv a, .val (.long bb), .second, .unset, .unset, .unset, .unset] [(.long ((1 : Int64) <<< ((pr - (1 : Int32)) &&& 0x3f).toInt64))]) (fun _ k => XS.lshl X1.here hx rfl (hb hby own_d_prog_12_method_8_7) rfl k) ?_
  refine own_to (T' := T1) (mkF m 9 #[rv a, .val (.long bb), .second, .val (.long ((1 : Int64) <<< ((pr - (1 : Int32)) &&& 0x3f).toInt64)), .second, .unset, .unset] []) (fun _ k => XS.lstoreN X1.here hx rfl (hb hby own_d_prog_12_method_8_8) rfl (l' := #[rv a, .val (.long bb), .second, .val (.long ((1 : Int64) <<< ((pr - (1 : Int32)) &&& 0x3f).toInt64)), .second, .unset, .unset]) rfl k) ?_
  refine own_to (T' := T1) (mkF m 10 #[rv a, .val (.long bb), .second, .val (.long ((1 : Int64) <<< ((pr - (1 : Int32)) &&& 0x3f).toInt64)), .second, .unset, .unset] [(.long bb)]) (fun _ k => XS.lloadN X1.here hx rfl (hb hby own_d_prog_12_method_8_9) rfl k) ?_
  refine own_to (T' := T1) (mkF m 11 #[rv a, .val (.long bb), .second, .val (.long ((1 : Int64) <<< ((pr - (1 : Int32)) &&& 0x3f).toInt64)), .second, .unset, .unset] [(.long ((1 : Int64) <<< ((pr - (1 : Int32)) &&& 0x3f).toInt64)), (.long bb)]) (fun _ k => XS.lloadN X1.here hx rfl (hb hby own_d_prog_12_method_8_10) rfl k) ?_
  refine own_to (T' := T1) (mkF m 12 #[rv a, .val (.long bb), .second, .val (.long ((1 : Int64) <<< ((pr - (1 : Int32)) &&& 0x3f).toInt64)), .second, .unset, .unset] [(.long (1 : Int64)), (.long ((1 : Int64) <<< ((pr - (1 : Int32)) &&& 0x3f).toInt64)), (.long bb)]) (fun _ k => XS.lconst X1.here hx rfl (hb hby own_d_prog_12_method_8_11) k) ?_
  refine own_to (T' := T1) (mkF m 13 #[rv a, .val (.long bb), .second, .val (.long ((1 : Int64) <<< ((pr - (1 : Int32)) &&& 0x3f).toInt64)), .second, .unset, .unset] [(.long (((1 : Int64) <<< ((pr - (1 : Int32)) &&& 0x3f).toInt64) - (1 : Int64))), (.long bb)]) (fun _ k => XS.lsub X1.here hx rfl (hb hby own_d_prog_12_method_8_12) rfl k) ?_
  refine own_to (T' := T1) (mkF m 14 #[rv a, .val (.long bb), .second, .val (.long ((1 : Int64) <<< ((pr - (1 : Int32)) &&& 0x3f).toInt64)), .second, .unset, .unset] [(.long (bb &&& (((1 : Int64) <<< ((pr - (1 : Int32)) &&& 0x3f).toInt64) - (1 : Int64))))]) (fun _ k => XS.land X1.here hx rfl (hb hby own_d_prog_12_method_8_13) rfl k) ?_
  refine own_to (T' := T1) (mkF m 16 #[rv a, .val (.long bb), .second, .val (.long ((1 : Int64) <<< ((pr - (1 : Int32)) &&& 0x3f).toInt64)), .second, .val (.long (bb &&& (((1 : Int64) <<< ((pr - (1 : Int32)) &&& 0x3f).toInt64) - (1 : Int64)))), .second] []) (fun _ k => XS.lstore X1.here hx rfl (hb hby own_d_prog_12_method_8_14) rfl (l' := #[rv a, .val (.long bb), .second, .val (.long ((1 : Int64) <<< ((pr - (1 : Int32)) &&& 0x3f).toInt64)), .second, .val (.long (bb &&& (((1 : Int64) <<< ((pr - (1 : Int32)) &&& 0x3f).toInt64) - (1 : Int64)))), .second]) rfl k) ?_
  refine own_to (T' := T1) (mkF m 17 #[rv a, .val (.long bb), .second, .val (.long ((1 : Int64) <<< ((pr - (1 : Int32)) &&& 0x3f).toInt64)), .second, .val (.long (bb &&& (((1 : Int64) <<< ((pr - (1 : Int32)) &&& 0x3f).toInt64) - (1 : Int64)))), .second] [(.long bb)]) (fun _ k => XS.lloadN X1.here hx rfl (hb hby own_d_prog_12_method_8_16) rfl k) ?_
  refine own_to (T' := T1) (mkF m 18 #[rv a, .val (.long bb), .second, .val (.long ((1 : Int64) <<< ((pr - (1 : Int32)) &&& 0x3f).toInt64)), .second, .val (.long (bb &&& (((1 : Int64) <<< ((pr - (1 : Int32)) &&& 0x3f).toInt64) - (1 : Int64)))), .second] [(.ref a), (.long bb)]) (fun _ k => XS.aloadN X1.here hx rfl (hb hby own_d_prog_12_method_8_17) rfl rfl k) ?_
  obtain ⟨T2, X2, e2, st2⟩ := getF X1 hx hZ hown (host := "") (Or.inl (hw _ (List.mem_of_getElem? (i := 14) rfl))) Via.refl e1 Fi (g := (mkF m 18 #[rv a, .val (.long bb), .second, .val (.long ((1 : Int64) <<< ((pr - (1 : Int32)) &&& 0x3f).toInt64)), .second, .val (.long (bb &&& (((1 : Int64) <<< ((pr - (1 : Int32)) &&& 0x3f).toInt64) - (1 : Int64)))), .second] [(.ref a), (.long bb)])) rfl rfl (hb hby own_d_prog_12_method_8_18)
  refine own_to (mkF m 21 #[rv a, .val (.long bb), .second, .val (.long ((1 : Int64) <<< ((pr - (1 : Int32)) &&& 0x3f).toInt64)), .second, .val (.long (bb &&& (((1 : Int64) <<< ((pr - (1 : Int32)) &&& 0x3f).toInt64) - (1 : Int64)))), .second] [(.long inf), (.long bb)]) st2 ?_
  refine own_to (T' := T2) (mkF m 22 #[rv a, .val (.long bb), .second, .val (.long ((1 : Int64) <<< ((pr - (1 : Int32)) &&& 0x3f).toInt64)), .second, .val (.long (bb &&& (((1 : Int64) <<< ((pr - (1 : Int32)) &&& 0x3f).toInt64) - (1 : Int64)))), .second] [(.long (bb &&& inf))]) (fun _ k => XS.land X2.here hx rfl (hb hby own_d_prog_12_method_8_21) rfl k) ?_
  refine own_to (T' := T2) (mkF m 23 #[rv a, .val (.long bb), .second, .val (.long ((1 : Int64) <<< ((pr - (1 : Int32)) &&& 0x3f).toInt64)), .second, .val (.long (bb &&& (((1 : Int64) <<< ((pr - (1 : Int32)) &&& 0x3f).toInt64) - (1 : Int64)))), .second] [(.long (0 : Int64)), (.long (bb &&& inf))]) (fun _ k => XS.lconst X2.here hx rfl (hb hby own_d_prog_12_method_8_22) k) ?_
  refine own_to (T' := T2) (mkF m 24 #[rv a, .val (.long bb), .second, .val (.long ((1 : Int64) <<< ((pr - (1 : Int32)) &&& 0x3f).toInt64)), .second, .val (.long (bb &&& (((1 : Int64) <<< ((pr - (1 : Int32)) &&& 0x3f).toInt64) - (1 : Int64)))), .second] [(.int (lcmpW (bb &&& inf) (0 : Int64)))]) (fun _ k => XS.lcmp X2.here hx rfl (hb hby own_d_prog_12_method_8_23) rfl k) ?_
  by_cases h1 : (lcmpW (bb &&& inf) (0 : Int64)) = (0 : Int32)
  · refine own_to (T' := T2) (mkF m 27 #[rv a, .val (.long bb), .second, .val (.long ((1 : Int64) <<< ((pr - (1 : Int32)) &&& 0x3f).toInt64)), .second, .val (.long (bb &&& (((1 : Int64) <<< ((pr - (1 : Int32)) &&& 0x3f).toInt64) - (1 : Int64)))), .second] []) (fun _ k => XS.ifNo X2.here hx rfl (hb hby own_d_prog_12_method_8_24) rfl ((if0 _ _).trans (teq h1).2) k) ?_
    refine own_to (T' := T2) (mkF m 29 #[rv a, .val (.long bb), .second, .val (.long ((1 : Int64) <<< ((pr - (1 : Int32)) &&& 0x3f).toInt64)), .second, .val (.long (bb &&& (((1 : Int64) <<< ((pr - (1 : Int32)) &&& 0x3f).toInt64) - (1 : Int64)))), .second] [(.long (bb &&& (((1 : Int64) <<< ((pr - (1 : Int32)) &&& 0x3f).toInt64) - (1 : Int64))))]) (fun _ k => XS.lload X2.here hx rfl (hb hby own_d_prog_12_method_8_27) rfl k) ?_
    refine own_to (T' := T2) (mkF m 36 #[rv a, .val (.long bb), .second, .val (.long ((1 : Int64) <<< ((pr - (1 : Int32)) &&& 0x3f).toInt64)), .second, .val (.long (bb &&& (((1 : Int64) <<< ((pr - (1 : Int32)) &&& 0x3f).toInt64) - (1 : Int64)))), .second] [(.long (bb &&& (((1 : Int64) <<< ((pr - (1 : Int32)) &&& 0x3f).toInt64) - (1 : Int64))))]) (fun _ k => XS.goto X2.here hx rfl (pc0 := 29) (pc' := 36) rfl (hb hby own_d_prog_12_method_8_29) (by decide) (by decide) k) ?_
    exact own_retJ X2 hx Bd.returns hlk (hb hby own_d_prog_12_method_8_36) (by decide) (by decide) (by rw [e2]; exact ⟨_, rfl, (if_pos h1).symm, N0, rfl⟩)
  · refine own_to (T' := T2) (mkF m 32 #[rv a, .val (.long bb), .second, .val (.long ((1 : Int64) <<< ((pr - (1 : Int32)) &&& 0x3f).toInt64)), .second, .val (.long (bb &&& (((1 : Int64) <<< ((pr - (1 : Int32)) &&& 0x3f).toInt64) - (1 : Int64)))), .second] []) (fun _ k => XS.ifYes X2.here hx rfl (pc0 := 24) (pc' := 32) rfl (hb hby own_d_prog_12_method_8_24) rfl ((if0 _ _).trans (feq h1).2) (by decide) (by decide) k) ?_
    refine own_to (T' := T2) (mkF m 34 #[rv a, .val (.long bb), .second, .val (.long ((1 : Int64) <<< ((pr - (1 : Int32)) &&& 0x3f).toInt64)), .second, .val (.long (bb &&& (((1 : Int64) <<< ((pr - (1 : Int32)) &&& 0x3f).toInt64) - (1 : Int64)))), .second] [(.long (bb &&& (((1 : Int64) <<< ((pr - (1 : Int32)) &&& 0x3f).toInt64) - (1 : Int64))))]) (fun _ k => XS.lload X2.here hx rfl (hb hby own_d_prog_12_method_8_32) rfl k) ?_
    refine own_to (T' := T2) (mkF m 35 #[rv a, .val (.long bb), .second, .val (.long ((1 : Int64) <<< ((pr - (1 : Int32)) &&& 0x3f).toInt64)), .second, .val (.long (bb &&& (((1 : Int64) <<< ((pr - (1 : Int32)) &&& 0x3f).toInt64) - (1 : Int64)))), .second] [(.long ((1 : Int64) <<< ((pr - (1 : Int32)) &&& 0x3f).toInt64)), (.long (bb &&& (((1 : Int64) <<< ((pr - (1 : Int32)) &&& 0x3f).toInt64) - (1 : Int64))))]) (fun _ k => XS.lloadN X2.here hx rfl (hb hby own_d_prog_12_method_8_34) rfl k) ?_
    refine own_to (T' := T2) (mkF m 36 #[rv a, .val (.long bb), .second, .val (.long ((1 : Int64) <<< ((pr - (1 : Int32)) &&& 0x3f).toInt64)), .second, .val (.long (bb &&& (((1 : Int64) <<< ((pr - (1 : Int32)) &&& 0x3f).toInt64) - (1 : Int64)))), .second] [(.long ((bb &&& (((1 : Int64) <<< ((pr - (1 : Int32)) &&& 0x3f).toInt64) - (1 : Int64))) ||| ((1 : Int64) <<< ((pr - (1 : Int32)) &&& 0x3f).toInt64)))]) (fun _ k => XS.lor X2.here hx rfl (hb hby own_d_prog_12_method_8_35) rfl k) ?_
    exact own_retJ X2 hx Bd.returns hlk (hb hby own_d_prog_12_method_8_36) (by decide) (by decide) (by rw [e2]; exact ⟨_, rfl, (if_neg h1).symm, N0, rfl⟩)
def own_Q0 (Z : State) (p0 : Int32) (p1 : Int64) (aS aD : Addr) (h0 : Heap) (n0 : Nat) (v : Option Value) (h : Heap) (L : List Loc) : Prop := v = some (.int 1) ∧ Fr n0 L
set_option maxRecDepth 65536 in
set_option maxHeartbeats 40000000 in
theorem own_rm0 (l : Launch) (Z : State) (a0 : Array Value) (hw : ∀ d ∈ tables_1, d.before a0 Z = true) (ws : List Jvm.Cond) (p0 : Int32) (p1 : Int64) (aS aD : Addr) (h0 : Heap) (n0 : Nat) (Z0 : n0 ≤ h0.size) (OL : Old Z n0 h0) (SS : Sta Z Z.heap "ballast/number/BinaryFormat" "SINGLE" "Lballast/number/BinaryFormat;" (.ref aS)) (SD : Sta Z Z.heap "ballast/number/BinaryFormat" "DOUBLE" "Lballast/number/BinaryFormat;" (.ref aD)) (EaS : Exa Z Z.heap aS "ballast/number/BinaryFormat") (PaS : Fld Z Z.heap aS "ballast/number/BinaryFormat" "precision" "I" (.int (24 : Int32))) (IaS : Fld Z Z.heap aS "ballast/number/BinaryFormat" "infinity" "J" (.long (2139095040 : Int64))) (EaD : Exa Z Z.heap aD "ballast/number/BinaryFormat") (PaD : Fld Z Z.heap aD "ballast/number/BinaryFormat" "precision" "I" (.int (53 : Int32))) (IaD : Fld Z Z.heap aD "ballast/number/BinaryFormat" "infinity" "J" (.long (9218868437227405312 : Int64))) :
    MetFree l x (head1 (Jvm.Cond.code x code maxLocals ret :: ws) room_1) (fun aa_ U => aa_ = #[(.int p0), (.long p1)] ∧ Z.Warmed39 U.vm ∧ U.heap = h0) (fun _ _ _ _ _ => True) (fun _ U o U' => ∃ v L, o = .returned v ∧ own_Q0 Z p0 p1 aS aD h0 n0 v U'.heap L ∧ FrameEnd U o U' L room_1.cells room_1.slots) := by
  refine MetFree.of_bodySF (plainFor_of_name own_pn1) hisR ?_
  intro p e s m args below meth c s₁ Bd hml0 hP hK
  obtain ⟨rfl, hZ, hh⟩ := hP
  have hx := Bd.exec
  have hby := Bd.bytes
  have hlk : meth.locks = false := BodyLoose.notSynchronized Bd
  have hml : c.maxLocals = 21 := hml0
  have hown : s.vm.findClass "ballast/number/BinaryFormatSignificandPinLaw" = some m.cls := findClass_of_methodNamed Bd.named
  have hnm := (name_of_methodNamed Bd.named Bd.method).1
  have X0 : Stand p l e room_1 s m #[(.int p0), (.long p1)] below meth c s₁ [] 0 0 := Stand.of_body Bd
  have e0 : s₁.heap = h0 := by rw [← hh, Bd.state]; rfl
  have N0 := Fr.nil n0
  have KP : Keep h0 h0 [] := Keep.refl _ _
  refine own_start (Fin := (own_Fin s (own_Q0 Z p0 p1 aS aD h0 n0) room_1.cells room_1.slots)) (own_from (mkF m 0 #[iv p0, .val (.long p1), .second, .unset, .unset, .unset, .unset, .unset, .unset, .unset, .unset, .unset, .unset, .unset, .unset, .unset, .unset, .unset, .unset, .unset, .unset] []) (castTop (own_ef_0 m p0 p1)) ?_)
  refine own_to (T' := s₁) (mkF m 1 #[iv p0, .val (.long p1), .second, .unset, .unset, .unset, .unset, .unset, .unset, .unset, .unset, .unset, .unset, .unset, .unset, .unset, .unset, .unset, .unset, .unset, .unset] [(.int p0)]) (fun _ k => XS.iloadN X0.here hx rfl (hb hby at_0) rfl k) ?_
  refine own_to (T' := s₁) (mkF m 2 #[iv p0, .val (.long p1), .second, .unset, .unset, .unset, .unset, .unset, .unset, .unset, .unset, .unset, .unset, .unset, .unset, .unset, .unset, .unset, .unset, .unset, .unset] [(.int (1 : Int32)), (.int p0)]) (fun _ k => XS.iconst X0.here hx rfl (hb hby at_1) k) ?_
  refine own_to (T' := s₁) (mkF m 3 #[iv p0, .val (.long p1), .second, .unset, .unset, .unset, .unset, .unset, .unset, .unset, .unset, .unset, .unset, .unset, .unset, .unset, .unset, .unset, .unset, .unset, .unset] [(.int (p0 &&& (1 : Int32)))]) (fun _ k => XS.iand X0.here hx rfl (hb hby at_2) rfl k) ?_
  by_cases hd : (p0 &&& (1 : Int32)) = (0 : Int32)
  · refine own_to (T' := s₁) (mkF m 10 #[iv p0, .val (.long p1), .second, .unset, .unset, .unset, .unset, .unset, .unset, .unset, .unset, .unset, .unset, .unset, .unset, .unset, .unset, .unset, .unset, .unset, .unset] []) (fun _ k => XS.ifYes X0.here hx rfl (pc0 := 3) (pc' := 10) rfl (hb hby at_3) rfl ((if0 _ _).trans (teq hd).1) (by decide) (by decide) k) ?_
    refine own_to (T' := s₁) (mkF m 11 #[iv p0, .val (.long p1), .second, .unset, .unset, .unset, .unset, .unset, .unset, .unset, .unset, .unset, .unset, .unset, .unset, .unset, .unset, .unset, .unset, .unset, .unset] [(.int (0 : Int32))]) (fun _ k => XS.iconst X0.here hx rfl (hb hby at_10) k) ?_
    refine own_to (T' := s₁) (mkF m 12 #[iv p0, .val (.long p1), .second, iv 0, .unset, .unset, .unset, .unset, .unset, .unset, .unset, .unset, .unset, .unset, .unset, .unset, .unset, .unset, .unset, .unset, .unset] []) (fun _ k => XS.istoreN X0.here hx rfl (hb hby at_11) rfl (l' := #[iv p0, .val (.long p1), .second, iv 0, .unset, .unset, .unset, .unset, .unset, .unset, .unset, .unset, .unset, .unset, .unset, .unset, .unset, .unset, .unset, .unset, .unset]) rfl k) ?_
    refine own_to (T' := s₁) (mkF m 13 #[iv p0, .val (.long p1), .second, iv 0, .unset, .unset, .unset, .unset, .unset, .unset, .unset, .unset, .unset, .unset, .unset, .unset, .unset, .unset, .unset, .unset, .unset] [(.int p0)]) (fun _ k => XS.iloadN X0.here hx rfl (hb hby at_12) rfl k) ?_
    refine own_to (T' := s₁) (mkF m 14 #[iv p0, .val (.long p1), .second, iv 0, .unset, .unset, .unset, .unset, .unset, .unset, .unset, .unset, .unset, .unset, .unset, .unset, .unset, .unset, .unset, .unset, .unset] [(.int (2 : Int32)), (.int p0)]) (fun _ k => XS.iconst X0.here hx rfl (hb hby at_13) k) ?_
    refine own_to (T' := s₁) (mkF m 15 #[iv p0, .val (.long p1), .second, iv 0, .unset, .unset, .unset, .unset, .unset, .unset, .unset, .unset, .unset, .unset, .unset, .unset, .unset, .unset, .unset, .unset, .unset] [(.int (p0 &&& (2 : Int32)))]) (fun _ k => XS.iand X0.here hx rfl (hb hby at_14) rfl k) ?_
    suffices jn3 : ∀ dsub : Int32, ((p0 &&& (2 : Int32)) = (0 : Int32) → dsub = (0 : Int32)) → (¬ (p0 &&& (2 : Int32)) = (0 : Int32) → dsub = (1 : Int32)) → own_E p e below (own_Fin s (own_Q0 Z p0 p1 aS aD h0 n0) room_1.cells room_1.slots) s₁ (mkF m 23 #[iv p0, .val (.long p1), .second, iv 0, .unset, .unset, .unset, .unset, .unset, .unset, .unset, .unset, .unset, .unset, .unset, .unset, .unset, .unset, .unset, .unset, .unset] [(.int dsub)]) from by
      by_cases hsub : (p0 &&& (2 : Int32)) = (0 : Int32)
      · refine own_to (T' := s₁) (mkF m 22 #[iv p0, .val (.long p1), .second, iv 0, .unset, .unset, .unset, .unset, .unset, .unset, .unset, .unset, .unset, .unset, .unset, .unset, .unset, .unset, .unset, .unset, .unset] []) (fun _ k => XS.ifYes X0.here hx rfl (pc0 := 15) (pc' := 22) rfl (hb hby at_15) rfl ((if0 _ _).trans (teq hsub).1) (by decide) (by decide) k) ?_
        refine own_to (T' := s₁) (mkF m 23 #[iv p0, .val (.long p1), .second, iv 0, .unset, .unset, .unset, .unset, .unset, .unset, .unset, .unset, .unset, .unset, .unset, .unset, .unset, .unset, .unset, .unset, .unset] [(.int (0 : Int32))]) (fun _ k => XS.iconst X0.here hx rfl (hb hby at_22) k) ?_
        exact jn3 (0 : Int32) (fun _ => rfl) (fun q => absurd hsub q)
      · refine own_to (T' := s₁) (mkF m 18 #[iv p0, .val (.long p1), .second, iv 0, .unset, .unset, .unset, .unset, .unset, .unset, .unset, .unset, .unset, .unset, .unset, .unset, .unset, .unset, .unset, .unset, .unset] []) (fun _ k => XS.ifNo X0.here hx rfl (hb hby at_15) rfl ((if0 _ _).trans (feq hsub).1) k) ?_
        refine own_to (T' := s₁) (mkF m 19 #[iv p0, .val (.long p1), .second, iv 0, .unset, .unset, .unset, .unset, .unset, .unset, .unset, .unset, .unset, .unset, .unset, .unset, .unset, .unset, .unset, .unset, .unset] [(.int (1 : Int32))]) (fun _ k => XS.iconst X0.here hx rfl (hb hby at_18) k) ?_
        refine own_to (T' := s₁) (mkF m 23 #[iv p0, .val (.long p1), .second, iv 0, .unset, .unset, .unset, .unset, .unset, .unset, .unset, .unset, .unset, .unset, .unset, .unset, .unset, .unset, .unset, .unset, .unset] [(.int (1 : Int32))]) (fun _ k => XS.goto X0.here hx rfl (pc0 := 19) (pc' := 23) rfl (hb hby at_19) (by decide) (by decide) k) ?_
        exact jn3 (1 : Int32) (fun q => absurd q hsub) (fun _ => rfl)
    intro dsub hdsubt hdsubf
    refine own_to (T' := s₁) (mkF m 25 #[iv p0, .val (.long p1), .second, iv 0, iv dsub, .unset, .unset, .unset, .unset, .unset, .unset, .unset, .unset, .unset, .unset, .unset, .unset, .unset, .unset, .unset, .unset] []) (fun _ k => XS.istore X0.here hx rfl (hb hby at_23) rfl (l' := #[iv p0, .val (.long p1), .second, iv 0, iv dsub, .unset, .unset, .unset, .unset, .unset, .unset, .unset, .unset, .unset, .unset, .unset, .unset, .unset, .unset, .unset, .unset]) rfl k) ?_
    refine own_to (T' := s₁) (mkF m 26 #[iv p0, .val (.long p1), .second, iv 0, iv dsub, .unset, .unset, .unset, .unset, .unset, .unset, .unset, .unset, .unset, .unset, .unset, .unset, .unset, .unset, .unset, .unset] [(.int (0 : Int32))]) (fun _ k => XS.iloadN X0.here hx rfl (hb hby at_25) rfl k) ?_
    refine own_to (T' := s₁) (mkF m 35 #[iv p0, .val (.long p1), .second, iv 0, iv dsub, .unset, .unset, .unset, .unset, .unset, .unset, .unset, .unset, .unset, .unset, .unset, .unset, .unset, .unset, .unset, .unset] []) (fun _ k => XS.ifYes X0.here hx rfl (pc0 := 26) (pc' := 35) rfl (hb hby at_26) rfl ((if0 _ _).trans (teq (by decide : (0 : Int32) = (0 : Int32))).1) (by decide) (by decide) k) ?_
    obtain ⟨T4, X4, e4, st4⟩ := getS2 X0 hx hZ hown (host := "") (Or.inl (hw _ (List.mem_of_getElem? (i := 0) rfl))) Via.refl e0 (SS.ext OL.2) (g := (mkF m 35 #[iv p0, .val (.long p1), .second, iv 0, iv dsub, .unset, .unset, .unset, .unset, .unset, .unset, .unset, .unset, .unset, .unset, .unset, .unset, .unset, .unset, .unset, .unset] [])) rfl (hb hby at_35)
    refine own_to (mkF m 38 #[iv p0, .val (.long p1), .second, iv 0, iv dsub, .unset, .unset, .unset, .unset, .unset, .unset, .unset, .unset, .unset, .unset, .unset, .unset, .unset, .unset, .unset, .unset] [(.ref aS)]) st4 ?_
    refine own_to (T' := T4) (mkF m 40 #[iv p0, .val (.long p1), .second, iv 0, iv dsub, rv aS, .unset, .unset, .unset, .unset, .unset, .unset, .unset, .unset, .unset, .unset, .unset, .unset, .unset, .unset, .unset] []) (fun _ k => XS.astore X4.here hx rfl (hb hby at_38) rfl rfl (l' := #[iv p0, .val (.long p1), .second, iv 0, iv dsub, rv aS, .unset, .unset, .unset, .unset, .unset, .unset, .unset, .unset, .unset, .unset, .unset, .unset, .unset, .unset, .unset]) rfl k) ?_
    refine own_to (T' := T4) (mkF m 41 #[iv p0, .val (.long p1), .second, iv 0, iv dsub, rv aS, .unset, .unset, .unset, .unset, .unset, .unset, .unset, .unset, .unset, .unset, .unset, .unset, .unset, .unset, .unset] [(.int (0 : Int32))]) (fun _ k => XS.iloadN X4.here hx rfl (hb hby at_40) rfl k) ?_
    refine own_to (T' := T4) (mkF m 50 #[iv p0, .val (.long p1), .second, iv 0, iv dsub, rv aS, .unset, .unset, .unset, .unset, .unset, .unset, .unset, .unset, .unset, .unset, .unset, .unset, .unset, .unset, .unset] []) (fun _ k => XS.ifYes X4.here hx rfl (pc0 := 41) (pc' := 50) rfl (hb hby at_41) rfl ((if0 _ _).trans (teq (by decide : (0 : Int32) = (0 : Int32))).1) (by decide) (by decide) k) ?_
    refine own_to (mkF m 53 #[iv p0, .val (.long p1), .second, iv 0, iv dsub, rv aS, .unset, .unset, .unset, .unset, .unset, .unset, .unset, .unset, .unset, .unset, .unset, .unset, .unset, .unset, .unset] [(.long (8388607 : Int64))]) (X4.ldc2Long hx hown (mvT hZ (hw _ (List.mem_of_getElem? (i := 3) rfl))) (g := (mkF m 50 #[iv p0, .val (.long p1), .second, iv 0, iv dsub, rv aS, .unset, .unset, .unset, .unset, .unset, .unset, .unset, .unset, .unset, .unset, .unset, .unset, .unset, .unset, .unset] [])) rfl (hb hby at_50)) ?_
    refine own_to (T' := T4) (mkF m 55 #[iv p0, .val (.long p1), .second, iv 0, iv dsub, rv aS, .val (.long (8388607 : Int64)), .second, .unset, .unset, .unset, .unset, .unset, .unset, .unset, .unset, .unset, .unset, .unset, .unset, .unset] []) (fun _ k => XS.lstore X4.here hx rfl (hb hby at_53) rfl (l' := #[iv p0, .val (.long p1), .second, iv 0, iv dsub, rv aS, .val (.long (8388607 : Int64)), .second, .unset, .unset, .unset, .unset, .unset, .unset, .unset, .unset, .unset, .unset, .unset, .unset, .unset]) rfl k) ?_
    refine own_to (T' := T4) (mkF m 56 #[iv p0, .val (.long p1), .second, iv 0, iv dsub, rv aS, .val (.long (8388607 : Int64)), .second, .unset, .unset, .unset, .unset, .unset, .unset, .unset, .unset, .unset, .unset, .unset, .unset, .unset] [(.int (0 : Int32))]) (fun _ k => XS.iloadN X4.here hx rfl (hb hby at_55) rfl k) ?_
    refine own_to (T' := T4) (mkF m 65 #[iv p0, .val (.long p1), .second, iv 0, iv dsub, rv aS, .val (.long (8388607 : Int64)), .second, .unset, .unset, .unset, .unset, .unset, .unset, .unset, .unset, .unset, .unset, .unset, .unset, .unset] []) (fun _ k => XS.ifYes X4.here hx rfl (pc0 := 56) (pc' := 65) rfl (hb hby at_56) rfl ((if0 _ _).trans (teq (by decide : (0 : Int32) = (0 : Int32))).1) (by decide) (by decide) k) ?_
    refine own_to (mkF m 68 #[iv p0, .val (.long p1), .second, iv 0, iv dsub, rv aS, .val (.long (8388607 : Int64)), .second, .unset, .unset, .unset, .unset, .unset, .unset, .unset, .unset, .unset, .unset, .unset, .unset, .unset] [(.long (2139095040 : Int64))]) (X4.ldc2Long hx hown (mvT hZ (hw _ (List.mem_of_getElem? (i := 4) rfl))) (g := (mkF m 65 #[iv p0, .val (.long p1), .second, iv 0, iv dsub, rv aS, .val (.long (8388607 : Int64)), .second, .unset, .unset, .unset, .unset, .unset, .unset, .unset, .unset, .unset, .unset, .unset, .unset, .unset] [])) rfl (hb hby at_65)) ?_
    refine own_to (T' := T4) (mkF m 70 #[iv p0, .val (.long p1), .second, iv 0, iv dsub, rv aS, .val (.long (8388607 : Int64)), .second, .val (.long (2139095040 : Int64)), .second, .unset, .unset, .unset, .unset, .unset, .unset, .unset, .unset, .unset, .unset, .unset] []) (fun _ k => XS.lstore X4.here hx rfl (hb hby at_68) rfl (l' := #[iv p0, .val (.long p1), .second, iv 0, iv dsub, rv aS, .val (.long (8388607 : Int64)), .second, .val (.long (2139095040 : Int64)), .second, .unset, .unset, .unset, .unset, .unset, .unset, .unset, .unset, .unset, .unset, .unset]) rfl k) ?_
    refine own_to (T' := T4) (mkF m 71 #[iv p0, .val (.long p1), .second, iv 0, iv dsub, rv aS, .val (.long (8388607 : Int64)), .second, .val (.long (2139095040 : Int64)), .second, .unset, .unset, .unset, .unset, .unset, .unset, .unset, .unset, .unset, .unset, .unset] [(.int (0 : Int32))]) (fun _ k => XS.iloadN X4.here hx rfl (hb hby at_70) rfl k) ?_
    refine own_to (T' := T4) (mkF m 80 #[iv p0, .val (.long p1), .second, iv 0, iv dsub, rv aS, .val (.long (8388607 : Int64)), .second, .val (.long (2139095040 : Int64)), .second, .unset, .unset, .unset, .unset, .unset, .unset, .unset, .unset, .unset, .unset, .unset] []) (fun _ k => XS.ifYes X4.here hx rfl (pc0 := 71) (pc' := 80) rfl (hb hby at_71) rfl ((if0 _ _).trans (teq (by decide : (0 : Int32) = (0 : Int32))).1) (by decide) (by decide) k) ?_
    refine own_to (mkF m 83 #[iv p0, .val (.long p1), .second, iv 0, iv dsub, rv aS, .val (.long (8388607 : Int64)), .second, .val (.long (2139095040 : Int64)), .second, .unset, .unset, .unset, .unset, .unset, .unset, .unset, .unset, .unset, .unset, .unset] [(.long (8388608 : Int64))]) (X4.ldc2Long hx hown (mvT hZ (hw _ (List.mem_of_getElem? (i := 5) rfl))) (g := (mkF m 80 #[iv p0, .val (.long p1), .second, iv 0, iv dsub, rv aS, .val (.long (8388607 : Int64)), .second, .val (.long (2139095040 : Int64)), .second, .unset, .unset, .unset, .unset, .unset, .unset, .unset, .unset, .unset, .unset, .unset] [])) rfl (hb hby at_80)) ?_
    refine own_to (T' := T4) (mkF m 85 #[iv p0, .val (.long p1), .second, iv 0, iv dsub, rv aS, .val (.long (8388607 : Int64)), .second, .val (.long (2139095040 : Int64)), .second, .val (.long (8388608 : Int64)), .second, .unset, .unset, .unset, .unset, .unset, .unset, .unset, .unset, .unset] []) (fun _ k => XS.lstore X4.here hx rfl (hb hby at_83) rfl (l' := #[iv p0, .val (.long p1), .second, iv 0, iv dsub, rv aS, .val (.long (8388607 : Int64)), .second, .val (.long (2139095040 : Int64)), .second, .val (.long (8388608 : Int64)), .second, .unset, .unset, .unset, .unset, .unset, .unset, .unset, .unset, .unset]) rfl k) ?_
    refine own_to (T' := T4) (mkF m 86 #[iv p0, .val (.long p1), .second, iv 0, iv dsub, rv aS, .val (.long (8388607 : Int64)), .second, .val (.long (2139095040 : Int64)), .second, .val (.long (8388608 : Int64)), .second, .unset, .unset, .unset, .unset, .unset, .unset, .unset, .unset, .unset] [(.int (0 : Int32))]) (fun _ k => XS.iloadN X4.here hx rfl (hb hby at_85) rfl k) ?_
    refine own_to (T' := T4) (mkF m 93 #[iv p0, .val (.long p1), .second, iv 0, iv dsub, rv aS, .val (.long (8388607 : Int64)), .second, .val (.long (2139095040 : Int64)), .second, .val (.long (8388608 : Int64)), .second, .unset, .unset, .unset, .unset, .unset, .unset, .unset, .unset, .unset] []) (fun _ k => XS.ifYes X4.here hx rfl (pc0 := 86) (pc' := 93) rfl (hb hby at_86) rfl ((if0 _ _).trans (teq (by decide : (0 : Int32) = (0 : Int32))).1) (by decide) (by decide) k) ?_
    refine own_to (T' := T4) (mkF m 94 #[iv p0, .val (.long p1), .second, iv 0, iv dsub, rv aS, .val (.long (8388607 : Int64)), .second, .val (.long (2139095040 : Int64)), .second, .val (.long (8388608 : Int64)), .second, .unset, .unset, .unset, .unset, .unset, .unset, .unset, .unset, .unset] [(.long p1)]) (fun _ k => XS.lloadN X4.here hx rfl (hb hby at_93) rfl k) ?_
    refine own_to (mkF m 97 #[iv p0, .val (.long p1), .second, iv 0, iv dsub, rv aS, .val (.long (8388607 : Int64)), .second, .val (.long (2139095040 : Int64)), .second, .val (.long (8388608 : Int64)), .second, .unset, .unset, .unset, .unset, .unset, .unset, .unset, .unset, .unset] [(.long (4294967295 : Int64)), (.long p1)]) (X4.ldc2Long hx hown (mvT hZ (hw _ (List.mem_of_getElem? (i := 6) rfl))) (g := (mkF m 94 #[iv p0, .val (.long p1), .second, iv 0, iv dsub, rv aS, .val (.long (8388607 : Int64)), .second, .val (.long (2139095040 : Int64)), .second, .val (.long (8388608 : Int64)), .second, .unset, .unset, .unset, .unset, .unset, .unset, .unset, .unset, .unset] [(.long p1)])) rfl (hb hby at_94)) ?_
    refine own_to (T' := T4) (mkF m 98 #[iv p0, .val (.long p1), .second, iv 0, iv dsub, rv aS, .val (.long (8388607 : Int64)), .second, .val (.long (2139095040 : Int64)), .second, .val (.long (8388608 : Int64)), .second, .unset, .unset, .unset, .unset, .unset, .unset, .unset, .unset, .unset] [(.long (p1 &&& (4294967295 : Int64)))]) (fun _ k => XS.land X4.here hx rfl (hb hby at_97) rfl k) ?_
    refine own_to (T' := T4) (mkF m 100 #[iv p0, .val (.long p1), .second, iv 0, iv dsub, rv aS, .val (.long (8388607 : Int64)), .second, .val (.long (2139095040 : Int64)), .second, .val (.long (8388608 : Int64)), .second, .val (.long (p1 &&& (4294967295 : Int64))), .second, .unset, .unset, .unset, .unset, .unset, .unset, .unset] []) (fun _ k => XS.lstore X4.here hx rfl (hb hby at_98) rfl (l' := #[iv p0, .val (.long p1), .second, iv 0, iv dsub, rv aS, .val (.long (8388607 : Int64)), .second, .val (.long (2139095040 : Int64)), .second, .val (.long (8388608 : Int64)), .second, .val (.long (p1 &&& (4294967295 : Int64))), .second, .unset, .unset, .unset, .unset, .unset, .unset, .unset]) rfl k) ?_
    refine own_to (T' := T4) (mkF m 102 #[iv p0, .val (.long p1), .second, iv 0, iv dsub, rv aS, .val (.long (8388607 : Int64)), .second, .val (.long (2139095040 : Int64)), .second, .val (.long (8388608 : Int64)), .second, .val (.long (p1 &&& (4294967295 : Int64))), .second, .unset, .unset, .unset, .unset, .unset, .unset, .unset] [(.int dsub)]) (fun _ k => XS.iload X4.here hx rfl (hb hby at_100) rfl k) ?_
    suffices jn5 : ∀ bits1 : Int64, (dsub = (0 : Int32) → bits1 = (p1 &&& (4294967295 : Int64))) → (¬ (dsub = (0 : Int32)) → bits1 = ((p1 &&& (4294967295 : Int64)) &&& ((2139095040 : Int64) ^^^ (-1 : Int64)))) → own_E p e below (own_Fin s (own_Q0 Z p0 p1 aS aD h0 n0) room_1.cells room_1.slots) T4 (mkF m 116 #[iv p0, .val (.long p1), .second, iv 0, iv dsub, rv aS, .val (.long (8388607 : Int64)), .second, .val (.long (2139095040 : Int64)), .second, .val (.long (8388608 : Int64)), .second, .val (.long bits1), .second, .unset, .unset, .unset, .unset, .unset, .unset, .unset] []) from by
      by_cases hsub2 : dsub = (0 : Int32)
      · refine own_to (T' := T4) (mkF m 116 #[iv p0, .val (.long p1), .second, iv 0, iv dsub, rv aS, .val (.long (8388607 : Int64)), .second, .val (.long (2139095040 : Int64)), .second, .val (.long (8388608 : Int64)), .second, .val (.long (p1 &&& (4294967295 : Int64))), .second, .unset, .unset, .unset, .unset, .unset, .unset, .unset] []) (fun _ k => XS.ifYes X4.here hx rfl (pc0 := 102) (pc' := 116) rfl (hb hby at_102) rfl ((if0 _ _).trans (teq hsub2).1) (by decide) (by decide) k) ?_
        exact jn5 (p1 &&& (4294967295 : Int64)) (fun _ => rfl) (fun q => absurd hsub2 q)
      · refine own_to (T' := T4) (mkF m 105 #[iv p0, .val (.long p1), .second, iv 0, iv dsub, rv aS, .val (.long (8388607 : Int64)), .second, .val (.long (2139095040 : Int64)), .second, .val (.long (8388608 : Int64)), .second, .val (.long (p1 &&& (4294967295 : Int64))), .second, .unset, .unset, .unset, .unset, .unset, .unset, .unset] []) (fun _ k => XS.ifNo X4.here hx rfl (hb hby at_102) rfl ((if0 _ _).trans (feq hsub2).1) k) ?_
        refine own_to (T' := T4) (mkF m 107 #[iv p0, .val (.long p1), .second, iv 0, iv dsub, rv aS, .val (.long (8388607 : Int64)), .second, .val (.long (2139095040 : Int64)), .second, .val (.long (8388608 : Int64)), .second, .val (.long (p1 &&& (4294967295 : Int64))), .second, .unset, .unset, .unset, .unset, .unset, .unset, .unset] [(.long (p1 &&& (4294967295 : Int64)))]) (fun _ k => XS.lload X4.here hx rfl (hb hby at_105) rfl k) ?_
        refine own_to (T' := T4) (mkF m 109 #[iv p0, .val (.long p1), .second, iv 0, iv dsub, rv aS, .val (.long (8388607 : Int64)), .second, .val (.long (2139095040 : Int64)), .second, .val (.long (8388608 : Int64)), .second, .val (.long (p1 &&& (4294967295 : Int64))), .second, .unset, .unset, .unset, .unset, .unset, .unset, .unset] [(.long (2139095040 : Int64)), (.long (p1 &&& (4294967295 : Int64)))]) (fun _ k => XS.lload X4.here hx rfl (hb hby at_107) rfl k) ?_
        refine own_to (mkF m 112 #[iv p0, .val (.long p1), .second, iv 0, iv dsub, rv aS, .val (.long (8388607 : Int64)), .second, .val (.long (2139095040 : Int64)), .second, .val (.long (8388608 : Int64)), .second, .val (.long (p1 &&& (4294967295 : Int64))), .second, .unset, .unset, .unset, .unset, .unset, .unset, .unset] [(.long (-1 : Int64)), (.long (2139095040 : Int64)), (.long (p1 &&& (4294967295 : Int64)))]) (X4.ldc2Long hx hown (mvT hZ (hw _ (List.mem_of_getElem? (i := 23) rfl))) (g := (mkF m 109 #[iv p0, .val (.long p1), .second, iv 0, iv dsub, rv aS, .val (.long (8388607 : Int64)), .second, .val (.long (2139095040 : Int64)), .second, .val (.long (8388608 : Int64)), .second, .val (.long (p1 &&& (4294967295 : Int64))), .second, .unset, .unset, .unset, .unset, .unset, .unset, .unset] [(.long (2139095040 : Int64)), (.long (p1 &&& (4294967295 : Int64)))])) rfl (hb hby at_109)) ?_
        refine own_to (T' := T4) (mkF m 113 #[iv p0, .val (.long p1), .second, iv 0, iv dsub, rv aS, .val (.long (8388607 : Int64)), .second, .val (.long (2139095040 : Int64)), .second, .val (.long (8388608 : Int64)), .second, .val (.long (p1 &&& (4294967295 : Int64))), .second, .unset, .unset, .unset, .unset, .unset, .unset, .unset] [(.long ((2139095040 : Int64) ^^^ (-1 : Int64))), (.long (p1 &&& (4294967295 : Int64)))]) (fun _ k => XS.lxor X4.here hx rfl (hb hby at_112) rfl k) ?_
        refine own_to (T' := T4) (mkF m 114 #[iv p0, .val (.long p1), .second, iv 0, iv dsub, rv aS, .val (.long (8388607 : Int64)), .second, .val (.long (2139095040 : Int64)), .second, .val (.long (8388608 : Int64)), .second, .val (.long (p1 &&& (4294967295 : Int64))), .second, .unset, .unset, .unset, .unset, .unset, .unset, .unset] [(.long ((p1 &&& (4294967295 : Int64)) &&& ((2139095040 : Int64) ^^^ (-1 : Int64))))]) (fun _ k => XS.land X4.here hx rfl (hb hby at_113) rfl k) ?_
        refine own_to (T' := T4) (mkF m 116 #[iv p0, .val (.long p1), .second, iv 0, iv dsub, rv aS, .val (.long (8388607 : Int64)), .second, .val (.long (2139095040 : Int64)), .second, .val (.long (8388608 : Int64)), .second, .val (.long ((p1 &&& (4294967295 : Int64)) &&& ((2139095040 : Int64) ^^^ (-1 : Int64)))), .second, .unset, .unset, .unset, .unset, .unset, .unset, .unset] []) (fun _ k => XS.lstore X4.here hx rfl (hb hby at_114) rfl (l' := #[iv p0, .val (.long p1), .second, iv 0, iv dsub, rv aS, .val (.long (8388607 : Int64)), .second, .val (.long (2139095040 : Int64)), .second, .val (.long (8388608 : Int64)), .second, .val (.long ((p1 &&& (4294967295 : Int64)) &&& ((2139095040 : Int64) ^^^ (-1 : Int64)))), .second, .unset, .unset, .unset, .unset, .unset, .unset, .unset]) rfl k) ?_
        exact jn5 ((p1 &&& (4294967295 : Int64)) &&& ((2139095040 : Int64) ^^^ (-1 : Int64))) (fun q => absurd q hsub2) (fun _ => rfl)
    intro bits1 hbits1t hbits1f
    refine own_to (T' := T4) (mkF m 118 #[iv p0, .val (.long p1), .second, iv 0, iv dsub, rv aS, .val (.long (8388607 : Int64)), .second, .val (.long (2139095040 : Int64)), .second, .val (.long (8388608 : Int64)), .second, .val (.long bits1), .second, .unset, .unset, .unset, .unset, .unset, .unset, .unset] [(.long bits1)]) (fun _ k => XS.lload X4.here hx rfl (hb hby at_116) rfl k) ?_
    refine own_to (T' := T4) (mkF m 120 #[iv p0, .val (.long p1), .second, iv 0, iv dsub, rv aS, .val (.long (8388607 : Int64)), .second, .val (.long (2139095040 : Int64)), .second, .val (.long (8388608 : Int64)), .second, .val (.long bits1), .second, .unset, .unset, .unset, .unset, .unset, .unset, .unset] [(.long (2139095040 : Int64)), (.long bits1)]) (fun _ k => XS.lload X4.here hx rfl (hb hby at_118) rfl k) ?_
    refine own_to (T' := T4) (mkF m 121 #[iv p0, .val (.long p1), .second, iv 0, iv dsub, rv aS, .val (.long (8388607 : Int64)), .second, .val (.long (2139095040 : Int64)), .second, .val (.long (8388608 : Int64)), .second, .val (.long bits1), .second, .unset, .unset, .unset, .unset, .unset, .unset, .unset] [(.long (bits1 &&& (2139095040 : Int64)))]) (fun _ k => XS.land X4.here hx rfl (hb hby at_120) rfl k) ?_
    refine own_to (T' := T4) (mkF m 123 #[iv p0, .val (.long p1), .second, iv 0, iv dsub, rv aS, .val (.long (8388607 : Int64)), .second, .val (.long (2139095040 : Int64)), .second, .val (.long (8388608 : Int64)), .second, .val (.long bits1), .second, .unset, .unset, .unset, .unset, .unset, .unset, .unset] [(.long (2139095040 : Int64)), (.long (bits1 &&& (2139095040 : Int64)))]) (fun _ k => XS.lload X4.here hx rfl (hb hby at_121) rfl k) ?_
    refine own_to (T' := T4) (mkF m 124 #[iv p0, .val (.long p1), .second, iv 0, iv dsub, rv aS, .val (.long (8388607 : Int64)), .second, .val (.long (2139095040 : Int64)), .second, .val (.long (8388608 : Int64)), .second, .val (.long bits1), .second, .unset, .unset, .unset, .unset, .unset, .unset, .unset] [(.int (lcmpW (bits1 &&& (2139095040 : Int64)) (2139095040 : Int64)))]) (fun _ k => XS.lcmp X4.here hx rfl (hb hby at_123) rfl k) ?_
    suffices jn6 : ∀ bits2 : Int64, ((lcmpW (bits1 &&& (2139095040 : Int64)) (2139095040 : Int64)) = (0 : Int32) → bits2 = (bits1 ^^^ (8388608 : Int64))) → (¬ (lcmpW (bits1 &&& (2139095040 : Int64)) (2139095040 : Int64)) = (0 : Int32) → bits2 = bits1) → own_E p e below (own_Fin s (own_Q0 Z p0 p1 aS aD h0 n0) room_1.cells room_1.slots) T4 (mkF m 134 #[iv p0, .val (.long p1), .second, iv 0, iv dsub, rv aS, .val (.long (8388607 : Int64)), .second, .val (.long (2139095040 : Int64)), .second, .val (.long (8388608 : Int64)), .second, .val (.long bits2), .second, .unset, .unset, .unset, .unset, .unset, .unset, .unset] []) from by
      by_cases hfin : (lcmpW (bits1 &&& (2139095040 : Int64)) (2139095040 : Int64)) = (0 : Int32)
      · refine own_to (T' := T4) (mkF m 127 #[iv p0, .val (.long p1), .second, iv 0, iv dsub, rv aS, .val (.long (8388607 : Int64)), .second, .val (.long (2139095040 : Int64)), .second, .val (.long (8388608 : Int64)), .second, .val (.long bits1), .second, .unset, .unset, .unset, .unset, .unset, .unset, .unset] []) (fun _ k => XS.ifNo X4.here hx rfl (hb hby at_124) rfl ((if0 _ _).trans (teq hfin).2) k) ?_
        refine own_to (T' := T4) (mkF m 129 #[iv p0, .val (.long p1), .second, iv 0, iv dsub, rv aS, .val (.long (8388607 : Int64)), .second, .val (.long (2139095040 : Int64)), .second, .val (.long (8388608 : Int64)), .second, .val (.long bits1), .second, .unset, .unset, .unset, .unset, .unset, .unset, .unset] [(.long bits1)]) (fun _ k => XS.lload X4.here hx rfl (hb hby at_127) rfl k) ?_
        refine own_to (T' := T4) (mkF m 131 #[iv p0, .val (.long p1), .second, iv 0, iv dsub, rv aS, .val (.long (8388607 : Int64)), .second, .val (.long (2139095040 : Int64)), .second, .val (.long (8388608 : Int64)), .second, .val (.long bits1), .second, .unset, .unset, .unset, .unset, .unset, .unset, .unset] [(.long (8388608 : Int64)), (.long bits1)]) (fun _ k => XS.lload X4.here hx rfl (hb hby at_129) rfl k) ?_
        refine own_to (T' := T4) (mkF m 132 #[iv p0, .val (.long p1), .second, iv 0, iv dsub, rv aS, .val (.long (8388607 : Int64)), .second, .val (.long (2139095040 : Int64)), .second, .val (.long (8388608 : Int64)), .second, .val (.long bits1), .second, .unset, .unset, .unset, .unset, .unset, .unset, .unset] [(.long (bits1 ^^^ (8388608 : Int64)))]) (fun _ k => XS.lxor X4.here hx rfl (hb hby at_131) rfl k) ?_
        refine own_to (T' := T4) (mkF m 134 #[iv p0, .val (.long p1), .second, iv 0, iv dsub, rv aS, .val (.long (8388607 : Int64)), .second, .val (.long (2139095040 : Int64)), .second, .val (.long (8388608 : Int64)), .second, .val (.long (bits1 ^^^ (8388608 : Int64))), .second, .unset, .unset, .unset, .unset, .unset, .unset, .unset] []) (fun _ k => XS.lstore X4.here hx rfl (hb hby at_132) rfl (l' := #[iv p0, .val (.long p1), .second, iv 0, iv dsub, rv aS, .val (.long (8388607 : Int64)), .second, .val (.long (2139095040 : Int64)), .second, .val (.long (8388608 : Int64)), .second, .val (.long (bits1 ^^^ (8388608 : Int64))), .second, .unset, .unset, .unset, .unset, .unset, .unset, .unset]) rfl k) ?_
        exact jn6 (bits1 ^^^ (8388608 : Int64)) (fun _ => rfl) (fun q => absurd hfin q)
      · refine own_to (T' := T4) (mkF m 134 #[iv p0, .val (.long p1), .second, iv 0, iv dsub, rv aS, .val (.long (8388607 : Int64)), .second, .val (.long (2139095040 : Int64)), .second, .val (.long (8388608 : Int64)), .second, .val (.long bits1), .second, .unset, .unset, .unset, .unset, .unset, .unset, .unset] []) (fun _ k => XS.ifYes X4.here hx rfl (pc0 := 124) (pc' := 134) rfl (hb hby at_124) rfl ((if0 _ _).trans (feq hfin).2) (by decide) (by decide) k) ?_
        exact jn6 bits1 (fun q => absurd q hfin) (fun _ => rfl)
    intro bits2 hbits2t hbits2f
    refine own_to (T' := T4) (mkF m 136 #[iv p0, .val (.long p1), .second, iv 0, iv dsub, rv aS, .val (.long (8388607 : Int64)), .second, .val (.long (2139095040 : Int64)), .second, .val (.long (8388608 : Int64)), .second, .val (.long bits2), .second, .unset, .unset, .unset, .unset, .unset, .unset, .unset] [(.ref aS)]) (fun _ k => XS.aload X4.here hx rfl (hb hby at_134) rfl rfl k) ?_
    refine own_to (T' := T4) (mkF m 138 #[iv p0, .val (.long p1), .second, iv 0, iv dsub, rv aS, .val (.long (8388607 : Int64)), .second, .val (.long (2139095040 : Int64)), .second, .val (.long (8388608 : Int64)), .second, .val (.long bits2), .second, .unset, .unset, .unset, .unset, .unset, .unset, .unset] [(.long bits2), (.ref aS)]) (fun _ k => XS.lload X4.here hx rfl (hb hby at_136) rfl k) ?_
    have EE : Exa Z h0 aS "ballast/number/BinaryFormat" := EaS.ext OL.2
    obtain ⟨cq7, kq7, q7a, q7b, q7c⟩ := isOf hZ e4 EE
    obtain ⟨_, _, ⟨T7, L7, k7, n7⟩, -, X7, ⟨Lc7, hQ7, l7, y7, z7⟩, st7⟩ := X4.virtualBack hx (y := (⟨"ballast/number/BinaryFormat", "significand", "(J)J"⟩ : MethodName)) (z := (⟨"ballast/number/BinaryFormat", "significand", "(J)J"⟩ : MethodName)) hown (mvT hZ (hw _ (List.mem_of_getElem? (i := 7) rfl))) (mvT hZ (hw _ (List.mem_of_getElem? (i := 8) rfl))) (notFace_of_selects (args := #[]) (mvT hZ (hw _ (List.mem_of_getElem? (i := 10) rfl)))) (mvT hZ (hw _ (List.mem_of_getElem? (i := 10) rfl))) (mvT hZ (hw _ (List.mem_of_getElem? (i := 9) rfl))) (by decide) (backOf (W := 0) (own_rm1 l Z a0 hw [] aS bits2 (24 : Int32) (2139095040 : Int64) h0 n0 (Nat.le_trans Z0 KP.1) OL (PaS.ext OL.2) (IaS.ext OL.2)) hZ (hw _ (List.mem_of_getElem? (i := 11) rfl)) (hw _ (List.mem_of_getElem? (i := 1) rfl)) (by decide) (by decide)) q7a q7c (g := (mkF m 138 #[iv p0, .val (.long p1), .second, iv 0, iv dsub, rv aS, .val (.long (8388607 : Int64)), .second, .val (.long (2139095040 : Int64)), .second, .val (.long (8388608 : Int64)), .second, .val (.long bits2), .second, .unset, .unset, .unset, .unset, .unset, .unset, .unset] [(.long bits2), (.ref aS)])) rfl (by rw [hml]; rfl) (Steps.refl _) (argsL := [(.long bits2)]) (rest := []) (lenOf own_pd0 rfl) rfl (by show 2 * 0 + _ ≤ _; exact Nat.le_of_eq rfl) (hb hby at_138) (fun _ _ => ⟨rfl, e4, (by decide : 0 + 0 ≤ _), (by decide : 0 + 0 ≤ _)⟩)
    dsimp only [Pt.U, Pt.locs, Pt.cells, Pt.slots] at X7 l7 y7 z7 st7 hQ7
    subst l7 y7 z7
    obtain ⟨m7, rfl, hm7, N7q, e7⟩ := hQ7
    have N7 := Fr.app N0 N7q
    refine own_via (mkF m 141 #[iv p0, .val (.long p1), .second, iv 0, iv dsub, rv aS, .val (.long (8388607 : Int64)), .second, .val (.long (2139095040 : Int64)), .second, .val (.long (8388608 : Int64)), .second, .val (.long bits2), .second, .unset, .unset, .unset, .unset, .unset, .unset, .unset] [(.long m7)]) st7 ?_
    refine own_to (T' := T7) (mkF m 143 #[iv p0, .val (.long p1), .second, iv 0, iv dsub, rv aS, .val (.long (8388607 : Int64)), .second, .val (.long (2139095040 : Int64)), .second, .val (.long (8388608 : Int64)), .second, .val (.long bits2), .second, .val (.long m7), .second, .unset, .unset, .unset, .unset, .unset] []) (fun _ k => XS.lstore X7.here hx rfl (hb hby at_141) rfl (l' := #[iv p0, .val (.long p1), .second, iv 0, iv dsub, rv aS, .val (.long (8388607 : Int64)), .second, .val (.long (2139095040 : Int64)), .second, .val (.long (8388608 : Int64)), .second, .val (.long bits2), .second, .val (.long m7), .second, .unset, .unset, .unset, .unset, .unset]) rfl k) ?_
    refine own_to (T' := T7) (mkF m 144 #[iv p0, .val (.long p1), .second, iv 0, iv dsub, rv aS, .val (.long (8388607 : Int64)), .second, .val (.long (2139095040 : Int64)), .second, .val (.long (8388608 : Int64)), .second, .val (.long bits2), .second, .val (.long m7), .second, .unset, .unset, .unset, .unset, .unset] [(.int (0 : Int32))]) (fun _ k => XS.iloadN X7.here hx rfl (hb hby at_143) rfl k) ?_
    refine own_to (T' := T7) (mkF m 160 #[iv p0, .val (.long p1), .second, iv 0, iv dsub, rv aS, .val (.long (8388607 : Int64)), .second, .val (.long (2139095040 : Int64)), .second, .val (.long (8388608 : Int64)), .second, .val (.long bits2), .second, .val (.long m7), .second, .unset, .unset, .unset, .unset, .unset] []) (fun _ k => XS.ifYes X7.here hx rfl (pc0 := 144) (pc' := 160) rfl (hb hby at_144) rfl ((if0 _ _).trans (teq (by decide : (0 : Int32) = (0 : Int32))).1) (by decide) (by decide) k) ?_
    refine own_to (T' := T7) (mkF m 162 #[iv p0, .val (.long p1), .second, iv 0, iv dsub, rv aS, .val (.long (8388607 : Int64)), .second, .val (.long (2139095040 : Int64)), .second, .val (.long (8388608 : Int64)), .second, .val (.long bits2), .second, .val (.long m7), .second, .unset, .unset, .unset, .unset, .unset] [(.long bits2)]) (fun _ k => XS.lload X7.here hx rfl (hb hby at_160) rfl k) ?_
    refine own_to (T' := T7) (mkF m 164 #[iv p0, .val (.long p1), .second, iv 0, iv dsub, rv aS, .val (.long (8388607 : Int64)), .second, .val (.long (2139095040 : Int64)), .second, .val (.long (8388608 : Int64)), .second, .val (.long bits2), .second, .val (.long m7), .second, .unset, .unset, .unset, .unset, .unset] [(.int (23 : Int32)), (.long bits2)]) (fun _ k => XS.bipush X7.here hx rfl (hb hby at_162) k) ?_
    refine own_to (T' := T7) (mkF m 165 #[iv p0, .val (.long p1), .second, iv 0, iv dsub, rv aS, .val (.long (8388607 : Int64)), .second, .val (.long (2139095040 : Int64)), .second, .val (.long (8388608 : Int64)), .second, .val (.long bits2), .second, .val (.long m7), .second, .unset, .unset, .unset, .unset, .unset] [(.long ((bits2.toUInt64 >>> ((23 : Int32) &&& 0x3f).toInt64.toUInt64).toInt64))]) (fun _ k => XS.lushr X7.here hx rfl (hb hby at_164) rfl k) ?_
    refine own_to (mkF m 168 #[iv p0, .val (.long p1), .second, iv 0, iv dsub, rv aS, .val (.long (8388607 : Int64)), .second, .val (.long (2139095040 : Int64)), .second, .val (.long (8388608 : Int64)), .second, .val (.long bits2), .second, .val (.long m7), .second, .unset, .unset, .unset, .unset, .unset] [(.long (255 : Int64)), (.long ((bits2.toUInt64 >>> ((23 : Int32) &&& 0x3f).toInt64.toUInt64).toInt64))]) (X7.ldc2Long hx hown (mvT hZ (hw _ (List.mem_of_getElem? (i := 16) rfl))) (g := (mkF m 165 #[iv p0, .val (.long p1), .second, iv 0, iv dsub, rv aS, .val (.long (8388607 : Int64)), .second, .val (.long (2139095040 : Int64)), .second, .val (.long (8388608 : Int64)), .second, .val (.long bits2), .second, .val (.long m7), .second, .unset, .unset, .unset, .unset, .unset] [(.long ((bits2.toUInt64 >>> ((23 : Int32) &&& 0x3f).toInt64.toUInt64).toInt64))])) rfl (hb hby at_165)) ?_
    refine own_to (T' := T7) (mkF m 169 #[iv p0, .val (.long p1), .second, iv 0, iv dsub, rv aS, .val (.long (8388607 : Int64)), .second, .val (.long (2139095040 : Int64)), .second, .val (.long (8388608 : Int64)), .second, .val (.long bits2), .second, .val (.long m7), .second, .unset, .unset, .unset, .unset, .unset] [(.long (((bits2.toUInt64 >>> ((23 : Int32) &&& 0x3f).toInt64.toUInt64).toInt64) &&& (255 : Int64)))]) (fun _ k => XS.land X7.here hx rfl (hb hby at_168) rfl k) ?_
    refine own_to (T' := T7) (mkF m 170 #[iv p0, .val (.long p1), .second, iv 0, iv dsub, rv aS, .val (.long (8388607 : Int64)), .second, .val (.long (2139095040 : Int64)), .second, .val (.long (8388608 : Int64)), .second, .val (.long bits2), .second, .val (.long m7), .second, .unset, .unset, .unset, .unset, .unset] [(.int ((((bits2.toUInt64 >>> ((23 : Int32) &&& 0x3f).toInt64.toUInt64).toInt64) &&& (255 : Int64)).toInt32))]) (fun _ k => XS.l2i X7.here hx rfl (hb hby at_169) rfl k) ?_
    refine own_to (T' := T7) (mkF m 172 #[iv p0, .val (.long p1), .second, iv 0, iv dsub, rv aS, .val (.long (8388607 : Int64)), .second, .val (.long (2139095040 : Int64)), .second, .val (.long (8388608 : Int64)), .second, .val (.long bits2), .second, .val (.long m7), .second, iv ((((bits2.toUInt64 >>> ((23 : Int32) &&& 0x3f).toInt64.toUInt64).toInt64) &&& (255 : Int64)).toInt32), .unset, .unset, .unset, .unset] []) (fun _ k => XS.istore X7.here hx rfl (hb hby at_170) rfl (l' := #[iv p0, .val (.long p1), .second, iv 0, iv dsub, rv aS, .val (.long (8388607 : Int64)), .second, .val (.long (2139095040 : Int64)), .second, .val (.long (8388608 : Int64)), .second, .val (.long bits2), .second, .val (.long m7), .second, iv ((((bits2.toUInt64 >>> ((23 : Int32) &&& 0x3f).toInt64.toUInt64).toInt64) &&& (255 : Int64)).toInt32), .unset, .unset, .unset, .unset]) rfl k) ?_
    refine own_to (T' := T7) (mkF m 174 #[iv p0, .val (.long p1), .second, iv 0, iv dsub, rv aS, .val (.long (8388607 : Int64)), .second, .val (.long (2139095040 : Int64)), .second, .val (.long (8388608 : Int64)), .second, .val (.long bits2), .second, .val (.long m7), .second, iv ((((bits2.toUInt64 >>> ((23 : Int32) &&& 0x3f).toInt64.toUInt64).toInt64) &&& (255 : Int64)).toInt32), .unset, .unset, .unset, .unset] [(.long bits2)]) (fun _ k => XS.lload X7.here hx rfl (hb hby at_172) rfl k) ?_
    refine own_to (T' := T7) (mkF m 176 #[iv p0, .val (.long p1), .second, iv 0, iv dsub, rv aS, .val (.long (8388607 : Int64)), .second, .val (.long (2139095040 : Int64)), .second, .val (.long (8388608 : Int64)), .second, .val (.long bits2), .second, .val (.long m7), .second, iv ((((bits2.toUInt64 >>> ((23 : Int32) &&& 0x3f).toInt64.toUInt64).toInt64) &&& (255 : Int64)).toInt32), .unset, .unset, .unset, .unset] [(.long (8388607 : Int64)), (.long bits2)]) (fun _ k => XS.lload X7.here hx rfl (hb hby at_174) rfl k) ?_
    refine own_to (T' := T7) (mkF m 177 #[iv p0, .val (.long p1), .second, iv 0, iv dsub, rv aS, .val (.long (8388607 : Int64)), .second, .val (.long (2139095040 : Int64)), .second, .val (.long (8388608 : Int64)), .second, .val (.long bits2), .second, .val (.long m7), .second, iv ((((bits2.toUInt64 >>> ((23 : Int32) &&& 0x3f).toInt64.toUInt64).toInt64) &&& (255 : Int64)).toInt32), .unset, .unset, .unset, .unset] [(.long (bits2 &&& (8388607 : Int64)))]) (fun _ k => XS.land X7.here hx rfl (hb hby at_176) rfl k) ?_
    refine own_to (T' := T7) (mkF m 179 #[iv p0, .val (.long p1), .second, iv 0, iv dsub, rv aS, .val (.long (8388607 : Int64)), .second, .val (.long (2139095040 : Int64)), .second, .val (.long (8388608 : Int64)), .second, .val (.long bits2), .second, .val (.long m7), .second, iv ((((bits2.toUInt64 >>> ((23 : Int32) &&& 0x3f).toInt64.toUInt64).toInt64) &&& (255 : Int64)).toInt32), .val (.long (bits2 &&& (8388607 : Int64))), .second, .unset, .unset] []) (fun _ k => XS.lstore X7.here hx rfl (hb hby at_177) rfl (l' := #[iv p0, .val (.long p1), .second, iv 0, iv dsub, rv aS, .val (.long (8388607 : Int64)), .second, .val (.long (2139095040 : Int64)), .second, .val (.long (8388608 : Int64)), .second, .val (.long bits2), .second, .val (.long m7), .second, iv ((((bits2.toUInt64 >>> ((23 : Int32) &&& 0x3f).toInt64.toUInt64).toInt64) &&& (255 : Int64)).toInt32), .val (.long (bits2 &&& (8388607 : Int64))), .second, .unset, .unset]) rfl k) ?_
    refine own_to (T' := T7) (mkF m 181 #[iv p0, .val (.long p1), .second, iv 0, iv dsub, rv aS, .val (.long (8388607 : Int64)), .second, .val (.long (2139095040 : Int64)), .second, .val (.long (8388608 : Int64)), .second, .val (.long bits2), .second, .val (.long m7), .second, iv ((((bits2.toUInt64 >>> ((23 : Int32) &&& 0x3f).toInt64.toUInt64).toInt64) &&& (255 : Int64)).toInt32), .val (.long (bits2 &&& (8388607 : Int64))), .second, .unset, .unset] [(.int ((((bits2.toUInt64 >>> ((23 : Int32) &&& 0x3f).toInt64.toUInt64).toInt64) &&& (255 : Int64)).toInt32))]) (fun _ k => XS.iload X7.here hx rfl (hb hby at_179) rfl k) ?_
    suffices jn8 : ∀ ex : Int64, (((((bits2.toUInt64 >>> ((23 : Int32) &&& 0x3f).toInt64.toUInt64).toInt64) &&& (255 : Int64)).toInt32) = (0 : Int32) → ex = (bits2 &&& (8388607 : Int64))) → (¬ ((((bits2.toUInt64 >>> ((23 : Int32) &&& 0x3f).toInt64.toUInt64).toInt64) &&& (255 : Int64)).toInt32) = (0 : Int32) → ex = ((8388608 : Int64) + (bits2 &&& (8388607 : Int64)))) → own_E p e below (own_Fin s (own_Q0 Z p0 p1 aS aD h0 n0) room_1.cells room_1.slots) T7 (mkF m 194 #[iv p0, .val (.long p1), .second, iv 0, iv dsub, rv aS, .val (.long (8388607 : Int64)), .second, .val (.long (2139095040 : Int64)), .second, .val (.long (8388608 : Int64)), .second, .val (.long bits2), .second, .val (.long m7), .second, iv ((((bits2.toUInt64 >>> ((23 : Int32) &&& 0x3f).toInt64.toUInt64).toInt64) &&& (255 : Int64)).toInt32), .val (.long (bits2 &&& (8388607 : Int64))), .second, .unset, .unset] [(.long ex)]) from by
      by_cases hfe : ((((bits2.toUInt64 >>> ((23 : Int32) &&& 0x3f).toInt64.toUInt64).toInt64) &&& (255 : Int64)).toInt32) = (0 : Int32)
      · refine own_to (T' := T7) (mkF m 184 #[iv p0, .val (.long p1), .second, iv 0, iv dsub, rv aS, .val (.long (8388607 : Int64)), .second, .val (.long (2139095040 : Int64)), .second, .val (.long (8388608 : Int64)), .second, .val (.long bits2), .second, .val (.long m7), .second, iv ((((bits2.toUInt64 >>> ((23 : Int32) &&& 0x3f).toInt64.toUInt64).toInt64) &&& (255 : Int64)).toInt32), .val (.long (bits2 &&& (8388607 : Int64))), .second, .unset, .unset] []) (fun _ k => XS.ifNo X7.here hx rfl (hb hby at_181) rfl ((if0 _ _).trans (teq hfe).2) k) ?_
        refine own_to (T' := T7) (mkF m 186 #[iv p0, .val (.long p1), .second, iv 0, iv dsub, rv aS, .val (.long (8388607 : Int64)), .second, .val (.long (2139095040 : Int64)), .second, .val (.long (8388608 : Int64)), .second, .val (.long bits2), .second, .val (.long m7), .second, iv ((((bits2.toUInt64 >>> ((23 : Int32) &&& 0x3f).toInt64.toUInt64).toInt64) &&& (255 : Int64)).toInt32), .val (.long (bits2 &&& (8388607 : Int64))), .second, .unset, .unset] [(.long (bits2 &&& (8388607 : Int64)))]) (fun _ k => XS.lload X7.here hx rfl (hb hby at_184) rfl k) ?_
        refine own_to (T' := T7) (mkF m 194 #[iv p0, .val (.long p1), .second, iv 0, iv dsub, rv aS, .val (.long (8388607 : Int64)), .second, .val (.long (2139095040 : Int64)), .second, .val (.long (8388608 : Int64)), .second, .val (.long bits2), .second, .val (.long m7), .second, iv ((((bits2.toUInt64 >>> ((23 : Int32) &&& 0x3f).toInt64.toUInt64).toInt64) &&& (255 : Int64)).toInt32), .val (.long (bits2 &&& (8388607 : Int64))), .second, .unset, .unset] [(.long (bits2 &&& (8388607 : Int64)))]) (fun _ k => XS.goto X7.here hx rfl (pc0 := 186) (pc' := 194) rfl (hb hby at_186) (by decide) (by decide) k) ?_
        exact jn8 (bits2 &&& (8388607 : Int64)) (fun _ => rfl) (fun q => absurd hfe q)
      · refine own_to (T' := T7) (mkF m 189 #[iv p0, .val (.long p1), .second, iv 0, iv dsub, rv aS, .val (.long (8388607 : Int64)), .second, .val (.long (2139095040 : Int64)), .second, .val (.long (8388608 : Int64)), .second, .val (.long bits2), .second, .val (.long m7), .second, iv ((((bits2.toUInt64 >>> ((23 : Int32) &&& 0x3f).toInt64.toUInt64).toInt64) &&& (255 : Int64)).toInt32), .val (.long (bits2 &&& (8388607 : Int64))), .second, .unset, .unset] []) (fun _ k => XS.ifYes X7.here hx rfl (pc0 := 181) (pc' := 189) rfl (hb hby at_181) rfl ((if0 _ _).trans (feq hfe).2) (by decide) (by decide) k) ?_
        refine own_to (T' := T7) (mkF m 191 #[iv p0, .val (.long p1), .second, iv 0, iv dsub, rv aS, .val (.long (8388607 : Int64)), .second, .val (.long (2139095040 : Int64)), .second, .val (.long (8388608 : Int64)), .second, .val (.long bits2), .second, .val (.long m7), .second, iv ((((bits2.toUInt64 >>> ((23 : Int32) &&& 0x3f).toInt64.toUInt64).toInt64) &&& (255 : Int64)).toInt32), .val (.long (bits2 &&& (8388607 : Int64))), .second, .unset, .unset] [(.long (8388608 : Int64))]) (fun _ k => XS.lload X7.here hx rfl (hb hby at_189) rfl k) ?_
        refine own_to (T' := T7) (mkF m 193 #[iv p0, .val (.long p1), .second, iv 0, iv dsub, rv aS, .val (.long (8388607 : Int64)), .second, .val (.long (2139095040 : Int64)), .second, .val (.long (8388608 : Int64)), .second, .val (.long bits2), .second, .val (.long m7), .second, iv ((((bits2.toUInt64 >>> ((23 : Int32) &&& 0x3f).toInt64.toUInt64).toInt64) &&& (255 : Int64)).toInt32), .val (.long (bits2 &&& (8388607 : Int64))), .second, .unset, .unset] [(.long (bits2 &&& (8388607 : Int64))), (.long (8388608 : Int64))]) (fun _ k => XS.lload X7.here hx rfl (hb hby at_191) rfl k) ?_
        refine own_to (T' := T7) (mkF m 194 #[iv p0, .val (.long p1), .second, iv 0, iv dsub, rv aS, .val (.long (8388607 : Int64)), .second, .val (.long (2139095040 : Int64)), .second, .val (.long (8388608 : Int64)), .second, .val (.long bits2), .second, .val (.long m7), .second, iv ((((bits2.toUInt64 >>> ((23 : Int32) &&& 0x3f).toInt64.toUInt64).toInt64) &&& (255 : Int64)).toInt32), .val (.long (bits2 &&& (8388607 : Int64))), .second, .unset, .unset] [(.long ((8388608 : Int64) + (bits2 &&& (8388607 : Int64))))]) (fun _ k => XS.ladd X7.here hx rfl (hb hby at_193) rfl k) ?_
        exact jn8 ((8388608 : Int64) + (bits2 &&& (8388607 : Int64))) (fun q => absurd q hfe) (fun _ => rfl)
    intro ex hext hexf
    refine own_to (T' := T7) (mkF m 196 #[iv p0, .val (.long p1), .second, iv 0, iv dsub, rv aS, .val (.long (8388607 : Int64)), .second, .val (.long (2139095040 : Int64)), .second, .val (.long (8388608 : Int64)), .second, .val (.long bits2), .second, .val (.long m7), .second, iv ((((bits2.toUInt64 >>> ((23 : Int32) &&& 0x3f).toInt64.toUInt64).toInt64) &&& (255 : Int64)).toInt32), .val (.long (bits2 &&& (8388607 : Int64))), .second, .val (.long ex), .second] []) (fun _ k => XS.lstore X7.here hx rfl (hb hby at_194) rfl (l' := #[iv p0, .val (.long p1), .second, iv 0, iv dsub, rv aS, .val (.long (8388607 : Int64)), .second, .val (.long (2139095040 : Int64)), .second, .val (.long (8388608 : Int64)), .second, .val (.long bits2), .second, .val (.long m7), .second, iv ((((bits2.toUInt64 >>> ((23 : Int32) &&& 0x3f).toInt64.toUInt64).toInt64) &&& (255 : Int64)).toInt32), .val (.long (bits2 &&& (8388607 : Int64))), .second, .val (.long ex), .second]) rfl k) ?_
    refine own_to (T' := T7) (mkF m 198 #[iv p0, .val (.long p1), .second, iv 0, iv dsub, rv aS, .val (.long (8388607 : Int64)), .second, .val (.long (2139095040 : Int64)), .second, .val (.long (8388608 : Int64)), .second, .val (.long bits2), .second, .val (.long m7), .second, iv ((((bits2.toUInt64 >>> ((23 : Int32) &&& 0x3f).toInt64.toUInt64).toInt64) &&& (255 : Int64)).toInt32), .val (.long (bits2 &&& (8388607 : Int64))), .second, .val (.long ex), .second] [(.long m7)]) (fun _ k => XS.lload X7.here hx rfl (hb hby at_196) rfl k) ?_
    refine own_to (T' := T7) (mkF m 200 #[iv p0, .val (.long p1), .second, iv 0, iv dsub, rv aS, .val (.long (8388607 : Int64)), .second, .val (.long (2139095040 : Int64)), .second, .val (.long (8388608 : Int64)), .second, .val (.long bits2), .second, .val (.long m7), .second, iv ((((bits2.toUInt64 >>> ((23 : Int32) &&& 0x3f).toInt64.toUInt64).toInt64) &&& (255 : Int64)).toInt32), .val (.long (bits2 &&& (8388607 : Int64))), .second, .val (.long ex), .second] [(.long ex), (.long m7)]) (fun _ k => XS.lload X7.here hx rfl (hb hby at_198) rfl k) ?_
    refine own_to (T' := T7) (mkF m 201 #[iv p0, .val (.long p1), .second, iv 0, iv dsub, rv aS, .val (.long (8388607 : Int64)), .second, .val (.long (2139095040 : Int64)), .second, .val (.long (8388608 : Int64)), .second, .val (.long bits2), .second, .val (.long m7), .second, iv ((((bits2.toUInt64 >>> ((23 : Int32) &&& 0x3f).toInt64.toUInt64).toInt64) &&& (255 : Int64)).toInt32), .val (.long (bits2 &&& (8388607 : Int64))), .second, .val (.long ex), .second] [(.int (lcmpW m7 ex))]) (fun _ k => XS.lcmp X7.here hx rfl (hb hby at_200) rfl k) ?_
    refine own_to (T' := T7) (mkF m 204 #[iv p0, .val (.long p1), .second, iv 0, iv dsub, rv aS, .val (.long (8388607 : Int64)), .second, .val (.long (2139095040 : Int64)), .second, .val (.long (8388608 : Int64)), .second, .val (.long bits2), .second, .val (.long m7), .second, iv ((((bits2.toUInt64 >>> ((23 : Int32) &&& 0x3f).toInt64.toUInt64).toInt64) &&& (255 : Int64)).toInt32), .val (.long (bits2 &&& (8388607 : Int64))), .second, .val (.long ex), .second] []) (fun _ k => XS.ifNo X7.here hx rfl (hb hby at_201) rfl ((if0 _ _).trans (teq ((lw_eq _ _).mpr (own_single bits2 m7 ex hm7 hext hexf))).2) k) ?_
    refine own_to (T' := T7) (mkF m 205 #[iv p0, .val (.long p1), .second, iv 0, iv dsub, rv aS, .val (.long (8388607 : Int64)), .second, .val (.long (2139095040 : Int64)), .second, .val (.long (8388608 : Int64)), .second, .val (.long bits2), .second, .val (.long m7), .second, iv ((((bits2.toUInt64 >>> ((23 : Int32) &&& 0x3f).toInt64.toUInt64).toInt64) &&& (255 : Int64)).toInt32), .val (.long (bits2 &&& (8388607 : Int64))), .second, .val (.long ex), .second] [(.int (1 : Int32))]) (fun _ k => XS.iconst X7.here hx rfl (hb hby at_204) k) ?_
    refine own_to (T' := T7) (mkF m 209 #[iv p0, .val (.long p1), .second, iv 0, iv dsub, rv aS, .val (.long (8388607 : Int64)), .second, .val (.long (2139095040 : Int64)), .second, .val (.long (8388608 : Int64)), .second, .val (.long bits2), .second, .val (.long m7), .second, iv ((((bits2.toUInt64 >>> ((23 : Int32) &&& 0x3f).toInt64.toUInt64).toInt64) &&& (255 : Int64)).toInt32), .val (.long (bits2 &&& (8388607 : Int64))), .second, .val (.long ex), .second] [(.int (1 : Int32))]) (fun _ k => XS.goto X7.here hx rfl (pc0 := 205) (pc' := 209) rfl (hb hby at_205) (by decide) (by decide) k) ?_
    exact own_retN X7 hx (t := .boolean) Bd.returns (by simp) hlk (hb hby at_209) (by decide) (by decide) (by rw [e7]; exact ⟨rfl, N7⟩)
  · refine own_to (T' := s₁) (mkF m 6 #[iv p0, .val (.long p1), .second, .unset, .unset, .unset, .unset, .unset, .unset, .unset, .unset, .unset, .unset, .unset, .unset, .unset, .unset, .unset, .unset, .unset, .unset] []) (fun _ k => XS.ifNo X0.here hx rfl (hb hby at_3) rfl ((if0 _ _).trans (feq hd).1) k) ?_
    refine own_to (T' := s₁) (mkF m 7 #[iv p0, .val (.long p1), .second, .unset, .unset, .unset, .unset, .unset, .unset, .unset, .unset, .unset, .unset, .unset, .unset, .unset, .unset, .unset, .unset, .unset, .unset] [(.int (1 : Int32))]) (fun _ k => XS.iconst X0.here hx rfl (hb hby at_6) k) ?_
    refine own_to (T' := s₁) (mkF m 11 #[iv p0, .val (.long p1), .second, .unset, .unset, .unset, .unset, .unset, .unset, .unset, .unset, .unset, .unset, .unset, .unset, .unset, .unset, .unset, .unset, .unset, .unset] [(.int (1 : Int32))]) (fun _ k => XS.goto X0.here hx rfl (pc0 := 7) (pc' := 11) rfl (hb hby at_7) (by decide) (by decide) k) ?_
    refine own_to (T' := s₁) (mkF m 12 #[iv p0, .val (.long p1), .second, iv 1, .unset, .unset, .unset, .unset, .unset, .unset, .unset, .unset, .unset, .unset, .unset, .unset, .unset, .unset, .unset, .unset, .unset] []) (fun _ k => XS.istoreN X0.here hx rfl (hb hby at_11) rfl (l' := #[iv p0, .val (.long p1), .second, iv 1, .unset, .unset, .unset, .unset, .unset, .unset, .unset, .unset, .unset, .unset, .unset, .unset, .unset, .unset, .unset, .unset, .unset]) rfl k) ?_
    refine own_to (T' := s₁) (mkF m 13 #[iv p0, .val (.long p1), .second, iv 1, .unset, .unset, .unset, .unset, .unset, .unset, .unset, .unset, .unset, .unset, .unset, .unset, .unset, .unset, .unset, .unset, .unset] [(.int p0)]) (fun _ k => XS.iloadN X0.here hx rfl (hb hby at_12) rfl k) ?_
    refine own_to (T' := s₁) (mkF m 14 #[iv p0, .val (.long p1), .second, iv 1, .unset, .unset, .unset, .unset, .unset, .unset, .unset, .unset, .unset, .unset, .unset, .unset, .unset, .unset, .unset, .unset, .unset] [(.int (2 : Int32)), (.int p0)]) (fun _ k => XS.iconst X0.here hx rfl (hb hby at_13) k) ?_
    refine own_to (T' := s₁) (mkF m 15 #[iv p0, .val (.long p1), .second, iv 1, .unset, .unset, .unset, .unset, .unset, .unset, .unset, .unset, .unset, .unset, .unset, .unset, .unset, .unset, .unset, .unset, .unset] [(.int (p0 &&& (2 : Int32)))]) (fun _ k => XS.iand X0.here hx rfl (hb hby at_14) rfl k) ?_
    suffices jn9 : ∀ dsub : Int32, ((p0 &&& (2 : Int32)) = (0 : Int32) → dsub = (0 : Int32)) → (¬ (p0 &&& (2 : Int32)) = (0 : Int32) → dsub = (1 : Int32)) → own_E p e below (own_Fin s (own_Q0 Z p0 p1 aS aD h0 n0) room_1.cells room_1.slots) s₁ (mkF m 23 #[iv p0, .val (.long p1), .second, iv 1, .unset, .unset, .unset, .unset, .unset, .unset, .unset, .unset, .unset, .unset, .unset, .unset, .unset, .unset, .unset, .unset, .unset] [(.int dsub)]) from by
      by_cases hsub : (p0 &&& (2 : Int32)) = (0 : Int32)
      · refine own_to (T' := s₁) (mkF m 22 #[iv p0, .val (.long p1), .second, iv 1, .unset, .unset, .unset, .unset, .unset, .unset, .unset, .unset, .unset, .unset, .unset, .unset, .unset, .unset, .unset, .unset, .unset] []) (fun _ k => XS.ifYes X0.here hx rfl (pc0 := 15) (pc' := 22) rfl (hb hby at_15) rfl ((if0 _ _).trans (teq hsub).1) (by decide) (by decide) k) ?_
        refine own_to (T' := s₁) (mkF m 23 #[iv p0, .val (.long p1), .second, iv 1, .unset, .unset, .unset, .unset, .unset, .unset, .unset, .unset, .unset, .unset, .unset, .unset, .unset, .unset, .unset, .unset, .unset] [(.int (0 : Int32))]) (fun _ k => XS.iconst X0.here hx rfl (hb hby at_22) k) ?_
        exact jn9 (0 : Int32) (fun _ => rfl) (fun q => absurd hsub q)
      · refine own_to (T' := s₁) (mkF m 18 #[iv p0, .val (.long p1), .second, iv 1, .unset, .unset, .unset, .unset, .unset, .unset, .unset, .unset, .unset, .unset, .unset, .unset, .unset, .unset, .unset, .unset, .unset] []) (fun _ k => XS.ifNo X0.here hx rfl (hb hby at_15) rfl ((if0 _ _).trans (feq hsub).1) k) ?_
        refine own_to (T' := s₁) (mkF m 19 #[iv p0, .val (.long p1), .second, iv 1, .unset, .unset, .unset, .unset, .unset, .unset, .unset, .unset, .unset, .unset, .unset, .unset, .unset, .unset, .unset, .unset, .unset] [(.int (1 : Int32))]) (fun _ k => XS.iconst X0.here hx rfl (hb hby at_18) k) ?_
        refine own_to (T' := s₁) (mkF m 23 #[iv p0, .val (.long p1), .second, iv 1, .unset, .unset, .unset, .unset, .unset, .unset, .unset, .unset, .unset, .unset, .unset, .unset, .unset, .unset, .unset, .unset, .unset] [(.int (1 : Int32))]) (fun _ k => XS.goto X0.here hx rfl (pc0 := 19) (pc' := 23) rfl (hb hby at_19) (by decide) (by decide) k) ?_
        exact jn9 (1 : Int32) (fun q => absurd q hsub) (fun _ => rfl)
    intro dsub hdsubt hdsubf
    refine own_to (T' := s₁) (mkF m 25 #[iv p0, .val (.long p1), .second, iv 1, iv dsub, .unset, .unset, .unset, .unset, .unset, .unset, .unset, .unset, .unset, .unset, .unset, .unset, .unset, .unset, .unset, .unset] []) (fun _ k => XS.istore X0.here hx rfl (hb hby at_23) rfl (l' := #[iv p0, .val (.long p1), .second, iv 1, iv dsub, .unset, .unset, .unset, .unset, .unset, .unset, .unset, .unset, .unset, .unset, .unset, .unset, .unset, .unset, .unset, .unset]) rfl k) ?_
    refine own_to (T' := s₁) (mkF m 26 #[iv p0, .val (.long p1), .second, iv 1, iv dsub, .unset, .unset, .unset, .unset, .unset, .unset, .unset, .unset, .unset, .unset, .unset, .unset, .unset, .unset, .unset, .unset] [(.int (1 : Int32))]) (fun _ k => XS.iloadN X0.here hx rfl (hb hby at_25) rfl k) ?_
    refine own_to (T' := s₁) (mkF m 29 #[iv p0, .val (.long p1), .second, iv 1, iv dsub, .unset, .unset, .unset, .unset, .unset, .unset, .unset, .unset, .unset, .unset, .unset, .unset, .unset, .unset, .unset, .unset] []) (fun _ k => XS.ifNo X0.here hx rfl (hb hby at_26) rfl ((if0 _ _).trans (feq (by decide : ¬ ((1 : Int32) = (0 : Int32)))).1) k) ?_
    obtain ⟨T10, X10, e10, st10⟩ := getS2 X0 hx hZ hown (host := "") (Or.inl (hw _ (List.mem_of_getElem? (i := 17) rfl))) Via.refl e0 (SD.ext OL.2) (g := (mkF m 29 #[iv p0, .val (.long p1), .second, iv 1, iv dsub, .unset, .unset, .unset, .unset, .unset, .unset, .unset, .unset, .unset, .unset, .unset, .unset, .unset, .unset, .unset, .unset] [])) rfl (hb hby at_29)
    refine own_to (mkF m 32 #[iv p0, .val (.long p1), .second, iv 1, iv dsub, .unset, .unset, .unset, .unset, .unset, .unset, .unset, .unset, .unset, .unset, .unset, .unset, .unset, .unset, .unset, .unset] [(.ref aD)]) st10 ?_
    refine own_to (T' := T10) (mkF m 38 #[iv p0, .val (.long p1), .second, iv 1, iv dsub, .unset, .unset, .unset, .unset, .unset, .unset, .unset, .unset, .unset, .unset, .unset, .unset, .unset, .unset, .unset, .unset] [(.ref aD)]) (fun _ k => XS.goto X10.here hx rfl (pc0 := 32) (pc' := 38) rfl (hb hby at_32) (by decide) (by decide) k) ?_
    refine own_to (T' := T10) (mkF m 40 #[iv p0, .val (.long p1), .second, iv 1, iv dsub, rv aD, .unset, .unset, .unset, .unset, .unset, .unset, .unset, .unset, .unset, .unset, .unset, .unset, .unset, .unset, .unset] []) (fun _ k => XS.astore X10.here hx rfl (hb hby at_38) rfl rfl (l' := #[iv p0, .val (.long p1), .second, iv 1, iv dsub, rv aD, .unset, .unset, .unset, .unset, .unset, .unset, .unset, .unset, .unset, .unset, .unset, .unset, .unset, .unset, .unset]) rfl k) ?_
    refine own_to (T' := T10) (mkF m 41 #[iv p0, .val (.long p1), .second, iv 1, iv dsub, rv aD, .unset, .unset, .unset, .unset, .unset, .unset, .unset, .unset, .unset, .unset, .unset, .unset, .unset, .unset, .unset] [(.int (1 : Int32))]) (fun _ k => XS.iloadN X10.here hx rfl (hb hby at_40) rfl k) ?_
    refine own_to (T' := T10) (mkF m 44 #[iv p0, .val (.long p1), .second, iv 1, iv dsub, rv aD, .unset, .unset, .unset, .unset, .unset, .unset, .unset, .unset, .unset, .unset, .unset, .unset, .unset, .unset, .unset] []) (fun _ k => XS.ifNo X10.here hx rfl (hb hby at_41) rfl ((if0 _ _).trans (feq (by decide : ¬ ((1 : Int32) = (0 : Int32)))).1) k) ?_
    refine own_to (mkF m 47 #[iv p0, .val (.long p1), .second, iv 1, iv dsub, rv aD, .unset, .unset, .unset, .unset, .unset, .unset, .unset, .unset, .unset, .unset, .unset, .unset, .unset, .unset, .unset] [(.long (4503599627370495 : Int64))]) (X10.ldc2Long hx hown (mvT hZ (hw _ (List.mem_of_getElem? (i := 19) rfl))) (g := (mkF m 44 #[iv p0, .val (.long p1), .second, iv 1, iv dsub, rv aD, .unset, .unset, .unset, .unset, .unset, .unset, .unset, .unset, .unset, .unset, .unset, .unset, .unset, .unset, .unset] [])) rfl (hb hby at_44)) ?_
    refine own_to (T' := T10) (mkF m 53 #[iv p0, .val (.long p1), .second, iv 1, iv dsub, rv aD, .unset, .unset, .unset, .unset, .unset, .unset, .unset, .unset, .unset, .unset, .unset, .unset, .unset, .unset, .unset] [(.long (4503599627370495 : Int64))]) (fun _ k => XS.goto X10.here hx rfl (pc0 := 47) (pc' := 53) rfl (hb hby at_47) (by decide) (by decide) k) ?_
    refine own_to (T' := T10) (mkF m 55 #[iv p0, .val (.long p1), .second, iv 1, iv dsub, rv aD, .val (.long (4503599627370495 : Int64)), .second, .unset, .unset, .unset, .unset, .unset, .unset, .unset, .unset, .unset, .unset, .unset, .unset, .unset] []) (fun _ k => XS.lstore X10.here hx rfl (hb hby at_53) rfl (l' := #[iv p0, .val (.long p1), .second, iv 1, iv dsub, rv aD, .val (.long (4503599627370495 : Int64)), .second, .unset, .unset, .unset, .unset, .unset, .unset, .unset, .unset, .unset, .unset, .unset, .unset, .unset]) rfl k) ?_
    refine own_to (T' := T10) (mkF m 56 #[iv p0, .val (.long p1), .second, iv 1, iv dsub, rv aD, .val (.long (4503599627370495 : Int64)), .second, .unset, .unset, .unset, .unset, .unset, .unset, .unset, .unset, .unset, .unset, .unset, .unset, .unset] [(.int (1 : Int32))]) (fun _ k => XS.iloadN X10.here hx rfl (hb hby at_55) rfl k) ?_
    refine own_to (T' := T10) (mkF m 59 #[iv p0, .val (.long p1), .second, iv 1, iv dsub, rv aD, .val (.long (4503599627370495 : Int64)), .second, .unset, .unset, .unset, .unset, .unset, .unset, .unset, .unset, .unset, .unset, .unset, .unset, .unset] []) (fun _ k => XS.ifNo X10.here hx rfl (hb hby at_56) rfl ((if0 _ _).trans (feq (by decide : ¬ ((1 : Int32) = (0 : Int32)))).1) k) ?_
    refine own_to (mkF m 62 #[iv p0, .val (.long p1), .second, iv 1, iv dsub, rv aD, .val (.long (4503599627370495 : Int64)), .second, .unset, .unset, .unset, .unset, .unset, .unset, .unset, .unset, .unset, .unset, .unset, .unset, .unset] [(.long (9218868437227405312 : Int64))]) (X10.ldc2Long hx hown (mvT hZ (hw _ (List.mem_of_getElem? (i := 20) rfl))) (g := (mkF m 59 #[iv p0, .val (.long p1), .second, iv 1, iv dsub, rv aD, .val (.long (4503599627370495 : Int64)), .second, .unset, .unset, .unset, .unset, .unset, .unset, .unset, .unset, .unset, .unset, .unset, .unset, .unset] [])) rfl (hb hby at_59)) ?_
    refine own_to (T' := T10) (mkF m 68 #[iv p0, .val (.long p1), .second, iv 1, iv dsub, rv aD, .val (.long (4503599627370495 : Int64)), .second, .unset, .unset, .unset, .unset, .unset, .unset, .unset, .unset, .unset, .unset, .unset, .unset, .unset] [(.long (9218868437227405312 : Int64))]) (fun _ k => XS.goto X10.here hx rfl (pc0 := 62) (pc' := 68) rfl (hb hby at_62) (by decide) (by decide) k) ?_
    refine own_to (T' := T10) (mkF m 70 #[iv p0, .val (.long p1), .second, iv 1, iv dsub, rv aD, .val (.long (4503599627370495 : Int64)), .second, .val (.long (9218868437227405312 : Int64)), .second, .unset, .unset, .unset, .unset, .unset, .unset, .unset, .unset, .unset, .unset, .unset] []) (fun _ k => XS.lstore X10.here hx rfl (hb hby at_68) rfl (l' := #[iv p0, .val (.long p1), .second, iv 1, iv dsub, rv aD, .val (.long (4503599627370495 : Int64)), .second, .val (.long (9218868437227405312 : Int64)), .second, .unset, .unset, .unset, .unset, .unset, .unset, .unset, .unset, .unset, .unset, .unset]) rfl k) ?_
    refine own_to (T' := T10) (mkF m 71 #[iv p0, .val (.long p1), .second, iv 1, iv dsub, rv aD, .val (.long (4503599627370495 : Int64)), .second, .val (.long (9218868437227405312 : Int64)), .second, .unset, .unset, .unset, .unset, .unset, .unset, .unset, .unset, .unset, .unset, .unset] [(.int (1 : Int32))]) (fun _ k => XS.iloadN X10.here hx rfl (hb hby at_70) rfl k) ?_
    refine own_to (T' := T10) (mkF m 74 #[iv p0, .val (.long p1), .second, iv 1, iv dsub, rv aD, .val (.long (4503599627370495 : Int64)), .second, .val (.long (9218868437227405312 : Int64)), .second, .unset, .unset, .unset, .unset, .unset, .unset, .unset, .unset, .unset, .unset, .unset] []) (fun _ k => XS.ifNo X10.here hx rfl (hb hby at_71) rfl ((if0 _ _).trans (feq (by decide : ¬ ((1 : Int32) = (0 : Int32)))).1) k) ?_
    refine own_to (mkF m 77 #[iv p0, .val (.long p1), .second, iv 1, iv dsub, rv aD, .val (.long (4503599627370495 : Int64)), .second, .val (.long (9218868437227405312 : Int64)), .second, .unset, .unset, .unset, .unset, .unset, .unset, .unset, .unset, .unset, .unset, .unset] [(.long (4503599627370496 : Int64))]) (X10.ldc2Long hx hown (mvT hZ (hw _ (List.mem_of_getElem? (i := 21) rfl))) (g := (mkF m 74 #[iv p0, .val (.long p1), .second, iv 1, iv dsub, rv aD, .val (.long (4503599627370495 : Int64)), .second, .val (.long (9218868437227405312 : Int64)), .second, .unset, .unset, .unset, .unset, .unset, .unset, .unset, .unset, .unset, .unset, .unset] [])) rfl (hb hby at_74)) ?_
    refine own_to (T' := T10) (mkF m 83 #[iv p0, .val (.long p1), .second, iv 1, iv dsub, rv aD, .val (.long (4503599627370495 : Int64)), .second, .val (.long (9218868437227405312 : Int64)), .second, .unset, .unset, .unset, .unset, .unset, .unset, .unset, .unset, .unset, .unset, .unset] [(.long (4503599627370496 : Int64))]) (fun _ k => XS.goto X10.here hx rfl (pc0 := 77) (pc' := 83) rfl (hb hby at_77) (by decide) (by decide) k) ?_
    refine own_to (T' := T10) (mkF m 85 #[iv p0, .val (.long p1), .second, iv 1, iv dsub, rv aD, .val (.long (4503599627370495 : Int64)), .second, .val (.long (9218868437227405312 : Int64)), .second, .val (.long (4503599627370496 : Int64)), .second, .unset, .unset, .unset, .unset, .unset, .unset, .unset, .unset, .unset] []) (fun _ k => XS.lstore X10.here hx rfl (hb hby at_83) rfl (l' := #[iv p0, .val (.long p1), .second, iv 1, iv dsub, rv aD, .val (.long (4503599627370495 : Int64)), .second, .val (.long (9218868437227405312 : Int64)), .second, .val (.long (4503599627370496 : Int64)), .second, .unset, .unset, .unset, .unset, .unset, .unset, .unset, .unset, .unset]) rfl k) ?_
    refine own_to (T' := T10) (mkF m 86 #[iv p0, .val (.long p1), .second, iv 1, iv dsub, rv aD, .val (.long (4503599627370495 : Int64)), .second, .val (.long (9218868437227405312 : Int64)), .second, .val (.long (4503599627370496 : Int64)), .second, .unset, .unset, .unset, .unset, .unset, .unset, .unset, .unset, .unset] [(.int (1 : Int32))]) (fun _ k => XS.iloadN X10.here hx rfl (hb hby at_85) rfl k) ?_
    refine own_to (T' := T10) (mkF m 89 #[iv p0, .val (.long p1), .second, iv 1, iv dsub, rv aD, .val (.long (4503599627370495 : Int64)), .second, .val (.long (9218868437227405312 : Int64)), .second, .val (.long (4503599627370496 : Int64)), .second, .unset, .unset, .unset, .unset, .unset, .unset, .unset, .unset, .unset] []) (fun _ k => XS.ifNo X10.here hx rfl (hb hby at_86) rfl ((if0 _ _).trans (feq (by decide : ¬ ((1 : Int32) = (0 : Int32)))).1) k) ?_
    refine own_to (T' := T10) (mkF m 90 #[iv p0, .val (.long p1), .second, iv 1, iv dsub, rv aD, .val (.long (4503599627370495 : Int64)), .second, .val (.long (9218868437227405312 : Int64)), .second, .val (.long (4503599627370496 : Int64)), .second, .unset, .unset, .unset, .unset, .unset, .unset, .unset, .unset, .unset] [(.long p1)]) (fun _ k => XS.lloadN X10.here hx rfl (hb hby at_89) rfl k) ?_
    refine own_to (T' := T10) (mkF m 98 #[iv p0, .val (.long p1), .second, iv 1, iv dsub, rv aD, .val (.long (4503599627370495 : Int64)), .second, .val (.long (9218868437227405312 : Int64)), .second, .val (.long (4503599627370496 : Int64)), .second, .unset, .unset, .unset, .unset, .unset, .unset, .unset, .unset, .unset] [(.long p1)]) (fun _ k => XS.goto X10.here hx rfl (pc0 := 90) (pc' := 98) rfl (hb hby at_90) (by decide) (by decide) k) ?_
    refine own_to (T' := T10) (mkF m 100 #[iv p0, .val (.long p1), .second, iv 1, iv dsub, rv aD, .val (.long (4503599627370495 : Int64)), .second, .val (.long (9218868437227405312 : Int64)), .second, .val (.long (4503599627370496 : Int64)), .second, .val (.long p1), .second, .unset, .unset, .unset, .unset, .unset, .unset, .unset] []) (fun _ k => XS.lstore X10.here hx rfl (hb hby at_98) rfl (l' := #[iv p0, .val (.long p1), .second, iv 1, iv dsub, rv aD, .val (.long (4503599627370495 : Int64)), .second, .val (.long (9218868437227405312 : Int64)), .second, .val (.long (4503599627370496 : Int64)), .second, .val (.long p1), .second, .unset, .unset, .unset, .unset, .unset, .unset, .unset]) rfl k) ?_
    refine own_to (T' := T10) (mkF m 102 #[iv p0, .val (.long p1), .second, iv 1, iv dsub, rv aD, .val (.long (4503599627370495 : Int64)), .second, .val (.long (9218868437227405312 : Int64)), .second, .val (.long (4503599627370496 : Int64)), .second, .val (.long p1), .second, .unset, .unset, .unset, .unset, .unset, .unset, .unset] [(.int dsub)]) (fun _ k => XS.iload X10.here hx rfl (hb hby at_100) rfl k) ?_
    suffices jn11 : ∀ bits1 : Int64, (dsub = (0 : Int32) → bits1 = p1) → (¬ (dsub = (0 : Int32)) → bits1 = (p1 &&& ((9218868437227405312 : Int64) ^^^ (-1 : Int64)))) → own_E p e below (own_Fin s (own_Q0 Z p0 p1 aS aD h0 n0) room_1.cells room_1.slots) T10 (mkF m 116 #[iv p0, .val (.long p1), .second, iv 1, iv dsub, rv aD, .val (.long (4503599627370495 : Int64)), .second, .val (.long (9218868437227405312 : Int64)), .second, .val (.long (4503599627370496 : Int64)), .second, .val (.long bits1), .second, .unset, .unset, .unset, .unset, .unset, .unset, .unset] []) from by
      by_cases hsub2 : dsub = (0 : Int32)
      · refine own_to (T' := T10) (mkF m 116 #[iv p0, .val (.long p1), .second, iv 1, iv dsub, rv aD, .val (.long (4503599627370495 : Int64)), .second, .val (.long (9218868437227405312 : Int64)), .second, .val (.long (4503599627370496 : Int64)), .second, .val (.long p1), .second, .unset, .unset, .unset, .unset, .unset, .unset, .unset] []) (fun _ k => XS.ifYes X10.here hx rfl (pc0 := 102) (pc' := 116) rfl (hb hby at_102) rfl ((if0 _ _).trans (teq hsub2).1) (by decide) (by decide) k) ?_
        exact jn11 p1 (fun _ => rfl) (fun q => absurd hsub2 q)
      · refine own_to (T' := T10) (mkF m 105 #[iv p0, .val (.long p1), .second, iv 1, iv dsub, rv aD, .val (.long (4503599627370495 : Int64)), .second, .val (.long (9218868437227405312 : Int64)), .second, .val (.long (4503599627370496 : Int64)), .second, .val (.long p1), .second, .unset, .unset, .unset, .unset, .unset, .unset, .unset] []) (fun _ k => XS.ifNo X10.here hx rfl (hb hby at_102) rfl ((if0 _ _).trans (feq hsub2).1) k) ?_
        refine own_to (T' := T10) (mkF m 107 #[iv p0, .val (.long p1), .second, iv 1, iv dsub, rv aD, .val (.long (4503599627370495 : Int64)), .second, .val (.long (9218868437227405312 : Int64)), .second, .val (.long (4503599627370496 : Int64)), .second, .val (.long p1), .second, .unset, .unset, .unset, .unset, .unset, .unset, .unset] [(.long p1)]) (fun _ k => XS.lload X10.here hx rfl (hb hby at_105) rfl k) ?_
        refine own_to (T' := T10) (mkF m 109 #[iv p0, .val (.long p1), .second, iv 1, iv dsub, rv aD, .val (.long (4503599627370495 : Int64)), .second, .val (.long (9218868437227405312 : Int64)), .second, .val (.long (4503599627370496 : Int64)), .second, .val (.long p1), .second, .unset, .unset, .unset, .unset, .unset, .unset, .unset] [(.long (9218868437227405312 : Int64)), (.long p1)]) (fun _ k => XS.lload X10.here hx rfl (hb hby at_107) rfl k) ?_
        refine own_to (mkF m 112 #[iv p0, .val (.long p1), .second, iv 1, iv dsub, rv aD, .val (.long (4503599627370495 : Int64)), .second, .val (.long (9218868437227405312 : Int64)), .second, .val (.long (4503599627370496 : Int64)), .second, .val (.long p1), .second, .unset, .unset, .unset, .unset, .unset, .unset, .unset] [(.long (-1 : Int64)), (.long (9218868437227405312 : Int64)), (.long p1)]) (X10.ldc2Long hx hown (mvT hZ (hw _ (List.mem_of_getElem? (i := 23) rfl))) (g := (mkF m 109 #[iv p0, .val (.long p1), .second, iv 1, iv dsub, rv aD, .val (.long (4503599627370495 : Int64)), .second, .val (.long (9218868437227405312 : Int64)), .second, .val (.long (4503599627370496 : Int64)), .second, .val (.long p1), .second, .unset, .unset, .unset, .unset, .unset, .unset, .unset] [(.long (9218868437227405312 : Int64)), (.long p1)])) rfl (hb hby at_109)) ?_
        refine own_to (T' := T10) (mkF m 113 #[iv p0, .val (.long p1), .second, iv 1, iv dsub, rv aD, .val (.long (4503599627370495 : Int64)), .second, .val (.long (9218868437227405312 : Int64)), .second, .val (.long (4503599627370496 : Int64)), .second, .val (.long p1), .second, .unset, .unset, .unset, .unset, .unset, .unset, .unset] [(.long ((9218868437227405312 : Int64) ^^^ (-1 : Int64))), (.long p1)]) (fun _ k => XS.lxor X10.here hx rfl (hb hby at_112) rfl k) ?_
        refine own_to (T' := T10) (mkF m 114 #[iv p0, .val (.long p1), .second, iv 1, iv dsub, rv aD, .val (.long (4503599627370495 : Int64)), .second, .val (.long (9218868437227405312 : Int64)), .second, .val (.long (4503599627370496 : Int64)), .second, .val (.long p1), .second, .unset, .unset, .unset, .unset, .unset, .unset, .unset] [(.long (p1 &&& ((9218868437227405312 : Int64) ^^^ (-1 : Int64))))]) (fun _ k => XS.land X10.here hx rfl (hb hby at_113) rfl k) ?_
        refine own_to (T' := T10) (mkF m 116 #[iv p0, .val (.long p1), .second, iv 1, iv dsub, rv aD, .val (.long (4503599627370495 : Int64)), .second, .val (.long (9218868437227405312 : Int64)), .second, .val (.long (4503599627370496 : Int64)), .second, .val (.long (p1 &&& ((9218868437227405312 : Int64) ^^^ (-1 : Int64)))), .second, .unset, .unset, .unset, .unset, .unset, .unset, .unset] []) (fun _ k => XS.lstore X10.here hx rfl (hb hby at_114) rfl (l' := #[iv p0, .val (.long p1), .second, iv 1, iv dsub, rv aD, .val (.long (4503599627370495 : Int64)), .second, .val (.long (9218868437227405312 : Int64)), .second, .val (.long (4503599627370496 : Int64)), .second, .val (.long (p1 &&& ((9218868437227405312 : Int64) ^^^ (-1 : Int64)))), .second, .unset, .unset, .unset, .unset, .unset, .unset, .unset]) rfl k) ?_
        exact jn11 (p1 &&& ((9218868437227405312 : Int64) ^^^ (-1 : Int64))) (fun q => absurd q hsub2) (fun _ => rfl)
    intro bits1 hbits1t hbits1f
    refine own_to (T' := T10) (mkF m 118 #[iv p0, .val (.long p1), .second, iv 1, iv dsub, rv aD, .val (.long (4503599627370495 : Int64)), .second, .val (.long (9218868437227405312 : Int64)), .second, .val (.long (4503599627370496 : Int64)), .second, .val (.long bits1), .second, .unset, .unset, .unset, .unset, .unset, .unset, .unset] [(.long bits1)]) (fun _ k => XS.lload X10.here hx rfl (hb hby at_116) rfl k) ?_
    refine own_to (T' := T10) (mkF m 120 #[iv p0, .val (.long p1), .second, iv 1, iv dsub, rv aD, .val (.long (4503599627370495 : Int64)), .second, .val (.long (9218868437227405312 : Int64)), .second, .val (.long (4503599627370496 : Int64)), .second, .val (.long bits1), .second, .unset, .unset, .unset, .unset, .unset, .unset, .unset] [(.long (9218868437227405312 : Int64)), (.long bits1)]) (fun _ k => XS.lload X10.here hx rfl (hb hby at_118) rfl k) ?_
    refine own_to (T' := T10) (mkF m 121 #[iv p0, .val (.long p1), .second, iv 1, iv dsub, rv aD, .val (.long (4503599627370495 : Int64)), .second, .val (.long (9218868437227405312 : Int64)), .second, .val (.long (4503599627370496 : Int64)), .second, .val (.long bits1), .second, .unset, .unset, .unset, .unset, .unset, .unset, .unset] [(.long (bits1 &&& (9218868437227405312 : Int64)))]) (fun _ k => XS.land X10.here hx rfl (hb hby at_120) rfl k) ?_
    refine own_to (T' := T10) (mkF m 123 #[iv p0, .val (.long p1), .second, iv 1, iv dsub, rv aD, .val (.long (4503599627370495 : Int64)), .second, .val (.long (9218868437227405312 : Int64)), .second, .val (.long (4503599627370496 : Int64)), .second, .val (.long bits1), .second, .unset, .unset, .unset, .unset, .unset, .unset, .unset] [(.long (9218868437227405312 : Int64)), (.long (bits1 &&& (9218868437227405312 : Int64)))]) (fun _ k => XS.lload X10.here hx rfl (hb hby at_121) rfl k) ?_
    refine own_to (T' := T10) (mkF m 124 #[iv p0, .val (.long p1), .second, iv 1, iv dsub, rv aD, .val (.long (4503599627370495 : Int64)), .second, .val (.long (9218868437227405312 : Int64)), .second, .val (.long (4503599627370496 : Int64)), .second, .val (.long bits1), .second, .unset, .unset, .unset, .unset, .unset, .unset, .unset] [(.int (lcmpW (bits1 &&& (9218868437227405312 : Int64)) (9218868437227405312 : Int64)))]) (fun _ k => XS.lcmp X10.here hx rfl (hb hby at_123) rfl k) ?_
    suffices jn12 : ∀ bits2 : Int64, ((lcmpW (bits1 &&& (9218868437227405312 : Int64)) (9218868437227405312 : Int64)) = (0 : Int32) → bits2 = (bits1 ^^^ (4503599627370496 : Int64))) → (¬ (lcmpW (bits1 &&& (9218868437227405312 : Int64)) (9218868437227405312 : Int64)) = (0 : Int32) → bits2 = bits1) → own_E p e below (own_Fin s (own_Q0 Z p0 p1 aS aD h0 n0) room_1.cells room_1.slots) T10 (mkF m 134 #[iv p0, .val (.long p1), .second, iv 1, iv dsub, rv aD, .val (.long (4503599627370495 : Int64)), .second, .val (.long (9218868437227405312 : Int64)), .second, .val (.long (4503599627370496 : Int64)), .second, .val (.long bits2), .second, .unset, .unset, .unset, .unset, .unset, .unset, .unset] []) from by
      by_cases hfin : (lcmpW (bits1 &&& (9218868437227405312 : Int64)) (9218868437227405312 : Int64)) = (0 : Int32)
      · refine own_to (T' := T10) (mkF m 127 #[iv p0, .val (.long p1), .second, iv 1, iv dsub, rv aD, .val (.long (4503599627370495 : Int64)), .second, .val (.long (9218868437227405312 : Int64)), .second, .val (.long (4503599627370496 : Int64)), .second, .val (.long bits1), .second, .unset, .unset, .unset, .unset, .unset, .unset, .unset] []) (fun _ k => XS.ifNo X10.here hx rfl (hb hby at_124) rfl ((if0 _ _).trans (teq hfin).2) k) ?_
        refine own_to (T' := T10) (mkF m 129 #[iv p0, .val (.long p1), .second, iv 1, iv dsub, rv aD, .val (.long (4503599627370495 : Int64)), .second, .val (.long (9218868437227405312 : Int64)), .second, .val (.long (4503599627370496 : Int64)), .second, .val (.long bits1), .second, .unset, .unset, .unset, .unset, .unset, .unset, .unset] [(.long bits1)]) (fun _ k => XS.lload X10.here hx rfl (hb hby at_127) rfl k) ?_
        refine own_to (T' := T10) (mkF m 131 #[iv p0, .val (.long p1), .second, iv 1, iv dsub, rv aD, .val (.long (4503599627370495 : Int64)), .second, .val (.long (9218868437227405312 : Int64)), .second, .val (.long (4503599627370496 : Int64)), .second, .val (.long bits1), .second, .unset, .unset, .unset, .unset, .unset, .unset, .unset] [(.long (4503599627370496 : Int64)), (.long bits1)]) (fun _ k => XS.lload X10.here hx rfl (hb hby at_129) rfl k) ?_
        refine own_to (T' := T10) (mkF m 132 #[iv p0, .val (.long p1), .second, iv 1, iv dsub, rv aD, .val (.long (4503599627370495 : Int64)), .second, .val (.long (9218868437227405312 : Int64)), .second, .val (.long (4503599627370496 : Int64)), .second, .val (.long bits1), .second, .unset, .unset, .unset, .unset, .unset, .unset, .unset] [(.long (bits1 ^^^ (4503599627370496 : Int64)))]) (fun _ k => XS.lxor X10.here hx rfl (hb hby at_131) rfl k) ?_
        refine own_to (T' := T10) (mkF m 134 #[iv p0, .val (.long p1), .second, iv 1, iv dsub, rv aD, .val (.long (4503599627370495 : Int64)), .second, .val (.long (9218868437227405312 : Int64)), .second, .val (.long (4503599627370496 : Int64)), .second, .val (.long (bits1 ^^^ (4503599627370496 : Int64))), .second, .unset, .unset, .unset, .unset, .unset, .unset, .unset] []) (fun _ k => XS.lstore X10.here hx rfl (hb hby at_132) rfl (l' := #[iv p0, .val (.long p1), .second, iv 1, iv dsub, rv aD, .val (.long (4503599627370495 : Int64)), .second, .val (.long (9218868437227405312 : Int64)), .second, .val (.long (4503599627370496 : Int64)), .second, .val (.long (bits1 ^^^ (4503599627370496 : Int64))), .second, .unset, .unset, .unset, .unset, .unset, .unset, .unset]) rfl k) ?_
        exact jn12 (bits1 ^^^ (4503599627370496 : Int64)) (fun _ => rfl) (fun q => absurd hfin q)
      · refine own_to (T' := T10) (mkF m 134 #[iv p0, .val (.long p1), .second, iv 1, iv dsub, rv aD, .val (.long (4503599627370495 : Int64)), .second, .val (.long (9218868437227405312 : Int64)), .second, .val (.long (4503599627370496 : Int64)), .second, .val (.long bits1), .second, .unset, .unset, .unset, .unset, .unset, .unset, .unset] []) (fun _ k => XS.ifYes X10.here hx rfl (pc0 := 124) (pc' := 134) rfl (hb hby at_124) rfl ((if0 _ _).trans (feq hfin).2) (by decide) (by decide) k) ?_
        exact jn12 bits1 (fun q => absurd q hfin) (fun _ => rfl)
    intro bits2 hbits2t hbits2f
    refine own_to (T' := T10) (mkF m 136 #[iv p0, .val (.long p1), .second, iv 1, iv dsub, rv aD, .val (.long (4503599627370495 : Int64)), .second, .val (.long (9218868437227405312 : Int64)), .second, .val (.long (4503599627370496 : Int64)), .second, .val (.long bits2), .second, .unset, .unset, .unset, .unset, .unset, .unset, .unset] [(.ref aD)]) (fun _ k => XS.aload X10.here hx rfl (hb hby at_134) rfl rfl k) ?_
    refine own_to (T' := T10) (mkF m 138 #[iv p0, .val (.long p1), .second, iv 1, iv dsub, rv aD, .val (.long (4503599627370495 : Int64)), .second, .val (.long (9218868437227405312 : Int64)), .second, .val (.long (4503599627370496 : Int64)), .second, .val (.long bits2), .second, .unset, .unset, .unset, .unset, .unset, .unset, .unset] [(.long bits2), (.ref aD)]) (fun _ k => XS.lload X10.here hx rfl (hb hby at_136) rfl k) ?_
    have EE : Exa Z h0 aD "ballast/number/BinaryFormat" := EaD.ext OL.2
    obtain ⟨cq13, kq13, q13a, q13b, q13c⟩ := isOf hZ e10 EE
    obtain ⟨_, _, ⟨T13, L13, k13, n13⟩, -, X13, ⟨Lc13, hQ13, l13, y13, z13⟩, st13⟩ := X10.virtualBack hx (y := (⟨"ballast/number/BinaryFormat", "significand", "(J)J"⟩ : MethodName)) (z := (⟨"ballast/number/BinaryFormat", "significand", "(J)J"⟩ : MethodName)) hown (mvT hZ (hw _ (List.mem_of_getElem? (i := 7) rfl))) (mvT hZ (hw _ (List.mem_of_getElem? (i := 8) rfl))) (notFace_of_selects (args := #[]) (mvT hZ (hw _ (List.mem_of_getElem? (i := 10) rfl)))) (mvT hZ (hw _ (List.mem_of_getElem? (i := 10) rfl))) (mvT hZ (hw _ (List.mem_of_getElem? (i := 9) rfl))) (by decide) (backOf (W := 0) (own_rm1 l Z a0 hw [] aD bits2 (53 : Int32) (9218868437227405312 : Int64) h0 n0 (Nat.le_trans Z0 KP.1) OL (PaD.ext OL.2) (IaD.ext OL.2)) hZ (hw _ (List.mem_of_getElem? (i := 11) rfl)) (hw _ (List.mem_of_getElem? (i := 1) rfl)) (by decide) (by decide)) q13a q13c (g := (mkF m 138 #[iv p0, .val (.long p1), .second, iv 1, iv dsub, rv aD, .val (.long (4503599627370495 : Int64)), .second, .val (.long (9218868437227405312 : Int64)), .second, .val (.long (4503599627370496 : Int64)), .second, .val (.long bits2), .second, .unset, .unset, .unset, .unset, .unset, .unset, .unset] [(.long bits2), (.ref aD)])) rfl (by rw [hml]; rfl) (Steps.refl _) (argsL := [(.long bits2)]) (rest := []) (lenOf own_pd0 rfl) rfl (by show 2 * 0 + _ ≤ _; exact Nat.le_of_eq rfl) (hb hby at_138) (fun _ _ => ⟨rfl, e10, (by decide : 0 + 0 ≤ _), (by decide : 0 + 0 ≤ _)⟩)
    dsimp only [Pt.U, Pt.locs, Pt.cells, Pt.slots] at X13 l13 y13 z13 st13 hQ13
    subst l13 y13 z13
    obtain ⟨m13, rfl, hm13, N13q, e13⟩ := hQ13
    have N13 := Fr.app N0 N13q
    refine own_via (mkF m 141 #[iv p0, .val (.long p1), .second, iv 1, iv dsub, rv aD, .val (.long (4503599627370495 : Int64)), .second, .val (.long (9218868437227405312 : Int64)), .second, .val (.long (4503599627370496 : Int64)), .second, .val (.long bits2), .second, .unset, .unset, .unset, .unset, .unset, .unset, .unset] [(.long m13)]) st13 ?_
    refine own_to (T' := T13) (mkF m 143 #[iv p0, .val (.long p1), .second, iv 1, iv dsub, rv aD, .val (.long (4503599627370495 : Int64)), .second, .val (.long (9218868437227405312 : Int64)), .second, .val (.long (4503599627370496 : Int64)), .second, .val (.long bits2), .second, .val (.long m13), .second, .unset, .unset, .unset, .unset, .unset] []) (fun _ k => XS.lstore X13.here hx rfl (hb hby at_141) rfl (l' := #[iv p0, .val (.long p1), .second, iv 1, iv dsub, rv aD, .val (.long (4503599627370495 : Int64)), .second, .val (.long (9218868437227405312 : Int64)), .second, .val (.long (4503599627370496 : Int64)), .second, .val (.long bits2), .second, .val (.long m13), .second, .unset, .unset, .unset, .unset, .unset]) rfl k) ?_
    refine own_to (T' := T13) (mkF m 144 #[iv p0, .val (.long p1), .second, iv 1, iv dsub, rv aD, .val (.long (4503599627370495 : Int64)), .second, .val (.long (9218868437227405312 : Int64)), .second, .val (.long (4503599627370496 : Int64)), .second, .val (.long bits2), .second, .val (.long m13), .second, .unset, .unset, .unset, .unset, .unset] [(.int (1 : Int32))]) (fun _ k => XS.iloadN X13.here hx rfl (hb hby at_143) rfl k) ?_
    refine own_to (T' := T13) (mkF m 147 #[iv p0, .val (.long p1), .second, iv 1, iv dsub, rv aD, .val (.long (4503599627370495 : Int64)), .second, .val (.long (9218868437227405312 : Int64)), .second, .val (.long (4503599627370496 : Int64)), .second, .val (.long bits2), .second, .val (.long m13), .second, .unset, .unset, .unset, .unset, .unset] []) (fun _ k => XS.ifNo X13.here hx rfl (hb hby at_144) rfl ((if0 _ _).trans (feq (by decide : ¬ ((1 : Int32) = (0 : Int32)))).1) k) ?_
    refine own_to (T' := T13) (mkF m 149 #[iv p0, .val (.long p1), .second, iv 1, iv dsub, rv aD, .val (.long (4503599627370495 : Int64)), .second, .val (.long (9218868437227405312 : Int64)), .second, .val (.long (4503599627370496 : Int64)), .second, .val (.long bits2), .second, .val (.long m13), .second, .unset, .unset, .unset, .unset, .unset] [(.long bits2)]) (fun _ k => XS.lload X13.here hx rfl (hb hby at_147) rfl k) ?_
    refine own_to (T' := T13) (mkF m 151 #[iv p0, .val (.long p1), .second, iv 1, iv dsub, rv aD, .val (.long (4503599627370495 : Int64)), .second, .val (.long (9218868437227405312 : Int64)), .second, .val (.long (4503599627370496 : Int64)), .second, .val (.long bits2), .second, .val (.long m13), .second, .unset, .unset, .unset, .unset, .unset] [(.int (52 : Int32)), (.long bits2)]) (fun _ k => XS.bipush X13.here hx rfl (hb hby at_149) k) ?_
    refine own_to (T' := T13) (mkF m 152 #[iv p0, .val (.long p1), .second, iv 1, iv dsub, rv aD, .val (.long (4503599627370495 : Int64)), .second, .val (.long (9218868437227405312 : Int64)), .second, .val (.long (4503599627370496 : Int64)), .second, .val (.long bits2), .second, .val (.long m13), .second, .unset, .unset, .unset, .unset, .unset] [(.long ((bits2.toUInt64 >>> ((52 : Int32) &&& 0x3f).toInt64.toUInt64).toInt64))]) (fun _ k => XS.lushr X13.here hx rfl (hb hby at_151) rfl k) ?_
    refine own_to (mkF m 155 #[iv p0, .val (.long p1), .second, iv 1, iv dsub, rv aD, .val (.long (4503599627370495 : Int64)), .second, .val (.long (9218868437227405312 : Int64)), .second, .val (.long (4503599627370496 : Int64)), .second, .val (.long bits2), .second, .val (.long m13), .second, .unset, .unset, .unset, .unset, .unset] [(.long (2047 : Int64)), (.long ((bits2.toUInt64 >>> ((52 : Int32) &&& 0x3f).toInt64.toUInt64).toInt64))]) (X13.ldc2Long hx hown (mvT hZ (hw _ (List.mem_of_getElem? (i := 22) rfl))) (g := (mkF m 152 #[iv p0, .val (.long p1), .second, iv 1, iv dsub, rv aD, .val (.long (4503599627370495 : Int64)), .second, .val (.long (9218868437227405312 : Int64)), .second, .val (.long (4503599627370496 : Int64)), .second, .val (.long bits2), .second, .val (.long m13), .second, .unset, .unset, .unset, .unset, .unset] [(.long ((bits2.toUInt64 >>> ((52 : Int32) &&& 0x3f).toInt64.toUInt64).toInt64))])) rfl (hb hby at_152)) ?_
    refine own_to (T' := T13) (mkF m 156 #[iv p0, .val (.long p1), .second, iv 1, iv dsub, rv aD, .val (.long (4503599627370495 : Int64)), .second, .val (.long (9218868437227405312 : Int64)), .second, .val (.long (4503599627370496 : Int64)), .second, .val (.long bits2), .second, .val (.long m13), .second, .unset, .unset, .unset, .unset, .unset] [(.long (((bits2.toUInt64 >>> ((52 : Int32) &&& 0x3f).toInt64.toUInt64).toInt64) &&& (2047 : Int64)))]) (fun _ k => XS.land X13.here hx rfl (hb hby at_155) rfl k) ?_
    refine own_to (T' := T13) (mkF m 157 #[iv p0, .val (.long p1), .second, iv 1, iv dsub, rv aD, .val (.long (4503599627370495 : Int64)), .second, .val (.long (9218868437227405312 : Int64)), .second, .val (.long (4503599627370496 : Int64)), .second, .val (.long bits2), .second, .val (.long m13), .second, .unset, .unset, .unset, .unset, .unset] [(.int ((((bits2.toUInt64 >>> ((52 : Int32) &&& 0x3f).toInt64.toUInt64).toInt64) &&& (2047 : Int64)).toInt32))]) (fun _ k => XS.l2i X13.here hx rfl (hb hby at_156) rfl k) ?_
    refine own_to (T' := T13) (mkF m 170 #[iv p0, .val (.long p1), .second, iv 1, iv dsub, rv aD, .val (.long (4503599627370495 : Int64)), .second, .val (.long (9218868437227405312 : Int64)), .second, .val (.long (4503599627370496 : Int64)), .second, .val (.long bits2), .second, .val (.long m13), .second, .unset, .unset, .unset, .unset, .unset] [(.int ((((bits2.toUInt64 >>> ((52 : Int32) &&& 0x3f).toInt64.toUInt64).toInt64) &&& (2047 : Int64)).toInt32))]) (fun _ k => XS.goto X13.here hx rfl (pc0 := 157) (pc' := 170) rfl (hb hby at_157) (by decide) (by decide) k) ?_
    refine own_to (T' := T13) (mkF m 172 #[iv p0, .val (.long p1), .second, iv 1, iv dsub, rv aD, .val (.long (4503599627370495 : Int64)), .second, .val (.long (9218868437227405312 : Int64)), .second, .val (.long (4503599627370496 : Int64)), .second, .val (.long bits2), .second, .val (.long m13), .second, iv ((((bits2.toUInt64 >>> ((52 : Int32) &&& 0x3f).toInt64.toUInt64).toInt64) &&& (2047 : Int64)).toInt32), .unset, .unset, .unset, .unset] []) (fun _ k => XS.istore X13.here hx rfl (hb hby at_170) rfl (l' := #[iv p0, .val (.long p1), .second, iv 1, iv dsub, rv aD, .val (.long (4503599627370495 : Int64)), .second, .val (.long (9218868437227405312 : Int64)), .second, .val (.long (4503599627370496 : Int64)), .second, .val (.long bits2), .second, .val (.long m13), .second, iv ((((bits2.toUInt64 >>> ((52 : Int32) &&& 0x3f).toInt64.toUInt64).toInt64) &&& (2047 : Int64)).toInt32), .unset, .unset, .unset, .unset]) rfl k) ?_
    refine own_to (T' := T13) (mkF m 174 #[iv p0, .val (.long p1), .second, iv 1, iv dsub, rv aD, .val (.long (4503599627370495 : Int64)), .second, .val (.long (9218868437227405312 : Int64)), .second, .val (.long (4503599627370496 : Int64)), .second, .val (.long bits2), .second, .val (.long m13), .second, iv ((((bits2.toUInt64 >>> ((52 : Int32) &&& 0x3f).toInt64.toUInt64).toInt64) &&& (2047 : Int64)).toInt32), .unset, .unset, .unset, .unset] [(.long bits2)]) (fun _ k => XS.lload X13.here hx rfl (hb hby at_172) rfl k) ?_
    refine own_to (T' := T13) (mkF m 176 #[iv p0, .val (.long p1), .second, iv 1, iv dsub, rv aD, .val (.long (4503599627370495 : Int64)), .second, .val (.long (9218868437227405312 : Int64)), .second, .val (.long (4503599627370496 : Int64)), .second, .val (.long bits2), .second, .val (.long m13), .second, iv ((((bits2.toUInt64 >>> ((52 : Int32) &&& 0x3f).toInt64.toUInt64).toInt64) &&& (2047 : Int64)).toInt32), .unset, .unset, .unset, .unset] [(.long (4503599627370495 : Int64)), (.long bits2)]) (fun _ k => XS.lload X13.here hx rfl (hb hby at_174) rfl k) ?_
    refine own_to (T' := T13) (mkF m 177 #[iv p0, .val (.long p1), .second, iv 1, iv dsub, rv aD, .val (.long (4503599627370495 : Int64)), .second, .val (.long (9218868437227405312 : Int64)), .second, .val (.long (4503599627370496 : Int64)), .second, .val (.long bits2), .second, .val (.long m13), .second, iv ((((bits2.toUInt64 >>> ((52 : Int32) &&& 0x3f).toInt64.toUInt64).toInt64) &&& (2047 : Int64)).toInt32), .unset, .unset, .unset, .unset] [(.long (bits2 &&& (4503599627370495 : Int64)))]) (fun _ k => XS.land X13.here hx rfl (hb hby at_176) rfl k) ?_
    refine own_to (T' := T13) (mkF m 179 #[iv p0, .val (.long p1), .second, iv 1, iv dsub, rv aD, .val (.long (4503599627370495 : Int64)), .second, .val (.long (9218868437227405312 : Int64)), .second, .val (.long (4503599627370496 : Int64)), .second, .val (.long bits2), .second, .val (.long m13), .second, iv ((((bits2.toUInt64 >>> ((52 : Int32) &&& 0x3f).toInt64.toUInt64).toInt64) &&& (2047 : Int64)).toInt32), .val (.long (bits2 &&& (4503599627370495 : Int64))), .second, .unset, .unset] []) (fun _ k => XS.lstore X13.here hx rfl (hb hby at_177) rfl (l' := #[iv p0, .val (.long p1), .second, iv 1, iv dsub, rv aD, .val (.long (4503599627370495 : Int64)), .second, .val (.long (9218868437227405312 : Int64)), .second, .val (.long (4503599627370496 : Int64)), .second, .val (.long bits2), .second, .val (.long m13), .second, iv ((((bits2.toUInt64 >>> ((52 : Int32) &&& 0x3f).toInt64.toUInt64).toInt64) &&& (2047 : Int64)).toInt32), .val (.long (bits2 &&& (4503599627370495 : Int64))), .second, .unset, .unset]) rfl k) ?_
    refine own_to (T' := T13) (mkF m 181 #[iv p0, .val (.long p1), .second, iv 1, iv dsub, rv aD, .val (.long (4503599627370495 : Int64)), .second, .val (.long (9218868437227405312 : Int64)), .second, .val (.long (4503599627370496 : Int64)), .second, .val (.long bits2), .second, .val (.long m13), .second, iv ((((bits2.toUInt64 >>> ((52 : Int32) &&& 0x3f).toInt64.toUInt64).toInt64) &&& (2047 : Int64)).toInt32), .val (.long (bits2 &&& (4503599627370495 : Int64))), .second, .unset, .unset] [(.int ((((bits2.toUInt64 >>> ((52 : Int32) &&& 0x3f).toInt64.toUInt64).toInt64) &&& (2047 : Int64)).toInt32))]) (fun _ k => XS.iload X13.here hx rfl (hb hby at_179) rfl k) ?_
    suffices jn14 : ∀ ex : Int64, (((((bits2.toUInt64 >>> ((52 : Int32) &&& 0x3f).toInt64.toUInt64).toInt64) &&& (2047 : Int64)).toInt32) = (0 : Int32) → ex = (bits2 &&& (4503599627370495 : Int64))) → (¬ ((((bits2.toUInt64 >>> ((52 : Int32) &&& 0x3f).toInt64.toUInt64).toInt64) &&& (2047 : Int64)).toInt32) = (0 : Int32) → ex = ((4503599627370496 : Int64) + (bits2 &&& (4503599627370495 : Int64)))) → own_E p e below (own_Fin s (own_Q0 Z p0 p1 aS aD h0 n0) room_1.cells room_1.slots) T13 (mkF m 194 #[iv p0, .val (.long p1), .second, iv 1, iv dsub, rv aD, .val (.long (4503599627370495 : Int64)), .second, .val (.long (9218868437227405312 : Int64)), .second, .val (.long (4503599627370496 : Int64)), .second, .val (.long bits2), .second, .val (.long m13), .second, iv ((((bits2.toUInt64 >>> ((52 : Int32) &&& 0x3f).toInt64.toUInt64).toInt64) &&& (2047 : Int64)).toInt32), .val (.long (bits2 &&& (4503599627370495 : Int64))), .second, .unset, .unset] [(.long ex)]) from by
      by_cases hfe : ((((bits2.toUInt64 >>> ((52 : Int32) &&& 0x3f).toInt64.toUInt64).toInt64) &&& (2047 : Int64)).toInt32) = (0 : Int32)
      · refine own_to (T' := T13) (mkF m 184 #[iv p0, .val (.long p1), .second, iv 1, iv dsub, rv aD, .val (.long (4503599627370495 : Int64)), .second, .val (.long (9218868437227405312 : Int64)), .second, .val (.long (4503599627370496 : Int64)), .second, .val (.long bits2), .second, .val (.long m13), .second, iv ((((bits2.toUInt64 >>> ((52 : Int32) &&& 0x3f).toInt64.toUInt64).toInt64) &&& (2047 : Int64)).toInt32), .val (.long (bits2 &&& (4503599627370495 : Int64))), .second, .unset, .unset] []) (fun _ k => XS.ifNo X13.here hx rfl (hb hby at_181) rfl ((if0 _ _).trans (teq hfe).2) k) ?_
        refine own_to (T' := T13) (mkF m 186 #[iv p0, .val (.long p1), .second, iv 1, iv dsub, rv aD, .val (.long (4503599627370495 : Int64)), .second, .val (.long (9218868437227405312 : Int64)), .second, .val (.long (4503599627370496 : Int64)), .second, .val (.long bits2), .second, .val (.long m13), .second, iv ((((bits2.toUInt64 >>> ((52 : Int32) &&& 0x3f).toInt64.toUInt64).toInt64) &&& (2047 : Int64)).toInt32), .val (.long (bits2 &&& (4503599627370495 : Int64))), .second, .unset, .unset] [(.long (bits2 &&& (4503599627370495 : Int64)))]) (fun _ k => XS.lload X13.here hx rfl (hb hby at_184) rfl k) ?_
        refine own_to (T' := T13) (mkF m 194 #[iv p0, .val (.long p1), .second, iv 1, iv dsub, rv aD, .val (.long (4503599627370495 : Int64)), .second, .val (.long (9218868437227405312 : Int64)), .second, .val (.long (4503599627370496 : Int64)), .second, .val (.long bits2), .second, .val (.long m13), .second, iv ((((bits2.toUInt64 >>> ((52 : Int32) &&& 0x3f).toInt64.toUInt64).toInt64) &&& (2047 : Int64)).toInt32), .val (.long (bits2 &&& (4503599627370495 : Int64))), .second, .unset, .unset] [(.long (bits2 &&& (4503599627370495 : Int64)))]) (fun _ k => XS.goto X13.here hx rfl (pc0 := 186) (pc' := 194) rfl (hb hby at_186) (by decide) (by decide) k) ?_
        exact jn14 (bits2 &&& (4503599627370495 : Int64)) (fun _ => rfl) (fun q => absurd hfe q)
      · refine own_to (T' := T13) (mkF m 189 #[iv p0, .val (.long p1), .second, iv 1, iv dsub, rv aD, .val (.long (4503599627370495 : Int64)), .second, .val (.long (9218868437227405312 : Int64)), .second, .val (.long (4503599627370496 : Int64)), .second, .val (.long bits2), .second, .val (.long m13), .second, iv ((((bits2.toUInt64 >>> ((52 : Int32) &&& 0x3f).toInt64.toUInt64).toInt64) &&& (2047 : Int64)).toInt32), .val (.long (bits2 &&& (4503599627370495 : Int64))), .second, .unset, .unset] []) (fun _ k => XS.ifYes X13.here hx rfl (pc0 := 181) (pc' := 189) rfl (hb hby at_181) rfl ((if0 _ _).trans (feq hfe).2) (by decide) (by decide) k) ?_
        refine own_to (T' := T13) (mkF m 191 #[iv p0, .val (.long p1), .second, iv 1, iv dsub, rv aD, .val (.long (4503599627370495 : Int64)), .second, .val (.long (9218868437227405312 : Int64)), .second, .val (.long (4503599627370496 : Int64)), .second, .val (.long bits2), .second, .val (.long m13), .second, iv ((((bits2.toUInt64 >>> ((52 : Int32) &&& 0x3f).toInt64.toUInt64).toInt64) &&& (2047 : Int64)).toInt32), .val (.long (bits2 &&& (4503599627370495 : Int64))), .second, .unset, .unset] [(.long (4503599627370496 : Int64))]) (fun _ k => XS.lload X13.here hx rfl (hb hby at_189) rfl k) ?_
        refine own_to (T' := T13) (mkF m 193 #[iv p0, .val (.long p1), .second, iv 1, iv dsub, rv aD, .val (.long (4503599627370495 : Int64)), .second, .val (.long (9218868437227405312 : Int64)), .second, .val (.long (4503599627370496 : Int64)), .second, .val (.long bits2), .second, .val (.long m13), .second, iv ((((bits2.toUInt64 >>> ((52 : Int32) &&& 0x3f).toInt64.toUInt64).toInt64) &&& (2047 : Int64)).toInt32), .val (.long (bits2 &&& (4503599627370495 : Int64))), .second, .unset, .unset] [(.long (bits2 &&& (4503599627370495 : Int64))), (.long (4503599627370496 : Int64))]) (fun _ k => XS.lload X13.here hx rfl (hb hby at_191) rfl k) ?_
        refine own_to (T' := T13) (mkF m 194 #[iv p0, .val (.long p1), .second, iv 1, iv dsub, rv aD, .val (.long (4503599627370495 : Int64)), .second, .val (.long (9218868437227405312 : Int64)), .second, .val (.long (4503599627370496 : Int64)), .second, .val (.long bits2), .second, .val (.long m13), .second, iv ((((bits2.toUInt64 >>> ((52 : Int32) &&& 0x3f).toInt64.toUInt64).toInt64) &&& (2047 : Int64)).toInt32), .val (.long (bits2 &&& (4503599627370495 : Int64))), .second, .unset, .unset] [(.long ((4503599627370496 : Int64) + (bits2 &&& (4503599627370495 : Int64))))]) (fun _ k => XS.ladd X13.here hx rfl (hb hby at_193) rfl k) ?_
        exact jn14 ((4503599627370496 : Int64) + (bits2 &&& (4503599627370495 : Int64))) (fun q => absurd q hfe) (fun _ => rfl)
    intro ex hext hexf
    refine own_to (T' := T13) (mkF m 196 #[iv p0, .val (.long p1), .second, iv 1, iv dsub, rv aD, .val (.long (4503599627370495 : Int64)), .second, .val (.long (9218868437227405312 : Int64)), .second, .val (.long (4503599627370496 : Int64)), .second, .val (.long bits2), .second, .val (.long m13), .second, iv ((((bits2.toUInt64 >>> ((52 : Int32) &&& 0x3f).toInt64.toUInt64).toInt64) &&& (2047 : Int64)).toInt32), .val (.long (bits2 &&& (4503599627370495 : Int64))), .second, .val (.long ex), .second] []) (fun _ k => XS.lstore X13.here hx rfl (hb hby at_194) rfl (l' := #[iv p0, .val (.long p1), .second, iv 1, iv dsub, rv aD, .val (.long (4503599627370495 : Int64)), .second, .val (.long (9218868437227405312 : Int64)), .second, .val (.long (4503599627370496 : Int64)), .second, .val (.long bits2), .second, .val (.long m13), .second, iv ((((bits2.toUInt64 >>> ((52 : Int32) &&& 0x3f).toInt64.toUInt64).toInt64) &&& (2047 : Int64)).toInt32), .val (.long (bits2 &&& (4503599627370495 : Int64))), .second, .val (.long ex), .second]) rfl k) ?_
    refine own_to (T' := T13) (mkF m 198 #[iv p0, .val (.long p1), .second, iv 1, iv dsub, rv aD, .val (.long (4503599627370495 : Int64)), .second, .val (.long (9218868437227405312 : Int64)), .second, .val (.long (4503599627370496 : Int64)), .second, .val (.long bits2), .second, .val (.long m13), .second, iv ((((bits2.toUInt64 >>> ((52 : Int32) &&& 0x3f).toInt64.toUInt64).toInt64) &&& (2047 : Int64)).toInt32), .val (.long (bits2 &&& (4503599627370495 : Int64))), .second, .val (.long ex), .second] [(.long m13)]) (fun _ k => XS.lload X13.here hx rfl (hb hby at_196) rfl k) ?_
    refine own_to (T' := T13) (mkF m 200 #[iv p0, .val (.long p1), .second, iv 1, iv dsub, rv aD, .val (.long (4503599627370495 : Int64)), .second, .val (.long (9218868437227405312 : Int64)), .second, .val (.long (4503599627370496 : Int64)), .second, .val (.long bits2), .second, .val (.long m13), .second, iv ((((bits2.toUInt64 >>> ((52 : Int32) &&& 0x3f).toInt64.toUInt64).toInt64) &&& (2047 : Int64)).toInt32), .val (.long (bits2 &&& (4503599627370495 : Int64))), .second, .val (.long ex), .second] [(.long ex), (.long m13)]) (fun _ k => XS.lload X13.here hx rfl (hb hby at_198) rfl k) ?_
    refine own_to (T' := T13) (mkF m 201 #[iv p0, .val (.long p1), .second, iv 1, iv dsub, rv aD, .val (.long (4503599627370495 : Int64)), .second, .val (.long (9218868437227405312 : Int64)), .second, .val (.long (4503599627370496 : Int64)), .second, .val (.long bits2), .second, .val (.long m13), .second, iv ((((bits2.toUInt64 >>> ((52 : Int32) &&& 0x3f).toInt64.toUInt64).toInt64) &&& (2047 : Int64)).toInt32), .val (.long (bits2 &&& (4503599627370495 : Int64))), .second, .val (.long ex), .second] [(.int (lcmpW m13 ex))]) (fun _ k => XS.lcmp X13.here hx rfl (hb hby at_200) rfl k) ?_
    refine own_to (T' := T13) (mkF m 204 #[iv p0, .val (.long p1), .second, iv 1, iv dsub, rv aD, .val (.long (4503599627370495 : Int64)), .second, .val (.long (9218868437227405312 : Int64)), .second, .val (.long (4503599627370496 : Int64)), .second, .val (.long bits2), .second, .val (.long m13), .second, iv ((((bits2.toUInt64 >>> ((52 : Int32) &&& 0x3f).toInt64.toUInt64).toInt64) &&& (2047 : Int64)).toInt32), .val (.long (bits2 &&& (4503599627370495 : Int64))), .second, .val (.long ex), .second] []) (fun _ k => XS.ifNo X13.here hx rfl (hb hby at_201) rfl ((if0 _ _).trans (teq ((lw_eq _ _).mpr (own_double bits2 m13 ex hm13 hext hexf))).2) k) ?_
    refine own_to (T' := T13) (mkF m 205 #[iv p0, .val (.long p1), .second, iv 1, iv dsub, rv aD, .val (.long (4503599627370495 : Int64)), .second, .val (.long (9218868437227405312 : Int64)), .second, .val (.long (4503599627370496 : Int64)), .second, .val (.long bits2), .second, .val (.long m13), .second, iv ((((bits2.toUInt64 >>> ((52 : Int32) &&& 0x3f).toInt64.toUInt64).toInt64) &&& (2047 : Int64)).toInt32), .val (.long (bits2 &&& (4503599627370495 : Int64))), .second, .val (.long ex), .second] [(.int (1 : Int32))]) (fun _ k => XS.iconst X13.here hx rfl (hb hby at_204) k) ?_
    refine own_to (T' := T13) (mkF m 209 #[iv p0, .val (.long p1), .second, iv 1, iv dsub, rv aD, .val (.long (4503599627370495 : Int64)), .second, .val (.long (9218868437227405312 : Int64)), .second, .val (.long (4503599627370496 : Int64)), .second, .val (.long bits2), .second, .val (.long m13), .second, iv ((((bits2.toUInt64 >>> ((52 : Int32) &&& 0x3f).toInt64.toUInt64).toInt64) &&& (2047 : Int64)).toInt32), .val (.long (bits2 &&& (4503599627370495 : Int64))), .second, .val (.long ex), .second] [(.int (1 : Int32))]) (fun _ k => XS.goto X13.here hx rfl (pc0 := 205) (pc' := 209) rfl (hb hby at_205) (by decide) (by decide) k) ?_
    exact own_retN X13 hx (t := .boolean) Bd.returns (by simp) hlk (hb hby at_209) (by decide) (by decide) (by rw [e13]; exact ⟨rfl, N13⟩)
set_option maxRecDepth 65536 in
set_option maxHeartbeats 40000000 in
theorem own_comes {Post : Tables → Env → Array Value → State → Outcome → State → Prop} (hpost : ∀ tb e args s v u, (limb_1_1.after args s (.returned v) u = true ∧ limb_1_2.after args s (.returned v) u = true ∧ True) → FrameEnd s (.returned v) u (Jvm.fieldLocs frame_1_writes args s ++ Jvm.arrayLocs frame_1_arrays args s ++ Jvm.staticLocs frame_1_statics s) 0 0 → Post tb e args s (.returned v) u) :
    ArmFor flags0 classFile x code maxLocals ret World_1 tables_1 room_1 Calls_1 rest_1 Pre_1 Post := by
  intro l hfl _ _ p e ha hc hk s m args below hf hA hF happ hP
  obtain ⟨hcalls, hrest, hpre⟩ := hP
  obtain ⟨-, -, -, hnamed, -, -, -, hat⟩ := (Spec.applies_iff hf).mp happ
  obtain ⟨hg, hn⟩ := and_e (Cond.before_iff.mp (show (Jvm.Cond.and given_1 narrow_1).before args s = true from hpre))
  obtain ⟨hg0, hgr0⟩ := and_e hg
  obtain ⟨hg1, hgr1⟩ := and_e hgr0
  obtain ⟨w0, w1, rfl⟩ : ∃ w0 w1 : Value, args = #[w0, w1] := by
    have hs : args.size = 2 := by simpa [Cond.value, given_1] using hg0
    obtain ⟨L⟩ := args
    match L, hs with
    | [w0, w1], _ => exact ⟨w0, w1, rfl⟩
  have hw := fun d (hd : d ∈ tables_1) => atoms_spec (ws := Jvm.Cond.code x code maxLocals ret :: tables_1) hat d (List.mem_cons_of_mem _ hd)
  have hfit : Fit s := fun {y c} hc i hi => by
    obtain ⟨ha, rfl⟩ := Array.getElem?_eq_some_iff.mp hc
    have q := List.all_eq_true.mp ((Array.all_eq_true_iff_forall_mem.mp hF) _ (Array.getElem_mem ha)) i (List.mem_range.mpr hi)
    simpa [Array.getElem?_eq_getElem hi] using q
  obtain ⟨i0, ei0⟩ := is_v hg1
  obtain rfl : w0 = (.int i0) := Option.some.inj ei0
  obtain ⟨i1, ei1⟩ := isL_v hgr1
  obtain rfl : w1 = (.long i1) := Option.some.inj ei1
  obtain ⟨hx_aS, hr0⟩ := and_e hn
  obtain ⟨hp_aS, hr1⟩ := and_e hr0
  obtain ⟨hi_aS, hr2⟩ := and_e hr1
  obtain ⟨aS, e_aS⟩ := exa_v hx_aS
  have SS : Sta s s.heap "ballast/number/BinaryFormat" "SINGLE" "Lballast/number/BinaryFormat;" (.ref aS) := Sta.start e_aS (Or.inr ⟨(hw _ (List.mem_of_getElem? (i := 1) rfl)), (hw _ (List.mem_of_getElem? (i := 2) rfl))⟩)
  have EaS := Exa.start e_aS hx_aS
  have PaS := own_fldI e_aS hp_aS
  have IaS := own_fldJ e_aS hi_aS
  obtain ⟨hx_aD, hr3⟩ := and_e hr2
  obtain ⟨hp_aD, hr4⟩ := and_e hr3
  have hi_aD := hr4
  obtain ⟨aD, e_aD⟩ := exa_v hx_aD
  have SD : Sta s s.heap "ballast/number/BinaryFormat" "DOUBLE" "Lballast/number/BinaryFormat;" (.ref aD) := Sta.start e_aD (Or.inr ⟨(hw _ (List.mem_of_getElem? (i := 1) rfl)), (hw _ (List.mem_of_getElem? (i := 18) rfl))⟩)
  have EaD := Exa.start e_aD hx_aD
  have PaD := own_fldI e_aD hp_aD
  have IaD := own_fldJ e_aD hi_aD
  obtain ⟨n, o, h1, h2, h3, _, L, rfl, ⟨rfl, N⟩, hq⟩ := own_rm0 l s _ hw tables_1 i0 i1 aS aD s.heap s.heap.size (Nat.le_refl _) (Old.start s) SS SD EaS PaS IaS EaD PaD IaD p e ha hc hk s m _ below hf ((Spec.applies_iff_loose hf).mp happ).1 ⟨rfl, State.Warmed39.refl s, rfl⟩ trivial
  refine ⟨n, _, h1, h2, h3, hpost _ _ _ _ _ _ ⟨Cond.after_iff.mpr rfl, Cond.after_iff.mpr (eq_i res_at (Term.int_eval (1)) rfl), trivial⟩ ⟨hq.1, hq.2.1, (hq.2.2.sift fun y hy => Or.inr (N y hy)).mono (by decide) (by decide)⟩⟩
theorem main_1_1 : Claimed_1_1 := own_comes fun _ _ _ _ _ _ h hF => ⟨h.1, hF⟩
theorem main_1_2 : Claimed_1_2 := own_comes fun _ _ _ _ _ _ h hF => ⟨h.2.1, hF⟩
end Jvm.Pilot.@@N@@
namespace Jvm.Pilot.@@N@@
open Jvm Jvm.ClassFile Sem Op Lib Jvm.Free Jvm.Stand Jvm.Pilot.@@N@@.Jvm.D
/-! MADE BY PROGRAM (witnessworld.py) out of the Statement's table words and the real class files: 12 classes; the members and pool entries that the words name. The judged class is class 1, her method 1. -/
namespace start1
open Jvm.ClassFile
def u (s : String) : CpInfo := .utf8 (stringToUtf16 s)
/-- a pool by its gaps: so many unusable entries, then the entry; so many at the end -/
def gap : Nat → List CpInfo → List CpInfo
  | 0, r => r
  | n + 1, r => .unusable :: gap n r
def poolList (es : List (Nat × CpInfo)) (last : Nat) : List CpInfo := es.foldr (fun e r => gap e.1 (e.2 :: r)) (gap last [])
def pool (es : List (Nat × CpInfo)) (last : Nat) : Array CpInfo := ⟨poolList es last⟩
def fileOf (pool : Array CpInfo) (this : Nat) (attrs : Array Attribute := #[]) (ms : Array MethodInfo := #[]) (fl : Nat := 33) (sup : Nat := 0) (ifs : Array Nat := #[]) (fds : Array FieldInfo := #[]) : ClassFile where
  minorVersion := 0
  majorVersion := 65
  constantPool := pool
  accessFlags := fl
  thisClass := this
  superClass := sup
  interfaces := ifs
  fields := fds
  methods := ms
  attributes := attrs
def plain (name : String) (sup : Option ClassId) : Class where
  name := name
  kind := .ordinary
  loader := none
  accessFlags := 33
  super := sup
  interfaces := #[]
  cf := none
  fields := #[]
  methods := #[]
  instanceTypes := #[]
  staticTypes := #[]
  resolved := #[]
  callSites := []
  init := .initialized
  statics := none
  mirror := none

def pool0 : Array CpInfo := pool [(5, u "<init>"), (0, u "()V"), (1, .class_ 10), (1, u "java/lang/Object")] 113

def k0m0 : Method := { name := "<init>", desc := "()V", sig := { parameters := [], returnType := none }, accessFlags := 1, code := none }
/-- java/lang/Object -/
def k0 : Class := { plain "java/lang/Object" none with
  accessFlags := 33
  interfaces := #[]
  cf := some (fileOf pool0 8 #[] #[{ accessFlags := 1, nameIndex := 5, descriptorIndex := 6, attributes := #[] }] 33 0 #[] #[])
  fields := #[]
  methods := #[k0m0]
  instanceTypes := #[]
  staticTypes := #[]
  resolved := Array.replicate 124 none
  statics := none }

def pool1 : Array CpInfo := pool [(2, .class_ 4), (1, u "java/lang/Object"), (0, u "<init>"), (0, u "()V"), (0, .fieldref 8 9), (0, .class_ 10), (0, .nameAndType 11 12), (0, u "ballast/number/BinaryFormat"), (0, u "DOUBLE"), (0, u "Lballast/number/BinaryFormat;"), (0, .fieldref 8 14), (0, .nameAndType 15 12), (0, u "SINGLE"), (0, .long 4503599627370495), (1, .long 8388607), (1, .long 9218868437227405312), (1, .long 2139095040), (1, .long 4503599627370496), (1, .long 8388608), (1, .long 4294967295), (1, .long 18446744073709551615), (1, .methodref 8 33), (0, .nameAndType 34 35), (0, u "significand"), (0, u "(J)J"), (0, .long 2047), (1, .long 255), (1, .class_ 41), (0, u "ballast/number/BinaryFormatSignificandPinLaw"), (2, u "law"), (0, u "(IJ)Z")] 3

def k1m0 : Method := { name := "<init>", desc := "()V", sig := { parameters := [], returnType := none }, accessFlags := 1, code := none }
def k1c1 : Code := { maxStack := 6, maxLocals := 21, code := code, exceptionTable := #[], attributes := #[] }
def k1m1 : Method := { name := "law", desc := "(IJ)Z", sig := { parameters := [.int, .long], returnType := some .boolean }, accessFlags := 9, code := some k1c1 }
/-- ballast/number/BinaryFormatSignificandPinLaw -/
def k1 : Class := { plain "ballast/number/BinaryFormatSignificandPinLaw" (some 0) with
  accessFlags := 49
  interfaces := #[]
  cf := some (fileOf pool1 40 #[] #[{ accessFlags := 1, nameIndex := 5, descriptorIndex := 6, attributes := #[] }, { accessFlags := 9, nameIndex := 44, descriptorIndex := 45, attributes := #[] }] 49 2 #[] #[])
  fields := #[]
  methods := #[k1m0, k1m1]
  instanceTypes := #[]
  staticTypes := #[]
  resolved := Array.replicate 49 none
  statics := none }

def pool2 : Array CpInfo := pool [(1, .class_ 2), (0, u "java/lang/constant/Constable"), (0, .class_ 4), (0, u "java/lang/Object")] 6

/-- java/lang/constant/Constable -/
def k2 : Class := { plain "java/lang/constant/Constable" (some 0) with
  accessFlags := 1537
  interfaces := #[]
  cf := some (fileOf pool2 1 #[] #[] 1537 3 #[] #[])
  fields := #[]
  methods := #[]
  instanceTypes := #[]
  staticTypes := #[]
  resolved := Array.replicate 11 none
  statics := none }

def pool3 : Array CpInfo := pool [(1, .class_ 2), (0, u "java/lang/Comparable"), (0, .class_ 4), (0, u "java/lang/Object")] 7

/-- java/lang/Comparable -/
def k3 : Class := { plain "java/lang/Comparable" (some 0) with
  accessFlags := 1537
  interfaces := #[]
  cf := some (fileOf pool3 1 #[] #[] 1537 3 #[] #[])
  fields := #[]
  methods := #[]
  instanceTypes := #[]
  staticTypes := #[]
  resolved := Array.replicate 12 none
  statics := none }

def pool4 : Array CpInfo := pool [(1, .class_ 2), (0, u "java/io/Serializable"), (0, .class_ 4), (0, u "java/lang/Object")] 2

/-- java/io/Serializable -/
def k4 : Class := { plain "java/io/Serializable" (some 0) with
  accessFlags := 1537
  interfaces := #[]
  cf := some (fileOf pool4 1 #[] #[] 1537 3 #[] #[])
  fields := #[]
  methods := #[]
  instanceTypes := #[]
  staticTypes := #[]
  resolved := Array.replicate 7 none
  statics := none }

def pool5 : Array CpInfo := pool [(2, .class_ 4), (1, u "java/lang/Enum"), (0, u "name"), (0, u "Ljava/lang/String;"), (2, u "ordinal"), (0, u "I"), (1, .class_ 14), (1, u "java/lang/Object"), (4, u "hash"), (86, .class_ 108), (1, u "java/lang/Enum$EnumDesc"), (2, .class_ 112), (0, u "java/lang/constant/Constable"), (0, .class_ 114), (0, u "java/lang/Comparable"), (0, .class_ 116), (0, u "java/io/Serializable")] 87

/-- java/lang/Enum -/
def k5 : Class := { plain "java/lang/Enum" (some 0) with
  accessFlags := 1057
  interfaces := #[2, 3, 4]
  cf := some (fileOf pool5 2 #[.nestMembers #[106]] #[] 1057 12 #[111, 113, 115] #[{ accessFlags := 18, nameIndex := 5, descriptorIndex := 6, attributes := #[] }, { accessFlags := 18, nameIndex := 9, descriptorIndex := 10, attributes := #[] }, { accessFlags := 2, nameIndex := 19, descriptorIndex := 10, attributes := #[] }])
  fields := #[{ name := "name", type := (.object "java/lang/String"), accessFlags := 18, slot := 0, constantValue := 0 }, { name := "ordinal", type := .int, accessFlags := 18, slot := 1, constantValue := 0 }, { name := "hash", type := .int, accessFlags := 2, slot := 2, constantValue := 0 }]
  methods := #[]
  instanceTypes := #[(.object "java/lang/String"), .int, .int]
  staticTypes := #[]
  resolved := Array.replicate 204 none
  statics := none }

def pool6 : Array CpInfo := pool [(1, .class_ 2), (0, u "ballast/number/BinaryFormat"), (2, u "SINGLE"), (0, u "Lballast/number/BinaryFormat;"), (2, u "DOUBLE"), (2, u "$VALUES"), (0, u "[Lballast/number/BinaryFormat;"), (6, .class_ 22), (1, u "java/lang/Enum"), (6, .fieldref 1 30), (0, .nameAndType 31 32), (0, u "precision"), (0, u "I"), (2, u "maxExponent"), (2, u "minExponent"), (0, .fieldref 1 40), (0, .nameAndType 41 42), (0, u "infinity"), (0, u "J"), (2, u "signBit"), (86, u "significand"), (0, u "(J)J")] 7

def k6c0 : Code := { maxStack := 6, maxLocals := 7, code := prog_12_method_8_code, exceptionTable := #[], attributes := #[] }
def k6m0 : Method := { name := "significand", desc := "(J)J", sig := { parameters := [.long], returnType := some .long }, accessFlags := 0, code := some k6c0 }
/-- ballast/number/BinaryFormat -/
def k6 : Class := { plain "ballast/number/BinaryFormat" (some 5) with
  accessFlags := 16432
  interfaces := #[]
  cf := some (fileOf pool6 1 #[] #[{ accessFlags := 0, nameIndex := 132, descriptorIndex := 133, attributes := #[] }] 16432 20 #[] #[{ accessFlags := 16409, nameIndex := 5, descriptorIndex := 6, attributes := #[] }, { accessFlags := 16409, nameIndex := 9, descriptorIndex := 6, attributes := #[] }, { accessFlags := 18, nameIndex := 31, descriptorIndex := 32, attributes := #[] }, { accessFlags := 18, nameIndex := 38, descriptorIndex := 32, attributes := #[] }, { accessFlags := 18, nameIndex := 35, descriptorIndex := 32, attributes := #[] }, { accessFlags := 18, nameIndex := 41, descriptorIndex := 42, attributes := #[] }, { accessFlags := 18, nameIndex := 45, descriptorIndex := 42, attributes := #[] }, { accessFlags := 4122, nameIndex := 12, descriptorIndex := 13, attributes := #[] }])
  fields := #[{ name := "SINGLE", type := (.object "ballast/number/BinaryFormat"), accessFlags := 16409, slot := 0, constantValue := 0 }, { name := "DOUBLE", type := (.object "ballast/number/BinaryFormat"), accessFlags := 16409, slot := 1, constantValue := 0 }, { name := "precision", type := .int, accessFlags := 18, slot := 3, constantValue := 0 }, { name := "minExponent", type := .int, accessFlags := 18, slot := 4, constantValue := 0 }, { name := "maxExponent", type := .int, accessFlags := 18, slot := 5, constantValue := 0 }, { name := "infinity", type := .long, accessFlags := 18, slot := 6, constantValue := 0 }, { name := "signBit", type := .long, accessFlags := 18, slot := 7, constantValue := 0 }, { name := "$VALUES", type := (.array (.object "ballast/number/BinaryFormat")), accessFlags := 4122, slot := 2, constantValue := 0 }]
  methods := #[k6m0]
  instanceTypes := #[(.object "java/lang/String"), .int, .int, .int, .int, .int, .long, .long]
  staticTypes := #[(.object "ballast/number/BinaryFormat"), (.object "ballast/number/BinaryFormat"), (.array (.object "ballast/number/BinaryFormat"))]
  resolved := Array.replicate 141 none
  statics := some 0 }

def pool7 : Array CpInfo := pool [(1, u "java/lang/Cloneable"), (0, .class_ 1), (0, u "java/lang/Object"), (0, .class_ 3)] 3

/-- java/lang/Cloneable -/
def k7 : Class := { plain "java/lang/Cloneable" (some 0) with
  accessFlags := 1537
  interfaces := #[]
  cf := some (fileOf pool7 2 #[] #[] 1537 4 #[] #[])
  fields := #[]
  methods := #[]
  instanceTypes := #[]
  staticTypes := #[]
  resolved := Array.replicate 8 none
  statics := none }

/-- the primitive byte -/
def k8 : Class := { plain "byte" none with kind := .primitive 'B', accessFlags := 0x411 }
/-- [B -/
def k9 : Class := { plain "[B" (some 0) with kind := .array 8 .byte, interfaces := #[7, 4], accessFlags := 1041 }

/-- the primitive int -/
def k10 : Class := { plain "int" none with kind := .primitive 'I', accessFlags := 0x411 }
/-- [I -/
def k11 : Class := { plain "[I" (some 0) with kind := .array 10 .int, interfaces := #[7, 4], accessFlags := 1041 }

def heap : Heap := #[{ cls := 6, slots := #[.ref 1, .ref 2, .null], vm := .statics 6 },
  { cls := 6, slots := #[.null, .int 0, .int 0, .int 24, .int 0, .int 0, .long 2139095040, .long 0], vm := .none },
  { cls := 6, slots := #[.null, .int 1, .int 0, .int 53, .int 0, .int 0, .long 9218868437227405312, .long 0], vm := .none }]
def classes : Array Class := #[k0, k1, k2, k3, k4, k5, k6, k7, k8, k9, k10, k11]
def interned : List (Array UInt16 × Addr) := []
def slotsUsed : Nat := 19
def theMethod : MethodId := ⟨1, 1⟩
def args0 : Array Value := #[.int 5, .long 300]
def aboutOver (below : List Frame) : State where
  vm := { classes := classes, interned := interned.toArray }
  heap := heap
  slotsUsed := slotsUsed
  threads := #[{ frames := .invoking theMethod args0 :: below }]
def below0 : List Frame := [.native { method := ⟨0, 0⟩, args := #[] }]
def about1 : State := aboutOver below0
def p0 : Program := .bare "" "" ""
def e0 : Env := launch0.env 0 0 0
theorem w_frames : about1.frames = Frame.invoking theMethod args0 :: below0 := rfl
set_option maxRecDepth 65536 in
theorem w_args : argsFit about1.vm theMethod args0 = true := by decide +kernel
set_option maxRecDepth 65536 in
theorem w_heap : heapFits about1 = true := by decide +kernel
set_option maxRecDepth 65536 in
theorem w_runnable : about1.curStatus? = some .runnable := by decide +kernel
set_option maxRecDepth 65536 in
theorem w_alone : about1.alone = true := by decide +kernel
set_option maxRecDepth 65536 in
theorem w_named : about1.methodNamed? x = some theMethod := by decide +kernel
set_option maxRecDepth 65536 in
theorem w_hears : about1.hears theMethod below0 = true := by decide +kernel
set_option maxRecDepth 65536 in
theorem w_ripe : about1.ripe theMethod args0 below0 = true := by decide +kernel
theorem w_running : about1.status = .running := rfl
set_option maxRecDepth 65536 in
theorem w_room : about1.hasRoom e0.platform room_1 = true :=
  launch0.hasRoom_least _ room_1 (by decide +kernel) (by decide +kernel) (by decide +kernel) (by decide +kernel) (by decide +kernel) (by decide +kernel)
theorem allAtoms_all (ts : List Jvm.Cond) (a : Array Jvm.Value) (st : Jvm.State) : (allAtoms ts).before a st = ts.all (fun c => c.before a st) := by
  induction ts with
  | nil => rfl
  | cons c t ih =>
    show (Jvm.Cond.and c (allAtoms t)).before a st = _
    rw [Jvm.Cond.before_and, ih, List.all_cons]
def words1 : List Jvm.Cond := Jvm.Cond.code x code maxLocals ret :: tables_1
/-- a 'code' word, met by the world's own term for the bytes: nothing is compared byte by byte -/
theorem code_word {y : MethodName} {bytes : ByteArray} {mx : Nat} {rt : Option FieldType} {a : Array Value} {s : State} {m : MethodId} {meth : Method} {c : Code} (h1 : s.methodNamed? y = some m) (h2 : s.vm.method? m = some meth) (h3 : meth.code = some c) (h4 : c.code = bytes)
    (h5 : (c.maxLocals == mx && c.exceptionTable.isEmpty && decide (c.maxStack ≤ mostOperands) && decide (meth.sig.returnType = rt) && !meth.locks && decide (parseMethodDescriptor y.desc = some meth.sig)) = true) : (Jvm.Cond.code y bytes mx rt).before a s = true := by
  simp only [Bool.and_eq_true, beq_iff_eq, Bool.not_eq_true', decide_eq_true_eq] at h5
  obtain ⟨⟨⟨⟨⟨g1, g2⟩, g3⟩, g4⟩, g5⟩, g6⟩ := h5
  simp [Cond.before, Cond.holds, Cond.value, h1, h2, h3, h4, g1, g2, g3, g4, g5, g6]
def isCode : Jvm.Cond → Bool
  | .code _ _ _ _ => true
  | _ => false
theorem all_split {L : List Jvm.Cond} {P : Jvm.Cond → Bool} (h1 : L.all (fun c => isCode c || P c) = true) (h2 : ∀ c ∈ L.filter isCode, P c = true) : L.all P = true := by
  refine List.all_eq_true.mpr fun c hc => ?_
  have h := List.all_eq_true.mp h1 c hc
  rcases Bool.eq_false_or_eq_true (isCode c) with hi | hi
  · exact h2 c (List.mem_filter.mpr ⟨hc, hi⟩)
  · simpa [hi] using h
set_option maxRecDepth 65536 in
theorem w_c0 : (Jvm.Cond.code x code maxLocals ret).before args0 about1 = true := code_word (m := ⟨1, 1⟩) (meth := k1m1) (c := k1c1) (by decide +kernel) rfl rfl rfl (by decide +kernel)
set_option maxRecDepth 65536 in
theorem w_c1 : (Jvm.Cond.code ({ cls := "ballast/number/BinaryFormat", name := "significand", desc := "(J)J" } : Jvm.MethodName) prog_12_method_8_code (7 : Nat) (Option.some Jvm.ClassFile.FieldType.long)).before args0 about1 = true := code_word (m := ⟨6, 0⟩) (meth := k6m0) (c := k6c0) (by decide +kernel) rfl rfl rfl (by decide +kernel)
def codes1 : List Jvm.Cond := [Jvm.Cond.code x code maxLocals ret, Jvm.Cond.code ({ cls := "ballast/number/BinaryFormat", name := "significand", desc := "(J)J" } : Jvm.MethodName) prog_12_method_8_code (7 : Nat) (Option.some Jvm.ClassFile.FieldType.long)]
set_option maxRecDepth 65536 in
theorem codes_eq : words1.filter isCode = codes1 := rfl
theorem w_codes : ∀ c ∈ words1.filter isCode, c.before args0 about1 = true := by
  rw [codes_eq]
  intro c hc
  simp only [codes1, List.mem_cons, List.not_mem_nil, or_false] at hc
  rcases hc with rfl | rfl
  · exact w_c0
  · exact w_c1
set_option maxRecDepth 65536 in
theorem w_t1 : (words1.take 24).all (fun c => isCode c || c.before args0 about1) = true := by decide +kernel
set_option maxRecDepth 65536 in
theorem w_t2 : (words1.drop 24).all (fun c => isCode c || c.before args0 about1) = true := by decide +kernel
theorem w_tables : (allAtoms (Jvm.Cond.code x code maxLocals ret :: tables_1)).before args0 about1 = true := by
  rw [allAtoms_all]
  show words1.all (fun c => c.before args0 about1) = true
  refine all_split ?_ w_codes
  rw [← List.take_append_drop 24 words1, List.all_append, w_t1, w_t2]
  rfl
set_option maxRecDepth 65536 in
theorem w_case : (Jvm.Cond.and given_1 narrow_1).before args0 about1 = true := by decide +kernel
theorem w_applies : (headSpec (Jvm.Cond.code x code maxLocals ret :: tables_1) room_1).applies x e0.platform about1 = true :=
  (Spec.applies_iff w_frames).mpr ⟨w_running, w_runnable, w_alone, w_named, w_hears, w_ripe, w_room, w_tables⟩
theorem atStart : AtStart classFile x code maxLocals ret World_1 tables_1 room_1 Calls_1 rest_1 Pre_1 launch0 p0 e0 about1 theMethod args0 below0 :=
  ⟨lists_1, trivial, launch0.admits_env _ _ _, launch0.least_env, fairChoices_fair.cas, fairChoices_fair.clock, w_frames, w_args, w_heap, w_applies, trivial, trivial, w_case⟩
end start1
theorem witness_1 : WitnessClaimed_1 := ⟨start1.p0, start1.e0, start1.about1, start1.theMethod, start1.args0, start1.below0, start1.atStart⟩
end Jvm.Pilot.@@N@@
