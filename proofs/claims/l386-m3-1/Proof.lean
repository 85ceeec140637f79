import JvmDerived
import JvmDerived.Pilot.@@N@@Statement
import JvmDerived.Pilot.@@N@@Code
set_option linter.unusedVariables false
set_option linter.unusedSimpArgs false
namespace Jvm.Pilot.@@N@@
open Jvm Jvm.ClassFile Sem Op Lib Jvm.Free Jvm.Stand Jvm.LawKit Jvm.RoadKit Bundle Jvm.Pilot.@@N@@.Jvm.D
section OwnHead
variable {p : Program} {l : Launch} {e : Env} {R : Room} {s : State} {m : MethodId} {args : Array Value} {below : List Frame} {meth : Method} {c : Code} {T T' : State} {locs : List Loc} {cells slots : Nat} {Q : Option Value → Heap → List Loc → Prop} {k n : Nat} {g : JFrame}
/-- from here (the state T, the frame g on top) the call comes to its end, and the end is as Fin says -/
def own_E (p : Program) (e : Env) (below : List Frame) (Fin : Outcome → State → Prop) (T : State) (g : JFrame) : Prop :=
  ∃ s₂ o, Steps p.tables e below (T.setTop g) s₂ ∧ s₂.status = .running ∧ Ended s₂ below o ∧ Fin o s₂
/-- the end of a body that interns nothing: what it returns, the heap and the places written as Q says, within k cells and n slots -/
def own_Fin (s : State) (Q : Option Value → Heap → List Loc → Prop) (k n : Nat) (o : Outcome) (t : State) : Prop := ∃ v L, o = .returned v ∧ Q v t.heap L ∧ FrameEnd s o t L k n
theorem own_start {Fin : Outcome → State → Prop} (h : own_E p e below Fin T g) : ∃ s₂ o, Steps p.tables e below (T.setTop g) s₂ ∧ s₂.status = .running ∧ Ended s₂ below o ∧ Fin o s₂ := h
theorem own_from {Fin : Outcome → State → Prop} (g' : JFrame) (h : ∀ {t}, Steps p.tables e below (T.setTop g') t → Steps p.tables e below (T.setTop g) t) (w : own_E p e below Fin T g') : own_E p e below Fin T g := by
  obtain ⟨s₂, o, h1, r⟩ := w; exact ⟨s₂, o, h h1, r⟩
theorem own_to {Fin : Outcome → State → Prop} (g' : JFrame) (h : ∀ t, Steps p.tables e below (T'.setTop g') t → Steps p.tables e below (T.setTop g) t) (w : own_E p e below Fin T' g') : own_E p e below Fin T g := by
  obtain ⟨s₂, o, h1, r⟩ := w; exact ⟨s₂, o, h _ h1, r⟩
theorem own_via {Fin : Outcome → State → Prop} (g' : JFrame) (h : Steps p.tables e below (T.setTop g) (T'.setTop g')) (w : own_E p e below Fin T' g') : own_E p e below Fin T g := by
  obtain ⟨s₂, o, h1, r⟩ := w; exact ⟨s₂, o, h.trans h1, r⟩
theorem own_end {v : Option Value} {pc : Nat} {Ls : Array Slot} {st : List Value} (X : Stand p l e R s m args below meth c T locs cells slots) (hv : meth.sig.returnType = none → v = none) (hlk : meth.locks = false) (hk : cells ≤ k) (hn : slots ≤ n) (hQ : Q v T.heap locs)
    (hs : ∀ fs, (∀ (f : JFrame) (acts : List Action), f.method = m → f.locked = none → f.entered = [] → (doReturn e (T.setTop f) acts v).1 = T.setFrames fs) → Steps p.tables e below (T.setTop (mkF m pc Ls st)) (T.setFrames fs)) : own_E p e below (own_Fin s Q k n) T (mkF m pc Ls st) := by
  obtain ⟨fs, hr, hrun, hended, hW, hsame⟩ := X.leave (v := v) hv hlk
  exact ⟨_, _, hs fs hr, hrun, hended, _, _, rfl, hQ, ⟨_, rfl⟩, hW, hsame.mono hk hn⟩
theorem own_retN (X : Stand p l e R s m args below meth c T locs cells slots) (hx : p.tables.exec = Jvm.exec) {pc : Nat} {Ls : Array Slot} {z : Int32} {t : FieldType} {rest : List Value} (hret : meth.sig.returnType = some t) (ht : t = .boolean ∨ t = .byte ∨ t = .char ∨ t = .short) (hlk : meth.locks = false)
    (hd : decode c.code pc = .ok (.ireturn, 1)) (hk : cells ≤ k) (hn : slots ≤ n) (hQ : Q (some (.int (nar t z))) T.heap locs) : own_E p e below (own_Fin s Q k n) T (mkF m pc Ls (.int z :: rest)) :=
  own_end X (fun h => by rw [hret] at h; cases h) hlk hk hn hQ fun _ hr => retN X hx hret ht hd hr
theorem own_retI (X : Stand p l e R s m args below meth c T locs cells slots) (hx : p.tables.exec = Jvm.exec) {pc : Nat} {Ls : Array Slot} {z : Int32} {rest : List Value} (hret : meth.sig.returnType = some .int) (hlk : meth.locks = false)
    (hd : decode c.code pc = .ok (.ireturn, 1)) (hk : cells ≤ k) (hn : slots ≤ n) (hQ : Q (some (.int z)) T.heap locs) : own_E p e below (own_Fin s Q k n) T (mkF m pc Ls (.int z :: rest)) :=
  own_end X (fun h => by rw [hret] at h; cases h) hlk hk hn hQ fun _ hr => retOut X hx hret rfl (Or.inl ⟨rfl, Or.inl rfl, _, rfl⟩) hd hr
theorem own_retJ (X : Stand p l e R s m args below meth c T locs cells slots) (hx : p.tables.exec = Jvm.exec) {pc : Nat} {Ls : Array Slot} {z : Int64} {rest : List Value} (hret : meth.sig.returnType = some .long) (hlk : meth.locks = false)
    (hd : decode c.code pc = .ok (.lreturn, 1)) (hk : cells ≤ k) (hn : slots ≤ n) (hQ : Q (some (.long z)) T.heap locs) : own_E p e below (own_Fin s Q k n) T (mkF m pc Ls (.long z :: rest)) :=
  own_end X (fun h => by rw [hret] at h; cases h) hlk hk hn hQ fun _ hr => retOut X hx hret rfl (Or.inr (Or.inl ⟨rfl, rfl, _, rfl⟩)) hd hr
theorem own_retA (X : Stand p l e R s m args below meth c T locs cells slots) (hx : p.tables.exec = Jvm.exec) {pc : Nat} {Ls : Array Slot} {w : Value} {t : FieldType} {rest : List Value} (hret : meth.sig.returnType = some t) (ht : t.isReference = true) (hlk : meth.locks = false)
    (hd : decode c.code pc = .ok (.areturn, 1)) (hw : w.isRef = true) (hk : cells ≤ k) (hn : slots ≤ n) (hQ : Q (some w) T.heap locs) : own_E p e below (own_Fin s Q k n) T (mkF m pc Ls (w :: rest)) :=
  own_end X (fun h => by rw [hret] at h; cases h) hlk hk hn hQ fun _ hr => retOut X hx hret (by cases t <;> first | rfl | cases ht) (Or.inr (Or.inr (Or.inr (Or.inr ⟨rfl, ht, hw⟩)))) hd hr
theorem own_ret0 (X : Stand p l e R s m args below meth c T locs cells slots) (hx : p.tables.exec = Jvm.exec) {pc : Nat} {Ls : Array Slot} (hret : meth.sig.returnType = none) (hlk : meth.locks = false)
    (hd : decode c.code pc = .ok (.return_, 1)) (hk : cells ≤ k) (hn : slots ≤ n) (hQ : Q none T.heap locs) : own_E p e below (own_Fin s Q k n) T (mkF m pc Ls []) :=
  own_end X (fun _ => rfl) hlk hk hn hQ fun _ hr => X.returnOut hx hret hd hr
theorem own_01 {C : Prop} {d : Int32} (h1 : C → d = (0 : Int32)) (h2 : ¬ C → d = (1 : Int32)) : d = 0 ∨ d = 1 := (Classical.em C).elim (fun q => Or.inl (h1 q)) (fun q => Or.inr (h2 q))
theorem own_irr (x : Int32) : ¬ x < x := Int32.lt_irrefl
end OwnHead
section OwnWords
variable {args : Array Value} {s : State} {t : Term} {C n d : String} {a : Addr}
theorem own_fldI {k : Int32} (ht : t.eval args s none [] s = some (.ref a)) (h : (Jvm.Cond.eq (Term.field t C n d) (Term.int k)).value args s none s [] = some true) : Fld s s.heap a C n d (.int k) := by
  obtain ⟨x, y, e1, e2, -, k2⟩ := cmp_v (Or.inl h)
  have q : y = .int k := Option.some.inj (e2.symm.trans (Term.int_eval k))
  subst q
  obtain ⟨z, rfl⟩ := k2
  have q := gotT (Cond.eq_ints e1 (Term.int_eval k)) h
  subst q
  exact Fld.start ((fld_at ht).symm.trans e1)
theorem own_fldJ {k : Int64} (ht : t.eval args s none [] s = some (.ref a)) (h : (Jvm.Cond.eq (Term.field t C n d) (Term.long k)).value args s none s [] = some true) : Fld s s.heap a C n d (.long k) := by
  obtain ⟨x, y, e1, e2, -, k2⟩ := cmp_v (Or.inl h)
  have q : y = .long k := Option.some.inj (e2.symm.trans (long_at k))
  subst q
  obtain ⟨z, rfl⟩ := k2
  have q := gotT (eq_L e1 (long_at k)) h
  subst q
  exact Fld.start ((fld_at ht).symm.trans e1)
end OwnWords
section OwnWide
variable {p : Program} {l : Launch} {e : Env} {R : Room} {s : State} {m : MethodId} {args : Array Value} {below : List Frame} {meth : Method} {c : Code} {T T' : State} {locs : List Loc} {cells slots : Nat} {Q : Option Value → Heap → List Loc → Prop} {k n : Nat} {g : JFrame} {vm₁ : Vm} {k1 : Nat}
/-- the end of a law that may have interned a String constant -/
def own_FinW (s : State) (Q : Option Value → Heap → List Loc → Prop) (k n : Nat) (o : Outcome) (t : State) : Prop := ∃ v L, o = .returned v ∧ Q v t.heap L ∧ ReturnedEndW s o t L k n
theorem own_endW {v : Option Value} {pc : Nat} {Ls : Array Slot} {st : List Value} (X : Stand p l e R (s.setVm vm₁) m args below meth c T locs cells slots) (hS : s.Since vm₁ k1) (hk1 : k1 ≤ T.heap.size) (hv : meth.sig.returnType = none → v = none) (hlk : meth.locks = false) (hk : cells ≤ k) (hn : slots ≤ n) (hQ : Q v T.heap locs)
    (hs : ∀ fs, (∀ (f : JFrame) (acts : List Action), f.method = m → f.locked = none → f.entered = [] → (doReturn e (T.setTop f) acts v).1 = T.setFrames fs) → Steps p.tables e below (T.setTop (mkF m pc Ls st)) (T.setFrames fs)) : own_E p e below (own_FinW s Q k n) T (mkF m pc Ls st) := by
  obtain ⟨fs, hr, hrun, hended, h1, h2, h3, h4⟩ := X.leaveW hS hk1 (v := v) hv hlk
  exact ⟨_, _, hs fs hr, hrun, hended, _, _, rfl, hQ, h1, h2, h3, h4.mono hk hn⟩
theorem own_retNW (X : Stand p l e R (s.setVm vm₁) m args below meth c T locs cells slots) (hS : s.Since vm₁ k1) (hk1 : k1 ≤ T.heap.size) (hx : p.tables.exec = Jvm.exec) {pc : Nat} {Ls : Array Slot} {z : Int32} {t : FieldType} {rest : List Value} (hret : meth.sig.returnType = some t) (ht : t = .boolean ∨ t = .byte ∨ t = .char ∨ t = .short) (hlk : meth.locks = false)
    (hd : decode c.code pc = .ok (.ireturn, 1)) (hk : cells ≤ k) (hn : slots ≤ n) (hQ : Q (some (.int (nar t z))) T.heap locs) : own_E p e below (own_FinW s Q k n) T (mkF m pc Ls (.int z :: rest)) :=
  own_endW X hS hk1 (fun h => by rw [hret] at h; cases h) hlk hk hn hQ fun _ hr => retN X hx hret ht hd hr
end OwnWide
theorem own_four (x : Int32) {n : Int32} (h : (x &&& (3 : Int32)) = n) : n = 0 ∨ n = 1 ∨ n = 2 ∨ n = 3 := by
  subst h
  have e1 : (x &&& 3).toInt = x.toInt % (2 ^ 2 : Nat) := c_mask x 3 2 (by decide) (by decide)
  rw [← Int32.toInt_inj, ← Int32.toInt_inj, ← Int32.toInt_inj, ← Int32.toInt_inj]
  show _ = 0 ∨ _ = 1 ∨ _ = 2 ∨ _ = 3
  rw [e1]
  omega
theorem own_d_jdk_29_method_69_0 : decode jdk_29_method_69_code 0 = .ok (.iload_n 0, 1) := by decide +kernel
theorem own_d_jdk_29_method_69_1 : decode jdk_29_method_69_code 1 = .ok (.iload_n 1, 1) := by decide +kernel
theorem own_d_jdk_29_method_69_2 : decode jdk_29_method_69_code 2 = .ok (.if_icmp .gt 7, 3) := by decide +kernel
theorem own_d_jdk_29_method_69_9 : decode jdk_29_method_69_code 9 = .ok (.iload_n 1, 1) := by decide +kernel
theorem own_d_jdk_29_method_69_10 : decode jdk_29_method_69_code 10 = .ok (.ireturn, 1) := by decide +kernel
theorem own_d_jdk_29_method_69_5 : decode jdk_29_method_69_code 5 = .ok (.iload_n 0, 1) := by decide +kernel
theorem own_d_jdk_29_method_69_6 : decode jdk_29_method_69_code 6 = .ok (.goto 4, 3) := by decide +kernel
theorem own_d_jdk_65_method_123_0 : decode jdk_65_method_123_code 0 = .ok (.iload_n 1, 1) := by decide +kernel
theorem own_d_jdk_65_method_123_1 : decode jdk_65_method_123_code 1 = .ok (.aload_n 0, 1) := by decide +kernel
theorem own_d_jdk_65_method_123_2 : decode jdk_65_method_123_code 2 = .ok (.arraylength, 1) := by decide +kernel
theorem own_d_jdk_65_method_123_3 : decode jdk_65_method_123_code 3 = .ok (.if_icmp .ne 11, 3) := by decide +kernel
theorem own_d_jdk_65_method_123_6 : decode jdk_65_method_123_code 6 = .ok (.aload_n 0, 1) := by decide +kernel
theorem own_d_jdk_65_method_123_7 : decode jdk_65_method_123_code 7 = .ok (.invokevirtual 316, 3) := by decide +kernel
theorem own_d_jdk_65_method_123_10 : decode jdk_65_method_123_code 10 = .ok (.checkcast 317, 3) := by decide +kernel
theorem own_d_jdk_65_method_123_13 : decode jdk_65_method_123_code 13 = .ok (.areturn, 1) := by decide +kernel
theorem own_d_jdk_65_method_123_14 : decode jdk_65_method_123_code 14 = .ok (.iload_n 1, 1) := by decide +kernel
theorem own_d_jdk_65_method_123_15 : decode jdk_65_method_123_code 15 = .ok (.newarray .int, 2) := by decide +kernel
theorem own_d_jdk_65_method_123_17 : decode jdk_65_method_123_code 17 = .ok (.astore_n 2, 1) := by decide +kernel
theorem own_d_jdk_65_method_123_18 : decode jdk_65_method_123_code 18 = .ok (.aload_n 0, 1) := by decide +kernel
theorem own_d_jdk_65_method_123_19 : decode jdk_65_method_123_code 19 = .ok (.iconst 0, 1) := by decide +kernel
theorem own_d_jdk_65_method_123_20 : decode jdk_65_method_123_code 20 = .ok (.aload_n 2, 1) := by decide +kernel
theorem own_d_jdk_65_method_123_21 : decode jdk_65_method_123_code 21 = .ok (.iconst 0, 1) := by decide +kernel
theorem own_d_jdk_65_method_123_22 : decode jdk_65_method_123_code 22 = .ok (.aload_n 0, 1) := by decide +kernel
theorem own_d_jdk_65_method_123_23 : decode jdk_65_method_123_code 23 = .ok (.arraylength, 1) := by decide +kernel
theorem own_d_jdk_65_method_123_24 : decode jdk_65_method_123_code 24 = .ok (.iload_n 1, 1) := by decide +kernel
theorem own_d_jdk_65_method_123_25 : decode jdk_65_method_123_code 25 = .ok (.invokestatic 304, 3) := by decide +kernel
theorem own_d_jdk_65_method_123_28 : decode jdk_65_method_123_code 28 = .ok (.invokestatic 150, 3) := by decide +kernel
theorem own_d_jdk_65_method_123_31 : decode jdk_65_method_123_code 31 = .ok (.aload_n 2, 1) := by decide +kernel
theorem own_d_jdk_65_method_123_32 : decode jdk_65_method_123_code 32 = .ok (.areturn, 1) := by decide +kernel
theorem own_d_prog_36_method_5_0 : decode prog_36_method_5_code 0 = .ok (.aload_n 0, 1) := by decide +kernel
theorem own_d_prog_36_method_5_1 : decode prog_36_method_5_code 1 = .ok (.getstatic 7, 3) := by decide +kernel
theorem own_d_prog_36_method_5_4 : decode prog_36_method_5_code 4 = .ok (.if_acmp .ne 16, 3) := by decide +kernel
theorem own_d_prog_36_method_5_7 : decode prog_36_method_5_code 7 = .ok (.aload_n 1, 1) := by decide +kernel
theorem own_d_prog_36_method_5_8 : decode prog_36_method_5_code 8 = .ok (.iconst 1, 1) := by decide +kernel
theorem own_d_prog_36_method_5_9 : decode prog_36_method_5_code 9 = .ok (.aload_n 1, 1) := by decide +kernel
theorem own_d_prog_36_method_5_10 : decode prog_36_method_5_code 10 = .ok (.arraylength, 1) := by decide +kernel
theorem own_d_prog_36_method_5_11 : decode prog_36_method_5_code 11 = .ok (.invokestatic 45, 3) := by decide +kernel
theorem own_d_prog_36_method_5_14 : decode prog_36_method_5_code 14 = .ok (.invokestatic 51, 3) := by decide +kernel
theorem own_d_prog_36_method_5_17 : decode prog_36_method_5_code 17 = .ok (.goto 4, 3) := by decide +kernel
theorem own_d_prog_36_method_5_21 : decode prog_36_method_5_code 21 = .ok (.areturn, 1) := by decide +kernel
theorem own_d_prog_36_method_5_20 : decode prog_36_method_5_code 20 = .ok (.aload_n 1, 1) := by decide +kernel
theorem own_d_method_3_0 : decode method_3_code 0 = .ok (.aload_n 0, 1) := by decide +kernel
theorem own_d_method_3_1 : decode method_3_code 1 = .ok (.arraylength, 1) := by decide +kernel
theorem own_d_method_3_2 : decode method_3_code 2 = .ok (.iconst 1, 1) := by decide +kernel
theorem own_d_method_3_3 : decode method_3_code 3 = .ok (.if_icmp .lt 12, 3) := by decide +kernel
theorem own_d_method_3_15 : decode method_3_code 15 = .ok (.aload_n 0, 1) := by decide +kernel
theorem own_d_method_3_16 : decode method_3_code 16 = .ok (.arraylength, 1) := by decide +kernel
theorem own_d_method_3_17 : decode method_3_code 17 = .ok (.iconst 2, 1) := by decide +kernel
theorem own_d_method_3_18 : decode method_3_code 18 = .ok (.if_icmp .lt 12, 3) := by decide +kernel
theorem own_d_method_3_30 : decode method_3_code 30 = .ok (.aload_n 0, 1) := by decide +kernel
theorem own_d_method_3_31 : decode method_3_code 31 = .ok (.arraylength, 1) := by decide +kernel
theorem own_d_method_3_32 : decode method_3_code 32 = .ok (.iconst 3, 1) := by decide +kernel
theorem own_d_method_3_33 : decode method_3_code 33 = .ok (.if_icmp .lt 12, 3) := by decide +kernel
theorem own_d_method_3_45 : decode method_3_code 45 = .ok (.iconst 1, 1) := by decide +kernel
theorem own_d_method_3_46 : decode method_3_code 46 = .ok (.ireturn, 1) := by decide +kernel
theorem own_d_method_3_6 : decode method_3_code 6 = .ok (.aload_n 0, 1) := by decide +kernel
theorem own_d_method_3_7 : decode method_3_code 7 = .ok (.iconst 0, 1) := by decide +kernel
theorem own_d_method_3_8 : decode method_3_code 8 = .ok (.iaload, 1) := by decide +kernel
theorem own_d_method_3_9 : decode method_3_code 9 = .ok (.iload_n 1, 1) := by decide +kernel
theorem own_d_method_3_10 : decode method_3_code 10 = .ok (.if_icmp .eq 5, 3) := by decide +kernel
theorem own_d_method_3_21 : decode method_3_code 21 = .ok (.aload_n 0, 1) := by decide +kernel
theorem own_d_method_3_22 : decode method_3_code 22 = .ok (.iconst 1, 1) := by decide +kernel
theorem own_d_method_3_23 : decode method_3_code 23 = .ok (.iaload, 1) := by decide +kernel
theorem own_d_method_3_24 : decode method_3_code 24 = .ok (.iload_n 2, 1) := by decide +kernel
theorem own_d_method_3_25 : decode method_3_code 25 = .ok (.if_icmp .eq 5, 3) := by decide +kernel
theorem own_d_method_3_36 : decode method_3_code 36 = .ok (.aload_n 0, 1) := by decide +kernel
theorem own_d_method_3_37 : decode method_3_code 37 = .ok (.iconst 2, 1) := by decide +kernel
theorem own_d_method_3_38 : decode method_3_code 38 = .ok (.iaload, 1) := by decide +kernel
theorem own_d_method_3_39 : decode method_3_code 39 = .ok (.iload_n 3, 1) := by decide +kernel
theorem own_d_method_3_40 : decode method_3_code 40 = .ok (.if_icmp .eq 5, 3) := by decide +kernel
theorem own_pd0 : parseMethodDescriptor "(II)I" = some ⟨[.int, .int], some .int⟩ := by decide +kernel
theorem own_pd1 : parseMethodDescriptor "([II)[I" = some ⟨[(.array .int), .int], some (.array .int)⟩ := by decide +kernel
theorem own_pd2 : parseMethodDescriptor "([I)[I" = some ⟨[(.array .int)], some (.array .int)⟩ := by decide +kernel
theorem own_pd3 : parseMethodDescriptor "([IIII)Z" = some ⟨[(.array .int), .int, .int, .int], some .boolean⟩ := by decide +kernel
theorem own_pn0 : plainName "java/util/Arrays" = true := by first | (simp [plainName, overriddenIn]; done) | decide +kernel
theorem own_pn1 : plainName "com/example/steady_expansion/steadyexpansion/WordNet$Senses" = true := by first | (simp [plainName, overriddenIn]; done) | decide +kernel
theorem own_pn2 : plainName "com/example/steady_expansion/steadyexpansion/SensesOffsetsPinLaw" = true := by first | (simp [plainName, overriddenIn]; done) | decide +kernel
theorem own_ef_1 (m : MethodId) (x0 : Int32) (x1 : Int32) : entryFrame m #[(.int x0), (.int x1)] 2 = mkF m 0 #[.val (.int x0), .val (.int x1)] [] := by first | (simp [entryFrame, mkF, argsToLocals, Value.category]; done) | rfl
theorem own_ef_2_0 (m : MethodId) (x0 : Addr) (x1 : Int32) : entryFrame m #[(.ref x0), (.int x1)] 3 = mkF m 0 #[.val (.ref x0), .val (.int x1), .unset] [] := by first | (simp [entryFrame, mkF, argsToLocals, Value.category]; done) | rfl
theorem own_ef_2_1 (m : MethodId) (x0 : Addr) (x1 : Int32) : entryFrame m #[(.ref x0), (.int x1)] 3 = mkF m 0 #[.val (.ref x0), .val (.int x1), .unset] [] := by first | (simp [entryFrame, mkF, argsToLocals, Value.category]; done) | rfl
theorem own_ef_2_2 (m : MethodId) (x0 : Addr) (x1 : Int32) : entryFrame m #[(.ref x0), (.int x1)] 3 = mkF m 0 #[.val (.ref x0), .val (.int x1), .unset] [] := by first | (simp [entryFrame, mkF, argsToLocals, Value.category]; done) | rfl
theorem own_ef_2_3 (m : MethodId) (x0 : Addr) (x1 : Int32) : entryFrame m #[(.ref x0), (.int x1)] 3 = mkF m 0 #[.val (.ref x0), .val (.int x1), .unset] [] := by first | (simp [entryFrame, mkF, argsToLocals, Value.category]; done) | rfl
theorem own_ef_3F_0 (m : MethodId) (x0 : Addr) (x1 : Addr) : entryFrame m #[(.ref x0), (.ref x1)] 2 = mkF m 0 #[.val (.ref x0), .val (.ref x1)] [] := by first | (simp [entryFrame, mkF, argsToLocals, Value.category]; done) | rfl
theorem own_ef_3F_1 (m : MethodId) (x0 : Addr) (x1 : Addr) : entryFrame m #[(.ref x0), (.ref x1)] 2 = mkF m 0 #[.val (.ref x0), .val (.ref x1)] [] := by first | (simp [entryFrame, mkF, argsToLocals, Value.category]; done) | rfl
theorem own_ef_3F_2 (m : MethodId) (x0 : Addr) (x1 : Addr) : entryFrame m #[(.ref x0), (.ref x1)] 2 = mkF m 0 #[.val (.ref x0), .val (.ref x1)] [] := by first | (simp [entryFrame, mkF, argsToLocals, Value.category]; done) | rfl
theorem own_ef_3F_3 (m : MethodId) (x0 : Addr) (x1 : Addr) : entryFrame m #[(.ref x0), (.ref x1)] 2 = mkF m 0 #[.val (.ref x0), .val (.ref x1)] [] := by first | (simp [entryFrame, mkF, argsToLocals, Value.category]; done) | rfl
theorem own_ef_3A (m : MethodId) (x0 : Addr) (x1 : Addr) : entryFrame m #[(.ref x0), (.ref x1)] 2 = mkF m 0 #[.val (.ref x0), .val (.ref x1)] [] := by first | (simp [entryFrame, mkF, argsToLocals, Value.category]; done) | rfl
theorem own_ef_4_0 (m : MethodId) (x0 : Addr) (x1 : Int32) (x2 : Int32) (x3 : Int32) : entryFrame m #[(.ref x0), (.int x1), (.int x2), (.int x3)] 4 = mkF m 0 #[.val (.ref x0), .val (.int x1), .val (.int x2), .val (.int x3)] [] := by first | (simp [entryFrame, mkF, argsToLocals, Value.category]; done) | rfl
theorem own_ef_4_1 (m : MethodId) (x0 : Addr) (x1 : Int32) (x2 : Int32) (x3 : Int32) : entryFrame m #[(.ref x0), (.int x1), (.int x2), (.int x3)] 4 = mkF m 0 #[.val (.ref x0), .val (.int x1), .val (.int x2), .val (.int x3)] [] := by first | (simp [entryFrame, mkF, argsToLocals, Value.category]; done) | rfl
theorem own_ef_4_2 (m : MethodId) (x0 : Addr) (x1 : Int32) (x2 : Int32) (x3 : Int32) : entryFrame m #[(.ref x0), (.int x1), (.int x2), (.int x3)] 4 = mkF m 0 #[.val (.ref x0), .val (.int x1), .val (.int x2), .val (.int x3)] [] := by first | (simp [entryFrame, mkF, argsToLocals, Value.category]; done) | rfl
theorem own_ef_4_3 (m : MethodId) (x0 : Addr) (x1 : Int32) (x2 : Int32) (x3 : Int32) : entryFrame m #[(.ref x0), (.int x1), (.int x2), (.int x3)] 4 = mkF m 0 #[.val (.ref x0), .val (.int x1), .val (.int x2), .val (.int x3)] [] := by first | (simp [entryFrame, mkF, argsToLocals, Value.category]; done) | rfl
theorem own_ef_0 (m : MethodId) (x0 : Int32) (x1 : Int32) (x2 : Int32) (x3 : Int32) (x4 : Int32) : entryFrame m #[(.int x0), (.int x1), (.int x2), (.int x3), (.int x4)] maxLocals = mkF m 0 #[.val (.int x0), .val (.int x1), .val (.int x2), .val (.int x3), .val (.int x4), .unset, .unset, .unset, .unset, .unset, .unset] [] := by first | (simp [entryFrame, mkF, argsToLocals, Value.category, maxLocals]; done) | rfl
def own_Q1 (Z : State) (r x0 x1 : Int32) (h0 : Heap) (n0 : Nat) (v : Option Value) (h : Heap) (L : List Loc) : Prop := v = some (.int r) ∧ Fr n0 L ∧ h = h0
set_option maxRecDepth 65536 in
set_option maxHeartbeats 40000000 in
theorem own_rm1 (l : Launch) (Z : State) (a0 : Array Value) (hw : ∀ d ∈ tables_1, d.before a0 Z = true) (ws : List Jvm.Cond) (r x0 x1 : Int32) (h0 : Heap) (n0 : Nat) (Z0 : n0 ≤ h0.size) (OL : Old Z n0 h0) (hr : r = if x1 < x0 then x1 else x0) :
    MetFree l (⟨"java/lang/Math", "min", "(II)I"⟩ : MethodName) (head1 (Jvm.Cond.code (⟨"java/lang/Math", "min", "(II)I"⟩ : MethodName) jdk_29_method_69_code 2 (some .int) :: ws) ({ frames := 0, cells := 0, slots := 0, locals := 0 } : Room)) (fun aa_ U => aa_ = #[(.int x0), (.int x1)] ∧ Z.Warmed39 U.vm ∧ U.heap = h0) (fun _ _ _ _ _ => True) (fun _ U o U' => ∃ v L, o = .returned v ∧ own_Q1 Z r x0 x1 h0 n0 v U'.heap L ∧ FrameEnd U o U' L ({ frames := 0, cells := 0, slots := 0, locals := 0 } : Room).cells ({ frames := 0, cells := 0, slots := 0, locals := 0 } : Room).slots) := by
  refine MetFree.of_bodySF (Jvm.Free.JP.mathPlain rfl (by decide +kernel)) hisR ?_
  intro p e s m args below meth c s₁ Bd hml0 hP hK
  obtain ⟨rfl, hZ, hh⟩ := hP
  have hx := Bd.exec
  have hby := Bd.bytes
  have hlk : meth.locks = false := BodyLoose.notSynchronized Bd
  have hml : c.maxLocals = 2 := hml0
  have hown : s.vm.findClass "java/lang/Math" = some m.cls := findClass_of_methodNamed Bd.named
  have hnm := (name_of_methodNamed Bd.named Bd.method).1
  have X0 : Stand p l e ({ frames := 0, cells := 0, slots := 0, locals := 0 } : Room) s m #[(.int x0), (.int x1)] below meth c s₁ [] 0 0 := Stand.of_body Bd
  have e0 : s₁.heap = h0 := by rw [← hh, Bd.state]; rfl
  have N0 := Fr.nil n0
  have KP : Keep h0 h0 [] := Keep.refl _ _
  refine own_start (Fin := (own_Fin s (own_Q1 Z r x0 x1 h0 n0) ({ frames := 0, cells := 0, slots := 0, locals := 0 } : Room).cells ({ frames := 0, cells := 0, slots := 0, locals := 0 } : Room).slots)) (own_from (mkF m 0 #[iv x0, iv x1] []) (castTop (own_ef_1 m x0 x1)) ?_)
  refine own_to (T' := s₁) (mkF m 1 #[iv x0, iv x1] [(.int x0)]) (fun _ k => XS.iloadN X0.here hx rfl (hb hby own_d_jdk_29_method_69_0) rfl k) ?_
  refine own_to (T' := s₁) (mkF m 2 #[iv x0, iv x1] [(.int x1), (.int x0)]) (fun _ k => XS.iloadN X0.here hx rfl (hb hby own_d_jdk_29_method_69_1) rfl k) ?_
  by_cases h1 : x1 < x0
  · refine own_to (T' := s₁) (mkF m 9 #[iv x0, iv x1] []) (fun _ k => XS.icmpYes X0.here hx rfl (pc0 := 2) (pc' := 9) rfl (hb hby own_d_jdk_29_method_69_2) rfl (tlt h1).2.2.1 (by decide) (by decide) k) ?_
    refine own_to (T' := s₁) (mkF m 10 #[iv x0, iv x1] [(.int x1)]) (fun _ k => XS.iloadN X0.here hx rfl (hb hby own_d_jdk_29_method_69_9) rfl k) ?_
    exact own_retI X0 hx Bd.returns hlk (hb hby own_d_jdk_29_method_69_10) (by decide) (by decide) (by rw [e0]; exact ⟨by rw [hr, if_pos h1], N0, rfl⟩)
  · refine own_to (T' := s₁) (mkF m 5 #[iv x0, iv x1] []) (fun _ k => XS.icmpNo X0.here hx rfl (hb hby own_d_jdk_29_method_69_2) rfl (flt h1).2.2.1 k) ?_
    refine own_to (T' := s₁) (mkF m 6 #[iv x0, iv x1] [(.int x0)]) (fun _ k => XS.iloadN X0.here hx rfl (hb hby own_d_jdk_29_method_69_5) rfl k) ?_
    refine own_to (T' := s₁) (mkF m 10 #[iv x0, iv x1] [(.int x0)]) (fun _ k => XS.goto X0.here hx rfl (pc0 := 6) (pc' := 10) rfl (hb hby own_d_jdk_29_method_69_6) (by decide) (by decide) k) ?_
    exact own_retI X0 hx Bd.returns hlk (hb hby own_d_jdk_29_method_69_10) (by decide) (by decide) (by rw [e0]; exact ⟨by rw [hr, if_neg h1], N0, rfl⟩)
def own_Q2_0 (Z : State) (ia ib ic : Int32) (a : Addr) (k : ClassId) (h0 : Heap) (n0 : Nat) (v : Option Value) (h : Heap) (L : List Loc) : Prop := ∃ (b : Addr) (kb : ClassId), v = some (.ref b) ∧ Fr n0 L ∧ Keep h0 h [] ∧ n0 ≤ b ∧ h0.size ≤ b ∧ Arv Z h b kb .int (0 : Int32) [] (.int (0 : Int32))
set_option maxRecDepth 65536 in
set_option maxHeartbeats 40000000 in
theorem own_rm2_0 (l : Launch) (Z : State) (a0 : Array Value) (hw : ∀ d ∈ tables_1, d.before a0 Z = true) (ws : List Jvm.Cond) (ia ib ic : Int32) (a : Addr) (k : ClassId) (h0 : Heap) (n0 : Nat) (Z0 : n0 ≤ h0.size) (OL : Old Z n0 h0) (Va : Arv Z h0 a k .int (0 : Int32) [] (.int (0 : Int32))) (Ea : Exa Z h0 a "[I") :
    MetFree l (⟨"java/util/Arrays", "copyOf", "([II)[I"⟩ : MethodName) (head1 (Jvm.Cond.code (⟨"java/util/Arrays", "copyOf", "([II)[I"⟩ : MethodName) jdk_65_method_123_code 3 (some (.array .int)) :: ws) ({ frames := 1, cells := 1, slots := 0, locals := 40 } : Room)) (fun aa_ U => aa_ = #[(.ref a), (.int (0 : Int32))] ∧ Z.Warmed39 U.vm ∧ U.heap = h0) (fun _ _ _ _ _ => True) (fun _ U o U' => ∃ v L, o = .returned v ∧ own_Q2_0 Z ia ib ic a k h0 n0 v U'.heap L ∧ FrameEnd U o U' L ({ frames := 1, cells := 1, slots := 0, locals := 40 } : Room).cells ({ frames := 1, cells := 1, slots := 0, locals := 40 } : Room).slots) := by
  refine MetFree.of_bodySF (plainFor_of_name own_pn0) hisR ?_
  intro p e s m args below meth c s₁ Bd hml0 hP hK
  obtain ⟨rfl, hZ, hh⟩ := hP
  have hx := Bd.exec
  have hby := Bd.bytes
  have hlk : meth.locks = false := BodyLoose.notSynchronized Bd
  have hml : c.maxLocals = 3 := hml0
  have hown : s.vm.findClass "java/util/Arrays" = some m.cls := findClass_of_methodNamed Bd.named
  have hnm := (name_of_methodNamed Bd.named Bd.method).1
  have X0 : Stand p l e ({ frames := 1, cells := 1, slots := 0, locals := 40 } : Room) s m #[(.ref a), (.int (0 : Int32))] below meth c s₁ [] 0 0 := Stand.of_body Bd
  have e0 : s₁.heap = h0 := by rw [← hh, Bd.state]; rfl
  have N0 := Fr.nil n0
  have KP : Keep h0 h0 [] := Keep.refl _ _
  refine own_start (Fin := (own_Fin s (own_Q2_0 Z ia ib ic a k h0 n0) ({ frames := 1, cells := 1, slots := 0, locals := 40 } : Room).cells ({ frames := 1, cells := 1, slots := 0, locals := 40 } : Room).slots)) (own_from (mkF m 0 #[rv a, iv 0, .unset] []) (castTop (own_ef_2_0 m a (0 : Int32))) ?_)
  refine own_to (T' := s₁) (mkF m 1 #[rv a, iv 0, .unset] [(.int (0 : Int32))]) (fun _ k => XS.iloadN X0.here hx rfl (hb hby own_d_jdk_65_method_123_0) rfl k) ?_
  refine own_to (T' := s₁) (mkF m 2 #[rv a, iv 0, .unset] [(.ref a), (.int (0 : Int32))]) (fun _ k => XS.aloadN X0.here hx rfl (hb hby own_d_jdk_65_method_123_1) rfl rfl k) ?_
  obtain ⟨cl1, Ar1, -, S1, M1, -, -⟩ := id Va
  refine own_to (mkF m 3 #[rv a, iv 0, .unset] [(.int (0 : Int32)), (.int (0 : Int32))]) (by have q := X0.arraylength hx (by rw [e0]; exact Ar1.1) (State.isArrayOf_alike hZ.alike Ar1.2.1) (g := (mkF m 2 #[rv a, iv 0, .unset] [(.ref a), (.int (0 : Int32))])) rfl rfl (hb hby own_d_jdk_65_method_123_2); rw [len_of S1 M1] at q; exact q) ?_
  refine own_to (T' := s₁) (mkF m 6 #[rv a, iv 0, .unset] []) (fun _ k => XS.icmpNo X0.here hx rfl (hb hby own_d_jdk_65_method_123_3) rfl (teq (by decide : (0 : Int32) = (0 : Int32))).2 k) ?_
  refine own_to (T' := s₁) (mkF m 7 #[rv a, iv 0, .unset] [(.ref a)]) (fun _ k => XS.aloadN X0.here hx rfl (hb hby own_d_jdk_65_method_123_6) rfl rfl k) ?_
  obtain ⟨T2, h2, X2, e2, E2, A2, B2, st2⟩ := cloneH X0 hx hZ hown (hw _ (List.mem_of_getElem? (i := 24) rfl)) (hw _ (List.mem_of_getElem? (i := 25) rfl)) (hw _ (List.mem_of_getElem? (i := 29) rfl)) (hw _ (List.mem_of_getElem? (i := 27) rfl)) (hw _ (List.mem_of_getElem? (i := 28) rfl)) (hw _ (List.mem_of_getElem? (i := 30) rfl)) e0 (Arv.arh Va) Ea (g := (mkF m 7 #[rv a, iv 0, .unset] [(.ref a)])) rfl (by rw [hml]; rfl) rfl (hb hby own_d_jdk_65_method_123_7) (by decide) (W := 0) (by show 2 * 0 + _ ≤ _; exact Nat.le_of_eq rfl) (by decide) (cap := 0) (by decide) (by decide) (by decide)
  obtain ⟨b2, g2⟩ : ∃ z, z = h0.size := ⟨_, rfl⟩
  rw [← g2] at A2 B2 st2
  have sz_b2 : h0.size ≤ b2 := Nat.le_trans KP.1 (Nat.le_of_eq g2.symm)
  have ge_b2 : n0 ≤ b2 := Nat.le_trans Z0 sz_b2
  have ne_a_b2 : a ≠ b2 := Nat.ne_of_lt (Nat.lt_of_lt_of_le Va.lt (Nat.le_of_eq g2.symm))
  have OL := OL.ext E2
  have KP := KP.ext E2
  have Va := Va.ext E2
  have Ea := Ea.ext E2
  have V_b2 : Arv Z h2 b2 k .int (0 : Int32) [] (.int (0 : Int32)) := A2
  have E_b2 : Exa Z h2 b2 "[I" := B2
  refine own_to (mkF m 10 #[rv a, iv 0, .unset] [(.ref b2)]) st2 ?_
  obtain ⟨T3, X3, e3, st3⟩ := castY X2 hx hZ hown (hw _ (List.mem_of_getElem? (i := 31) rfl)) e2 (Ins.self E_b2) (g := (mkF m 10 #[rv a, iv 0, .unset] [(.ref b2)])) rfl rfl (hb hby own_d_jdk_65_method_123_10)
  refine own_to (mkF m 13 #[rv a, iv 0, .unset] [(.ref b2)]) st3 ?_
  exact own_retA X3 hx Bd.returns rfl hlk (hb hby own_d_jdk_65_method_123_13) rfl (by decide) (by decide) (by rw [e3]; exact ⟨b2, k, rfl, N0, KP, ge_b2, sz_b2, V_b2⟩)
def own_Q2_1 (Z : State) (ia ib ic : Int32) (a : Addr) (k : ClassId) (h0 : Heap) (n0 : Nat) (v : Option Value) (h : Heap) (L : List Loc) : Prop := ∃ (b : Addr) (kb : ClassId), v = some (.ref b) ∧ Fr n0 L ∧ Keep h0 h [] ∧ n0 ≤ b ∧ h0.size ≤ b ∧ Arv Z h b kb .int (1 : Int32) [(.int ia)] (.int (0 : Int32))
set_option maxRecDepth 65536 in
set_option maxHeartbeats 40000000 in
theorem own_rm2_1 (l : Launch) (Z : State) (a0 : Array Value) (hw : ∀ d ∈ tables_1, d.before a0 Z = true) (ws : List Jvm.Cond) (ia ib ic : Int32) (a : Addr) (k : ClassId) (h0 : Heap) (n0 : Nat) (Z0 : n0 ≤ h0.size) (OL : Old Z n0 h0) (Va : Arv Z h0 a k .int (1 : Int32) [(.int ia)] (.int (0 : Int32))) (Ea : Exa Z h0 a "[I") :
    MetFree l (⟨"java/util/Arrays", "copyOf", "([II)[I"⟩ : MethodName) (head1 (Jvm.Cond.code (⟨"java/util/Arrays", "copyOf", "([II)[I"⟩ : MethodName) jdk_65_method_123_code 3 (some (.array .int)) :: ws) ({ frames := 1, cells := 1, slots := 1, locals := 40 } : Room)) (fun aa_ U => aa_ = #[(.ref a), (.int (1 : Int32))] ∧ Z.Warmed39 U.vm ∧ U.heap = h0) (fun _ _ _ _ _ => True) (fun _ U o U' => ∃ v L, o = .returned v ∧ own_Q2_1 Z ia ib ic a k h0 n0 v U'.heap L ∧ FrameEnd U o U' L ({ frames := 1, cells := 1, slots := 1, locals := 40 } : Room).cells ({ frames := 1, cells := 1, slots := 1, locals := 40 } : Room).slots) := by
  refine MetFree.of_bodySF (plainFor_of_name own_pn0) hisR ?_
  intro p e s m args below meth c s₁ Bd hml0 hP hK
  obtain ⟨rfl, hZ, hh⟩ := hP
  have hx := Bd.exec
  have hby := Bd.bytes
  have hlk : meth.locks = false := BodyLoose.notSynchronized Bd
  have hml : c.maxLocals = 3 := hml0
  have hown : s.vm.findClass "java/util/Arrays" = some m.cls := findClass_of_methodNamed Bd.named
  have hnm := (name_of_methodNamed Bd.named Bd.method).1
  have X0 : Stand p l e ({ frames := 1, cells := 1, slots := 1, locals := 40 } : Room) s m #[(.ref a), (.int (1 : Int32))] below meth c s₁ [] 0 0 := Stand.of_body Bd
  have e0 : s₁.heap = h0 := by rw [← hh, Bd.state]; rfl
  have N0 := Fr.nil n0
  have KP : Keep h0 h0 [] := Keep.refl _ _
  refine own_start (Fin := (own_Fin s (own_Q2_1 Z ia ib ic a k h0 n0) ({ frames := 1, cells := 1, slots := 1, locals := 40 } : Room).cells ({ frames := 1, cells := 1, slots := 1, locals := 40 } : Room).slots)) (own_from (mkF m 0 #[rv a, iv 1, .unset] []) (castTop (own_ef_2_1 m a (1 : Int32))) ?_)
  refine own_to (T' := s₁) (mkF m 1 #[rv a, iv 1, .unset] [(.int (1 : Int32))]) (fun _ k => XS.iloadN X0.here hx rfl (hb hby own_d_jdk_65_method_123_0) rfl k) ?_
  refine own_to (T' := s₁) (mkF m 2 #[rv a, iv 1, .unset] [(.ref a), (.int (1 : Int32))]) (fun _ k => XS.aloadN X0.here hx rfl (hb hby own_d_jdk_65_method_123_1) rfl rfl k) ?_
  obtain ⟨cl4, Ar4, -, S4, M4, -, -⟩ := id Va
  refine own_to (mkF m 3 #[rv a, iv 1, .unset] [(.int (1 : Int32)), (.int (1 : Int32))]) (by have q := X0.arraylength hx (by rw [e0]; exact Ar4.1) (State.isArrayOf_alike hZ.alike Ar4.2.1) (g := (mkF m 2 #[rv a, iv 1, .unset] [(.ref a), (.int (1 : Int32))])) rfl rfl (hb hby own_d_jdk_65_method_123_2); rw [len_of S4 M4] at q; exact q) ?_
  refine own_to (T' := s₁) (mkF m 6 #[rv a, iv 1, .unset] []) (fun _ k => XS.icmpNo X0.here hx rfl (hb hby own_d_jdk_65_method_123_3) rfl (teq (by decide : (1 : Int32) = (1 : Int32))).2 k) ?_
  refine own_to (T' := s₁) (mkF m 7 #[rv a, iv 1, .unset] [(.ref a)]) (fun _ k => XS.aloadN X0.here hx rfl (hb hby own_d_jdk_65_method_123_6) rfl rfl k) ?_
  obtain ⟨T5, h5, X5, e5, E5, A5, B5, st5⟩ := cloneH X0 hx hZ hown (hw _ (List.mem_of_getElem? (i := 24) rfl)) (hw _ (List.mem_of_getElem? (i := 25) rfl)) (hw _ (List.mem_of_getElem? (i := 29) rfl)) (hw _ (List.mem_of_getElem? (i := 27) rfl)) (hw _ (List.mem_of_getElem? (i := 28) rfl)) (hw _ (List.mem_of_getElem? (i := 30) rfl)) e0 (Arv.arh Va) Ea (g := (mkF m 7 #[rv a, iv 1, .unset] [(.ref a)])) rfl (by rw [hml]; rfl) rfl (hb hby own_d_jdk_65_method_123_7) (by decide) (W := 0) (by show 2 * 0 + _ ≤ _; exact Nat.le_of_eq rfl) (by decide) (cap := 1) (by decide) (by decide) (by decide)
  obtain ⟨b5, g5⟩ : ∃ z, z = h0.size := ⟨_, rfl⟩
  rw [← g5] at A5 B5 st5
  have sz_b5 : h0.size ≤ b5 := Nat.le_trans KP.1 (Nat.le_of_eq g5.symm)
  have ge_b5 : n0 ≤ b5 := Nat.le_trans Z0 sz_b5
  have ne_a_b5 : a ≠ b5 := Nat.ne_of_lt (Nat.lt_of_lt_of_le Va.lt (Nat.le_of_eq g5.symm))
  have OL := OL.ext E5
  have KP := KP.ext E5
  have Va := Va.ext E5
  have Ea := Ea.ext E5
  have V_b5 : Arv Z h5 b5 k .int (1 : Int32) [(.int ia)] (.int (0 : Int32)) := A5
  have E_b5 : Exa Z h5 b5 "[I" := B5
  refine own_to (mkF m 10 #[rv a, iv 1, .unset] [(.ref b5)]) st5 ?_
  obtain ⟨T6, X6, e6, st6⟩ := castY X5 hx hZ hown (hw _ (List.mem_of_getElem? (i := 31) rfl)) e5 (Ins.self E_b5) (g := (mkF m 10 #[rv a, iv 1, .unset] [(.ref b5)])) rfl rfl (hb hby own_d_jdk_65_method_123_10)
  refine own_to (mkF m 13 #[rv a, iv 1, .unset] [(.ref b5)]) st6 ?_
  exact own_retA X6 hx Bd.returns rfl hlk (hb hby own_d_jdk_65_method_123_13) rfl (by decide) (by decide) (by rw [e6]; exact ⟨b5, k, rfl, N0, KP, ge_b5, sz_b5, V_b5⟩)
def own_Q2_2 (Z : State) (ia ib ic : Int32) (a : Addr) (k : ClassId) (h0 : Heap) (n0 : Nat) (v : Option Value) (h : Heap) (L : List Loc) : Prop := ∃ (b : Addr) (kb : ClassId), v = some (.ref b) ∧ Fr n0 L ∧ Keep h0 h [] ∧ n0 ≤ b ∧ h0.size ≤ b ∧ Arv Z h b kb .int (1 : Int32) [(.int ia)] (.int (0 : Int32))
set_option maxRecDepth 65536 in
set_option maxHeartbeats 40000000 in
theorem own_rm2_2 (l : Launch) (Z : State) (a0 : Array Value) (hw : ∀ d ∈ tables_1, d.before a0 Z = true) (ws : List Jvm.Cond) (ia ib ic : Int32) (a : Addr) (k : ClassId) (h0 : Heap) (n0 : Nat) (Z0 : n0 ≤ h0.size) (OL : Old Z n0 h0) (Va : Arv Z h0 a k .int (2 : Int32) [(.int ia), (.int ib)] (.int (0 : Int32))) (Ea : Exa Z h0 a "[I") :
    MetFree l (⟨"java/util/Arrays", "copyOf", "([II)[I"⟩ : MethodName) (head1 (Jvm.Cond.code (⟨"java/util/Arrays", "copyOf", "([II)[I"⟩ : MethodName) jdk_65_method_123_code 3 (some (.array .int)) :: ws) ({ frames := 1, cells := 1, slots := 1, locals := 40 } : Room)) (fun aa_ U => aa_ = #[(.ref a), (.int (1 : Int32))] ∧ Z.Warmed39 U.vm ∧ U.heap = h0) (fun _ _ _ _ _ => True) (fun _ U o U' => ∃ v L, o = .returned v ∧ own_Q2_2 Z ia ib ic a k h0 n0 v U'.heap L ∧ FrameEnd U o U' L ({ frames := 1, cells := 1, slots := 1, locals := 40 } : Room).cells ({ frames := 1, cells := 1, slots := 1, locals := 40 } : Room).slots) := by
  refine MetFree.of_bodySF (plainFor_of_name own_pn0) hisR ?_
  intro p e s m args below meth c s₁ Bd hml0 hP hK
  obtain ⟨rfl, hZ, hh⟩ := hP
  have hx := Bd.exec
  have hby := Bd.bytes
  have hlk : meth.locks = false := BodyLoose.notSynchronized Bd
  have hml : c.maxLocals = 3 := hml0
  have hown : s.vm.findClass "java/util/Arrays" = some m.cls := findClass_of_methodNamed Bd.named
  have hnm := (name_of_methodNamed Bd.named Bd.method).1
  have X0 : Stand p l e ({ frames := 1, cells := 1, slots := 1, locals := 40 } : Room) s m #[(.ref a), (.int (1 : Int32))] below meth c s₁ [] 0 0 := Stand.of_body Bd
  have e0 : s₁.heap = h0 := by rw [← hh, Bd.state]; rfl
  have N0 := Fr.nil n0
  have KP : Keep h0 h0 [] := Keep.refl _ _
  refine own_start (Fin := (own_Fin s (own_Q2_2 Z ia ib ic a k h0 n0) ({ frames := 1, cells := 1, slots := 1, locals := 40 } : Room).cells ({ frames := 1, cells := 1, slots := 1, locals := 40 } : Room).slots)) (own_from (mkF m 0 #[rv a, iv 1, .unset] []) (castTop (own_ef_2_2 m a (1 : Int32))) ?_)
  refine own_to (T' := s₁) (mkF m 1 #[rv a, iv 1, .unset] [(.int (1 : Int32))]) (fun _ k => XS.iloadN X0.here hx rfl (hb hby own_d_jdk_65_method_123_0) rfl k) ?_
  refine own_to (T' := s₁) (mkF m 2 #[rv a, iv 1, .unset] [(.ref a), (.int (1 : Int32))]) (fun _ k => XS.aloadN X0.here hx rfl (hb hby own_d_jdk_65_method_123_1) rfl rfl k) ?_
  obtain ⟨cl7, Ar7, -, S7, M7, -, -⟩ := id Va
  refine own_to (mkF m 3 #[rv a, iv 1, .unset] [(.int (2 : Int32)), (.int (1 : Int32))]) (by have q := X0.arraylength hx (by rw [e0]; exact Ar7.1) (State.isArrayOf_alike hZ.alike Ar7.2.1) (g := (mkF m 2 #[rv a, iv 1, .unset] [(.ref a), (.int (1 : Int32))])) rfl rfl (hb hby own_d_jdk_65_method_123_2); rw [len_of S7 M7] at q; exact q) ?_
  refine own_to (T' := s₁) (mkF m 14 #[rv a, iv 1, .unset] []) (fun _ k => XS.icmpYes X0.here hx rfl (pc0 := 3) (pc' := 14) rfl (hb hby own_d_jdk_65_method_123_3) rfl (feq (by decide : ¬ ((1 : Int32) = (2 : Int32)))).2 (by decide) (by decide) k) ?_
  refine own_to (T' := s₁) (mkF m 15 #[rv a, iv 1, .unset] [(.int (1 : Int32))]) (fun _ k => XS.iloadN X0.here hx rfl (hb hby own_d_jdk_65_method_123_14) rfl k) ?_
  obtain ⟨T8, h8, k8, X8, e8, E8, A8, B8, st8⟩ := newPE X0 hx hZ (hw _ (List.mem_of_getElem? (i := 3) rfl)) e0 (g := (mkF m 15 #[rv a, iv 1, .unset] [(.int (1 : Int32))])) rfl (hb hby own_d_jdk_65_method_123_15) rfl (by decide) (cap := 1) (by decide) (by decide) (by decide) (by decide) (ad := "[I") (by decide)
  obtain ⟨b8, g8⟩ : ∃ z, z = h0.size := ⟨_, rfl⟩
  rw [← g8] at A8 B8 st8
  have sz_b8 : h0.size ≤ b8 := Nat.le_trans KP.1 (Nat.le_of_eq g8.symm)
  have ge_b8 : n0 ≤ b8 := Nat.le_trans Z0 sz_b8
  have ne_a_b8 : a ≠ b8 := Nat.ne_of_lt (Nat.lt_of_lt_of_le Va.lt (Nat.le_of_eq g8.symm))
  have OL := OL.ext E8
  have KP := KP.ext E8
  have Va := Va.ext E8
  have Ea := Ea.ext E8
  have E_b8 : Exa Z h8 b8 "[I" := B8
  have V_b8 : Arv Z h8 b8 k8 .int (1 : Int32) [(.int (0 : Int32))] (.int (0 : Int32)) := (Arv.new A8 (by decide)).pad (pad_rep [] (.int (0 : Int32)) 1)
  refine own_to (mkF m 17 #[rv a, iv 1, .unset] [(.ref b8)]) st8 ?_
  refine own_to (T' := T8) (mkF m 18 #[rv a, iv 1, rv b8] []) (fun _ k => XS.astoreN X8.here hx rfl (hb hby own_d_jdk_65_method_123_17) rfl rfl (l' := #[rv a, iv 1, rv b8]) rfl k) ?_
  refine own_to (T' := T8) (mkF m 19 #[rv a, iv 1, rv b8] [(.ref a)]) (fun _ k => XS.aloadN X8.here hx rfl (hb hby own_d_jdk_65_method_123_18) rfl rfl k) ?_
  refine own_to (T' := T8) (mkF m 20 #[rv a, iv 1, rv b8] [(.int (0 : Int32)), (.ref a)]) (fun _ k => XS.iconst X8.here hx rfl (hb hby own_d_jdk_65_method_123_19) k) ?_
  refine own_to (T' := T8) (mkF m 21 #[rv a, iv 1, rv b8] [(.ref b8), (.int (0 : Int32)), (.ref a)]) (fun _ k => XS.aloadN X8.here hx rfl (hb hby own_d_jdk_65_method_123_20) rfl rfl k) ?_
  refine own_to (T' := T8) (mkF m 22 #[rv a, iv 1, rv b8] [(.int (0 : Int32)), (.ref b8), (.int (0 : Int32)), (.ref a)]) (fun _ k => XS.iconst X8.here hx rfl (hb hby own_d_jdk_65_method_123_21) k) ?_
  refine own_to (T' := T8) (mkF m 23 #[rv a, iv 1, rv b8] [(.ref a), (.int (0 : Int32)), (.ref b8), (.int (0 : Int32)), (.ref a)]) (fun _ k => XS.aloadN X8.here hx rfl (hb hby own_d_jdk_65_method_123_22) rfl rfl k) ?_
  obtain ⟨cl9, Ar9, -, S9, M9, -, -⟩ := id Va
  refine own_to (mkF m 24 #[rv a, iv 1, rv b8] [(.int (2 : Int32)), (.int (0 : Int32)), (.ref b8), (.int (0 : Int32)), (.ref a)]) (by have q := X8.arraylength hx (by rw [e8]; exact Ar9.1) (State.isArrayOf_alike hZ.alike Ar9.2.1) (g := (mkF m 23 #[rv a, iv 1, rv b8] [(.ref a), (.int (0 : Int32)), (.ref b8), (.int (0 : Int32)), (.ref a)])) rfl rfl (hb hby own_d_jdk_65_method_123_23); rw [len_of S9 M9] at q; exact q) ?_
  refine own_to (T' := T8) (mkF m 25 #[rv a, iv 1, rv b8] [(.int (1 : Int32)), (.int (2 : Int32)), (.int (0 : Int32)), (.ref b8), (.int (0 : Int32)), (.ref a)]) (fun _ k => XS.iloadN X8.here hx rfl (hb hby own_d_jdk_65_method_123_24) rfl k) ?_
  obtain ⟨_, _, ⟨T10, L10, k10, n10⟩, -, X10, ⟨Lc10, hQ10, l10, y10, z10⟩, st10⟩ := Jvm.LawKit.callS X8 hx (y := (⟨"java/lang/Math", "min", "(II)I"⟩ : MethodName)) hown (mvT hZ (hw _ (List.mem_of_getElem? (i := 33) rfl))) (mvT hZ (hw _ (List.mem_of_getElem? (i := 17) rfl))) (mvT hZ (hw _ (List.mem_of_getElem? (i := 18) rfl))) (mvT hZ (hw _ (List.mem_of_getElem? (i := 19) rfl))) (by decide) (backOf (W := 4) (own_rm1 l Z a0 hw [] (1 : Int32) (2 : Int32) (1 : Int32) h8 n0 (Nat.le_trans Z0 KP.1) OL (by decide)) hZ (hw _ (List.mem_of_getElem? (i := 19) rfl)) (hw _ (List.mem_of_getElem? (i := 18) rfl)) (by decide) (by decide)) (g := (mkF m 25 #[rv a, iv 1, rv b8] [(.int (1 : Int32)), (.int (2 : Int32)), (.int (0 : Int32)), (.ref b8), (.int (0 : Int32)), (.ref a)])) rfl (by rw [hml]; rfl) (argsL := [(.int (2 : Int32)), (.int (1 : Int32))]) (rest := [(.int (0 : Int32)), (.ref b8), (.int (0 : Int32)), (.ref a)]) (lenOf own_pd0 rfl) rfl (by show 2 * 0 + _ ≤ _; exact Nat.le_of_eq rfl) (hb hby own_d_jdk_65_method_123_25) (fun _ _ => ⟨rfl, e8, (by decide : 1 + 0 ≤ _), (by decide : 1 + 0 ≤ _)⟩)
  dsimp only [Pt.U, Pt.locs, Pt.cells, Pt.slots] at X10 l10 y10 z10 st10 hQ10
  subst l10 y10 z10
  obtain ⟨rfl, N10q, e10⟩ := hQ10
  have N10 := Fr.app N0 N10q
  refine own_to (mkF m 28 #[rv a, iv 1, rv b8] [(.int (1 : Int32)), (.int (0 : Int32)), (.ref b8), (.int (0 : Int32)), (.ref a)]) st10 ?_
  obtain ⟨T11, h11, L11, X11, e11, N11, K11, A11, st11⟩ := cpA X10 hx hZ hown (hw _ (List.mem_of_getElem? (i := 34) rfl)) (hw _ (List.mem_of_getElem? (i := 37) rfl)) (hw _ (List.mem_of_getElem? (i := 35) rfl)) (hw _ (List.mem_of_getElem? (i := 36) rfl)) e10 Va V_b8 (us := [(.int ia)]) (Or.inl ⟨rfl, rfl⟩) (by decide) (by decide) (by decide) (by decide) (by decide) rfl (by decide) N10 ge_b8 (g := (mkF m 28 #[rv a, iv 1, rv b8] [(.int (1 : Int32)), (.int (0 : Int32)), (.ref b8), (.int (0 : Int32)), (.ref a)])) rfl (by rw [hml]; rfl) rfl (hb hby own_d_jdk_65_method_123_28) (by decide) (W := 0) (by show 2 * 0 + _ ≤ _; exact Nat.le_of_eq rfl) (by decide)
  have OL := OL.keep K11 (allS ge_b8 all0)
  have KP := KP.trans K11 (allS (Or.inr sz_b8) all0)
  have Va := Va.keep K11 (ninS ne_a_b8 nin0)
  have Ea := Ea.keep K11
  have E_b8 := E_b8.keep K11
  have V_b8 : Arv Z h11 b8 k8 .int (1 : Int32) [(.int ia)] (.int (0 : Int32)) := A11
  refine own_to (mkF m 31 #[rv a, iv 1, rv b8] []) st11 ?_
  refine own_to (T' := T11) (mkF m 32 #[rv a, iv 1, rv b8] [(.ref b8)]) (fun _ k => XS.aloadN X11.here hx rfl (hb hby own_d_jdk_65_method_123_31) rfl rfl k) ?_
  exact own_retA X11 hx Bd.returns rfl hlk (hb hby own_d_jdk_65_method_123_32) rfl (by decide) (by decide) (by rw [e11]; exact ⟨b8, k8, rfl, N11, KP, ge_b8, sz_b8, V_b8⟩)
def own_Q2_3 (Z : State) (ia ib ic : Int32) (a : Addr) (k : ClassId) (h0 : Heap) (n0 : Nat) (v : Option Value) (h : Heap) (L : List Loc) : Prop := ∃ (b : Addr) (kb : ClassId), v = some (.ref b) ∧ Fr n0 L ∧ Keep h0 h [] ∧ n0 ≤ b ∧ h0.size ≤ b ∧ Arv Z h b kb .int (1 : Int32) [(.int ia)] (.int (0 : Int32))
set_option maxRecDepth 65536 in
set_option maxHeartbeats 40000000 in
theorem own_rm2_3 (l : Launch) (Z : State) (a0 : Array Value) (hw : ∀ d ∈ tables_1, d.before a0 Z = true) (ws : List Jvm.Cond) (ia ib ic : Int32) (a : Addr) (k : ClassId) (h0 : Heap) (n0 : Nat) (Z0 : n0 ≤ h0.size) (OL : Old Z n0 h0) (Va : Arv Z h0 a k .int (3 : Int32) [(.int ia), (.int ib), (.int ic)] (.int (0 : Int32))) (Ea : Exa Z h0 a "[I") :
    MetFree l (⟨"java/util/Arrays", "copyOf", "([II)[I"⟩ : MethodName) (head1 (Jvm.Cond.code (⟨"java/util/Arrays", "copyOf", "([II)[I"⟩ : MethodName) jdk_65_method_123_code 3 (some (.array .int)) :: ws) ({ frames := 1, cells := 1, slots := 1, locals := 40 } : Room)) (fun aa_ U => aa_ = #[(.ref a), (.int (1 : Int32))] ∧ Z.Warmed39 U.vm ∧ U.heap = h0) (fun _ _ _ _ _ => True) (fun _ U o U' => ∃ v L, o = .returned v ∧ own_Q2_3 Z ia ib ic a k h0 n0 v U'.heap L ∧ FrameEnd U o U' L ({ frames := 1, cells := 1, slots := 1, locals := 40 } : Room).cells ({ frames := 1, cells := 1, slots := 1, locals := 40 } : Room).slots) := by
  refine MetFree.of_bodySF (plainFor_of_name own_pn0) hisR ?_
  intro p e s m args below meth c s₁ Bd hml0 hP hK
  obtain ⟨rfl, hZ, hh⟩ := hP
  have hx := Bd.exec
  have hby := Bd.bytes
  have hlk : meth.locks = false := BodyLoose.notSynchronized Bd
  have hml : c.maxLocals = 3 := hml0
  have hown : s.vm.findClass "java/util/Arrays" = some m.cls := findClass_of_methodNamed Bd.named
  have hnm := (name_of_methodNamed Bd.named Bd.method).1
  have X0 : Stand p l e ({ frames := 1, cells := 1, slots := 1, locals := 40 } : Room) s m #[(.ref a), (.int (1 : Int32))] below meth c s₁ [] 0 0 := Stand.of_body Bd
  have e0 : s₁.heap = h0 := by rw [← hh, Bd.state]; rfl
  have N0 := Fr.nil n0
  have KP : Keep h0 h0 [] := Keep.refl _ _
  refine own_start (Fin := (own_Fin s (own_Q2_3 Z ia ib ic a k h0 n0) ({ frames := 1, cells := 1, slots := 1, locals := 40 } : Room).cells ({ frames := 1, cells := 1, slots := 1, locals := 40 } : Room).slots)) (own_from (mkF m 0 #[rv a, iv 1, .unset] []) (castTop (own_ef_2_3 m a (1 : Int32))) ?_)
  refine own_to (T' := s₁) (mkF m 1 #[rv a, iv 1, .unset] [(.int (1 : Int32))]) (fun _ k => XS.iloadN X0.here hx rfl (hb hby own_d_jdk_65_method_123_0) rfl k) ?_
  refine own_to (T' := s₁) (mkF m 2 #[rv a, iv 1, .unset] [(.ref a), (.int (1 : Int32))]) (fun _ k => XS.aloadN X0.here hx rfl (hb hby own_d_jdk_65_method_123_1) rfl rfl k) ?_
  obtain ⟨cl12, Ar12, -, S12, M12, -, -⟩ := id Va
  refine own_to (mkF m 3 #[rv a, iv 1, .unset] [(.int (3 : Int32)), (.int (1 : Int32))]) (by have q := X0.arraylength hx (by rw [e0]; exact Ar12.1) (State.isArrayOf_alike hZ.alike Ar12.2.1) (g := (mkF m 2 #[rv a, iv 1, .unset] [(.ref a), (.int (1 : Int32))])) rfl rfl (hb hby own_d_jdk_65_method_123_2); rw [len_of S12 M12] at q; exact q) ?_
  refine own_to (T' := s₁) (mkF m 14 #[rv a, iv 1, .unset] []) (fun _ k => XS.icmpYes X0.here hx rfl (pc0 := 3) (pc' := 14) rfl (hb hby own_d_jdk_65_method_123_3) rfl (feq (by decide : ¬ ((1 : Int32) = (3 : Int32)))).2 (by decide) (by decide) k) ?_
  refine own_to (T' := s₁) (mkF m 15 #[rv a, iv 1, .unset] [(.int (1 : Int32))]) (fun _ k => XS.iloadN X0.here hx rfl (hb hby own_d_jdk_65_method_123_14) rfl k) ?_
  obtain ⟨T13, h13, k13, X13, e13, E13, A13, B13, st13⟩ := newPE X0 hx hZ (hw _ (List.mem_of_getElem? (i := 3) rfl)) e0 (g := (mkF m 15 #[rv a, iv 1, .unset] [(.int (1 : Int32))])) rfl (hb hby own_d_jdk_65_method_123_15) rfl (by decide) (cap := 1) (by decide) (by decide) (by decide) (by decide) (ad := "[I") (by decide)
  obtain ⟨b13, g13⟩ : ∃ z, z = h0.size := ⟨_, rfl⟩
  rw [← g13] at A13 B13 st13
  have sz_b13 : h0.size ≤ b13 := Nat.le_trans KP.1 (Nat.le_of_eq g13.symm)
  have ge_b13 : n0 ≤ b13 := Nat.le_trans Z0 sz_b13
  have ne_a_b13 : a ≠ b13 := Nat.ne_of_lt (Nat.lt_of_lt_of_le Va.lt (Nat.le_of_eq g13.symm))
  have OL := OL.ext E13
  have KP := KP.ext E13
  have Va := Va.ext E13
  have Ea := Ea.ext E13
  have E_b13 : Exa Z h13 b13 "[I" := B13
  have V_b13 : Arv Z h13 b13 k13 .int (1 : Int32) [(.int (0 : Int32))] (.int (0 : Int32)) := (Arv.new A13 (by decide)).pad (pad_rep [] (.int (0 : Int32)) 1)
  refine own_to (mkF m 17 #[rv a, iv 1, .unset] [(.ref b13)]) st13 ?_
  refine own_to (T' := T13) (mkF m 18 #[rv a, iv 1, rv b13] []) (fun _ k => XS.astoreN X13.here hx rfl (hb hby own_d_jdk_65_method_123_17) rfl rfl (l' := #[rv a, iv 1, rv b13]) rfl k) ?_
  refine own_to (T' := T13) (mkF m 19 #[rv a, iv 1, rv b13] [(.ref a)]) (fun _ k => XS.aloadN X13.here hx rfl (hb hby own_d_jdk_65_method_123_18) rfl rfl k) ?_
  refine own_to (T' := T13) (mkF m 20 #[rv a, iv 1, rv b13] [(.int (0 : Int32)), (.ref a)]) (fun _ k => XS.iconst X13.here hx rfl (hb hby own_d_jdk_65_method_123_19) k) ?_
  refine own_to (T' := T13) (mkF m 21 #[rv a, iv 1, rv b13] [(.ref b13), (.int (0 : Int32)), (.ref a)]) (fun _ k => XS.aloadN X13.here hx rfl (hb hby own_d_jdk_65_method_123_20) rfl rfl k) ?_
  refine own_to (T' := T13) (mkF m 22 #[rv a, iv 1, rv b13] [(.int (0 : Int32)), (.ref b13), (.int (0 : Int32)), (.ref a)]) (fun _ k => XS.iconst X13.here hx rfl (hb hby own_d_jdk_65_method_123_21) k) ?_
  refine own_to (T' := T13) (mkF m 23 #[rv a, iv 1, rv b13] [(.ref a), (.int (0 : Int32)), (.ref b13), (.int (0 : Int32)), (.ref a)]) (fun _ k => XS.aloadN X13.here hx rfl (hb hby own_d_jdk_65_method_123_22) rfl rfl k) ?_
  obtain ⟨cl14, Ar14, -, S14, M14, -, -⟩ := id Va
  refine own_to (mkF m 24 #[rv a, iv 1, rv b13] [(.int (3 : Int32)), (.int (0 : Int32)), (.ref b13), (.int (0 : Int32)), (.ref a)]) (by have q := X13.arraylength hx (by rw [e13]; exact Ar14.1) (State.isArrayOf_alike hZ.alike Ar14.2.1) (g := (mkF m 23 #[rv a, iv 1, rv b13] [(.ref a), (.int (0 : Int32)), (.ref b13), (.int (0 : Int32)), (.ref a)])) rfl rfl (hb hby own_d_jdk_65_method_123_23); rw [len_of S14 M14] at q; exact q) ?_
  refine own_to (T' := T13) (mkF m 25 #[rv a, iv 1, rv b13] [(.int (1 : Int32)), (.int (3 : Int32)), (.int (0 : Int32)), (.ref b13), (.int (0 : Int32)), (.ref a)]) (fun _ k => XS.iloadN X13.here hx rfl (hb hby own_d_jdk_65_method_123_24) rfl k) ?_
  obtain ⟨_, _, ⟨T15, L15, k15, n15⟩, -, X15, ⟨Lc15, hQ15, l15, y15, z15⟩, st15⟩ := Jvm.LawKit.callS X13 hx (y := (⟨"java/lang/Math", "min", "(II)I"⟩ : MethodName)) hown (mvT hZ (hw _ (List.mem_of_getElem? (i := 33) rfl))) (mvT hZ (hw _ (List.mem_of_getElem? (i := 17) rfl))) (mvT hZ (hw _ (List.mem_of_getElem? (i := 18) rfl))) (mvT hZ (hw _ (List.mem_of_getElem? (i := 19) rfl))) (by decide) (backOf (W := 4) (own_rm1 l Z a0 hw [] (1 : Int32) (3 : Int32) (1 : Int32) h13 n0 (Nat.le_trans Z0 KP.1) OL (by decide)) hZ (hw _ (List.mem_of_getElem? (i := 19) rfl)) (hw _ (List.mem_of_getElem? (i := 18) rfl)) (by decide) (by decide)) (g := (mkF m 25 #[rv a, iv 1, rv b13] [(.int (1 : Int32)), (.int (3 : Int32)), (.int (0 : Int32)), (.ref b13), (.int (0 : Int32)), (.ref a)])) rfl (by rw [hml]; rfl) (argsL := [(.int (3 : Int32)), (.int (1 : Int32))]) (rest := [(.int (0 : Int32)), (.ref b13), (.int (0 : Int32)), (.ref a)]) (lenOf own_pd0 rfl) rfl (by show 2 * 0 + _ ≤ _; exact Nat.le_of_eq rfl) (hb hby own_d_jdk_65_method_123_25) (fun _ _ => ⟨rfl, e13, (by decide : 1 + 0 ≤ _), (by decide : 1 + 0 ≤ _)⟩)
  dsimp only [Pt.U, Pt.locs, Pt.cells, Pt.slots] at X15 l15 y15 z15 st15 hQ15
  subst l15 y15 z15
  obtain ⟨rfl, N15q, e15⟩ := hQ15
  have N15 := Fr.app N0 N15q
  refine own_to (mkF m 28 #[rv a, iv 1, rv b13] [(.int (1 : Int32)), (.int (0 : Int32)), (.ref b13), (.int (0 : Int32)), (.ref a)]) st15 ?_
  obtain ⟨T16, h16, L16, X16, e16, N16, K16, A16, st16⟩ := cpA X15 hx hZ hown (hw _ (List.mem_of_getElem? (i := 34) rfl)) (hw _ (List.mem_of_getElem? (i := 37) rfl)) (hw _ (List.mem_of_getElem? (i := 35) rfl)) (hw _ (List.mem_of_getElem? (i := 36) rfl)) e15 Va V_b13 (us := [(.int ia)]) (Or.inl ⟨rfl, rfl⟩) (by decide) (by decide) (by decide) (by decide) (by decide) rfl (by decide) N15 ge_b13 (g := (mkF m 28 #[rv a, iv 1, rv b13] [(.int (1 : Int32)), (.int (0 : Int32)), (.ref b13), (.int (0 : Int32)), (.ref a)])) rfl (by rw [hml]; rfl) rfl (hb hby own_d_jdk_65_method_123_28) (by decide) (W := 0) (by show 2 * 0 + _ ≤ _; exact Nat.le_of_eq rfl) (by decide)
  have OL := OL.keep K16 (allS ge_b13 all0)
  have KP := KP.trans K16 (allS (Or.inr sz_b13) all0)
  have Va := Va.keep K16 (ninS ne_a_b13 nin0)
  have Ea := Ea.keep K16
  have E_b13 := E_b13.keep K16
  have V_b13 : Arv Z h16 b13 k13 .int (1 : Int32) [(.int ia)] (.int (0 : Int32)) := A16
  refine own_to (mkF m 31 #[rv a, iv 1, rv b13] []) st16 ?_
  refine own_to (T' := T16) (mkF m 32 #[rv a, iv 1, rv b13] [(.ref b13)]) (fun _ k => XS.aloadN X16.here hx rfl (hb hby own_d_jdk_65_method_123_31) rfl rfl k) ?_
  exact own_retA X16 hx Bd.returns rfl hlk (hb hby own_d_jdk_65_method_123_32) rfl (by decide) (by decide) (by rw [e16]; exact ⟨b13, k13, rfl, N16, KP, ge_b13, sz_b13, V_b13⟩)
def own_Q3F_0 (Z : State) (ia ib ic : Int32) (aF a : Addr) (k : ClassId) (h0 : Heap) (n0 : Nat) (v : Option Value) (h : Heap) (L : List Loc) : Prop := ∃ (b : Addr) (kb : ClassId), v = some (.ref b) ∧ Fr n0 L ∧ Keep h0 h [] ∧ n0 ≤ b ∧ h0.size ≤ b ∧ Arv Z h b kb .int (0 : Int32) [] (.int (0 : Int32))
set_option maxRecDepth 65536 in
set_option maxHeartbeats 40000000 in
theorem own_rm3F_0 (l : Launch) (Z : State) (a0 : Array Value) (hw : ∀ d ∈ tables_1, d.before a0 Z = true) (ws : List Jvm.Cond) (ia ib ic : Int32) (aF a : Addr) (k : ClassId) (h0 : Heap) (n0 : Nat) (Z0 : n0 ≤ h0.size) (OL : Old Z n0 h0) (SF : Sta Z Z.heap "com/example/steady_expansion/steadyexpansion/WordNet$Senses" "FIRST" "Lcom/example/steady_expansion/steadyexpansion/WordNet$Senses;" (.ref aF)) (Va : Arv Z h0 a k .int (0 : Int32) [] (.int (0 : Int32))) (Ea : Exa Z h0 a "[I") :
    MetFree l (⟨"com/example/steady_expansion/steadyexpansion/WordNet$Senses", "offsets", "([I)[I"⟩ : MethodName) (head1 (Jvm.Cond.code (⟨"com/example/steady_expansion/steadyexpansion/WordNet$Senses", "offsets", "([I)[I"⟩ : MethodName) prog_36_method_5_code 2 (some (.array .int)) :: ws) ({ frames := 2, cells := 1, slots := 0, locals := 70 } : Room)) (fun aa_ U => aa_ = #[(.ref aF), (.ref a)] ∧ Z.Warmed39 U.vm ∧ U.heap = h0) (fun _ _ _ _ _ => True) (fun _ U o U' => ∃ v L, o = .returned v ∧ own_Q3F_0 Z ia ib ic aF a k h0 n0 v U'.heap L ∧ FrameEnd U o U' L ({ frames := 2, cells := 1, slots := 0, locals := 70 } : Room).cells ({ frames := 2, cells := 1, slots := 0, locals := 70 } : Room).slots) := by
  refine MetFree.of_bodySF (plainFor_of_name own_pn1) hisR ?_
  intro p e s m args below meth c s₁ Bd hml0 hP hK
  obtain ⟨rfl, hZ, hh⟩ := hP
  have hx := Bd.exec
  have hby := Bd.bytes
  have hlk : meth.locks = false := BodyLoose.notSynchronized Bd
  have hml : c.maxLocals = 2 := hml0
  have hown : s.vm.findClass "com/example/steady_expansion/steadyexpansion/WordNet$Senses" = some m.cls := findClass_of_methodNamed Bd.named
  have hnm := (name_of_methodNamed Bd.named Bd.method).1
  have X0 : Stand p l e ({ frames := 2, cells := 1, slots := 0, locals := 70 } : Room) s m #[(.ref aF), (.ref a)] below meth c s₁ [] 0 0 := Stand.of_body Bd
  have e0 : s₁.heap = h0 := by rw [← hh, Bd.state]; rfl
  have N0 := Fr.nil n0
  have KP : Keep h0 h0 [] := Keep.refl _ _
  refine own_start (Fin := (own_Fin s (own_Q3F_0 Z ia ib ic aF a k h0 n0) ({ frames := 2, cells := 1, slots := 0, locals := 70 } : Room).cells ({ frames := 2, cells := 1, slots := 0, locals := 70 } : Room).slots)) (own_from (mkF m 0 #[rv aF, rv a] []) (castTop (own_ef_3F_0 m aF a)) ?_)
  refine own_to (T' := s₁) (mkF m 1 #[rv aF, rv a] [(.ref aF)]) (fun _ k => XS.aloadN X0.here hx rfl (hb hby own_d_prog_36_method_5_0) rfl rfl k) ?_
  obtain ⟨T17, X17, e17, st17⟩ := getS2 X0 hx hZ hown (host := "") (Or.inl (hw _ (List.mem_of_getElem? (i := 9) rfl))) Via.refl e0 (SF.ext OL.2) (g := (mkF m 1 #[rv aF, rv a] [(.ref aF)])) rfl (hb hby own_d_prog_36_method_5_1)
  refine own_to (mkF m 4 #[rv aF, rv a] [(.ref aF), (.ref aF)]) st17 ?_
  refine own_to (T' := T17) (mkF m 7 #[rv aF, rv a] []) (fun _ k => Jvm.RoadKit.acmp (g := (mkF m 4 #[rv aF, rv a] [(.ref aF), (.ref aF)])) X17 hx rfl rfl rfl (pc0 := 4) (pc' := 7) (same := true) rfl (hb hby own_d_prog_36_method_5_4) rfl (decide_eq_true rfl) (by decide) (by decide) k) ?_
  refine own_to (T' := T17) (mkF m 8 #[rv aF, rv a] [(.ref a)]) (fun _ k => XS.aloadN X17.here hx rfl (hb hby own_d_prog_36_method_5_7) rfl rfl k) ?_
  refine own_to (T' := T17) (mkF m 9 #[rv aF, rv a] [(.int (1 : Int32)), (.ref a)]) (fun _ k => XS.iconst X17.here hx rfl (hb hby own_d_prog_36_method_5_8) k) ?_
  refine own_to (T' := T17) (mkF m 10 #[rv aF, rv a] [(.ref a), (.int (1 : Int32)), (.ref a)]) (fun _ k => XS.aloadN X17.here hx rfl (hb hby own_d_prog_36_method_5_9) rfl rfl k) ?_
  obtain ⟨cl18, Ar18, -, S18, M18, -, -⟩ := id Va
  refine own_to (mkF m 11 #[rv aF, rv a] [(.int (0 : Int32)), (.int (1 : Int32)), (.ref a)]) (by have q := X17.arraylength hx (by rw [e17]; exact Ar18.1) (State.isArrayOf_alike hZ.alike Ar18.2.1) (g := (mkF m 10 #[rv aF, rv a] [(.ref a), (.int (1 : Int32)), (.ref a)])) rfl rfl (hb hby own_d_prog_36_method_5_10); rw [len_of S18 M18] at q; exact q) ?_
  obtain ⟨_, _, ⟨T19, L19, k19, n19⟩, -, X19, ⟨Lc19, hQ19, l19, y19, z19⟩, st19⟩ := Jvm.LawKit.callS X17 hx (y := (⟨"java/lang/Math", "min", "(II)I"⟩ : MethodName)) hown (mvT hZ (hw _ (List.mem_of_getElem? (i := 16) rfl))) (mvT hZ (hw _ (List.mem_of_getElem? (i := 17) rfl))) (mvT hZ (hw _ (List.mem_of_getElem? (i := 18) rfl))) (mvT hZ (hw _ (List.mem_of_getElem? (i := 19) rfl))) (by decide) (backOf (W := 1) (own_rm1 l Z a0 hw [] (0 : Int32) (1 : Int32) (0 : Int32) h0 n0 (Nat.le_trans Z0 KP.1) OL (by decide)) hZ (hw _ (List.mem_of_getElem? (i := 19) rfl)) (hw _ (List.mem_of_getElem? (i := 18) rfl)) (by decide) (by decide)) (g := (mkF m 11 #[rv aF, rv a] [(.int (0 : Int32)), (.int (1 : Int32)), (.ref a)])) rfl (by rw [hml]; rfl) (argsL := [(.int (1 : Int32)), (.int (0 : Int32))]) (rest := [(.ref a)]) (lenOf own_pd0 rfl) rfl (by show 2 * 0 + _ ≤ _; exact Nat.le_of_eq rfl) (hb hby own_d_prog_36_method_5_11) (fun _ _ => ⟨rfl, e17, (by decide : 0 + 0 ≤ _), (by decide : 0 + 0 ≤ _)⟩)
  dsimp only [Pt.U, Pt.locs, Pt.cells, Pt.slots] at X19 l19 y19 z19 st19 hQ19
  subst l19 y19 z19
  obtain ⟨rfl, N19q, e19⟩ := hQ19
  have N19 := Fr.app N0 N19q
  refine own_to (mkF m 14 #[rv aF, rv a] [(.int (0 : Int32)), (.ref a)]) st19 ?_
  have KP0 := KP
  obtain ⟨_, _, ⟨T20, L20, k20, n20⟩, -, X20, ⟨Lc20, hQ20, l20, y20, z20⟩, st20⟩ := Jvm.LawKit.callS X19 hx (y := (⟨"java/util/Arrays", "copyOf", "([II)[I"⟩ : MethodName)) hown (mvT hZ (hw _ (List.mem_of_getElem? (i := 20) rfl))) (mvT hZ (hw _ (List.mem_of_getElem? (i := 21) rfl))) (mvT hZ (hw _ (List.mem_of_getElem? (i := 22) rfl))) (mvT hZ (hw _ (List.mem_of_getElem? (i := 23) rfl))) (by decide) (backOf (W := 0) (own_rm2_0 l Z a0 hw [] ia ib ic a k h0 n0 (Nat.le_trans Z0 KP.1) OL Va Ea) hZ (hw _ (List.mem_of_getElem? (i := 23) rfl)) (hw _ (List.mem_of_getElem? (i := 22) rfl)) (by decide) (by decide)) (g := (mkF m 14 #[rv aF, rv a] [(.int (0 : Int32)), (.ref a)])) rfl (by rw [hml]; rfl) (argsL := [(.ref a), (.int (0 : Int32))]) (rest := []) (lenOf own_pd1 rfl) rfl (by show 2 * 0 + _ ≤ _; exact Nat.le_of_eq rfl) (hb hby own_d_prog_36_method_5_14) (fun _ _ => ⟨rfl, e19, (by decide : 0 + 1 ≤ _), (by decide : 0 + 0 ≤ _)⟩)
  dsimp only [Pt.U, Pt.locs, Pt.cells, Pt.slots] at X20 l20 y20 z20 st20 hQ20
  subst l20 y20 z20
  obtain ⟨b20, kb20, rfl, N20q, K20, ge_b20, sz0_b20, V_b20⟩ := hQ20
  have N20 := Fr.app N19 N20q
  have OL := OL.keep K20 all0
  have KP := KP.trans K20 all0
  have Va := Va.keep K20 nin0
  have Ea := Ea.keep K20
  have sz_b20 : h0.size ≤ b20 := Nat.le_trans KP0.1 sz0_b20
  refine own_to (mkF m 17 #[rv aF, rv a] [(.ref b20)]) st20 ?_
  refine own_to (T' := T20) (mkF m 21 #[rv aF, rv a] [(.ref b20)]) (fun _ k => XS.goto X20.here hx rfl (pc0 := 17) (pc' := 21) rfl (hb hby own_d_prog_36_method_5_17) (by decide) (by decide) k) ?_
  exact own_retA X20 hx Bd.returns rfl hlk (hb hby own_d_prog_36_method_5_21) rfl (by decide) (by decide) (by exact ⟨b20, kb20, rfl, N20, KP, ge_b20, sz_b20, V_b20⟩)
def own_Q3F_1 (Z : State) (ia ib ic : Int32) (aF a : Addr) (k : ClassId) (h0 : Heap) (n0 : Nat) (v : Option Value) (h : Heap) (L : List Loc) : Prop := ∃ (b : Addr) (kb : ClassId), v = some (.ref b) ∧ Fr n0 L ∧ Keep h0 h [] ∧ n0 ≤ b ∧ h0.size ≤ b ∧ Arv Z h b kb .int (1 : Int32) [(.int ia)] (.int (0 : Int32))
set_option maxRecDepth 65536 in
set_option maxHeartbeats 40000000 in
theorem own_rm3F_1 (l : Launch) (Z : State) (a0 : Array Value) (hw : ∀ d ∈ tables_1, d.before a0 Z = true) (ws : List Jvm.Cond) (ia ib ic : Int32) (aF a : Addr) (k : ClassId) (h0 : Heap) (n0 : Nat) (Z0 : n0 ≤ h0.size) (OL : Old Z n0 h0) (SF : Sta Z Z.heap "com/example/steady_expansion/steadyexpansion/WordNet$Senses" "FIRST" "Lcom/example/steady_expansion/steadyexpansion/WordNet$Senses;" (.ref aF)) (Va : Arv Z h0 a k .int (1 : Int32) [(.int ia)] (.int (0 : Int32))) (Ea : Exa Z h0 a "[I") :
    MetFree l (⟨"com/example/steady_expansion/steadyexpansion/WordNet$Senses", "offsets", "([I)[I"⟩ : MethodName) (head1 (Jvm.Cond.code (⟨"com/example/steady_expansion/steadyexpansion/WordNet$Senses", "offsets", "([I)[I"⟩ : MethodName) prog_36_method_5_code 2 (some (.array .int)) :: ws) ({ frames := 2, cells := 1, slots := 1, locals := 70 } : Room)) (fun aa_ U => aa_ = #[(.ref aF), (.ref a)] ∧ Z.Warmed39 U.vm ∧ U.heap = h0) (fun _ _ _ _ _ => True) (fun _ U o U' => ∃ v L, o = .returned v ∧ own_Q3F_1 Z ia ib ic aF a k h0 n0 v U'.heap L ∧ FrameEnd U o U' L ({ frames := 2, cells := 1, slots := 1, locals := 70 } : Room).cells ({ frames := 2, cells := 1, slots := 1, locals := 70 } : Room).slots) := by
  refine MetFree.of_bodySF (plainFor_of_name own_pn1) hisR ?_
  intro p e s m args below meth c s₁ Bd hml0 hP hK
  obtain ⟨rfl, hZ, hh⟩ := hP
  have hx := Bd.exec
  have hby := Bd.bytes
  have hlk : meth.locks = false := BodyLoose.notSynchronized Bd
  have hml : c.maxLocals = 2 := hml0
  have hown : s.vm.findClass "com/example/steady_expansion/steadyexpansion/WordNet$Senses" = some m.cls := findClass_of_methodNamed Bd.named
  have hnm := (name_of_methodNamed Bd.named Bd.method).1
  have X0 : Stand p l e ({ frames := 2, cells := 1, slots := 1, locals := 70 } : Room) s m #[(.ref aF), (.ref a)] below meth c s₁ [] 0 0 := Stand.of_body Bd
  have e0 : s₁.heap = h0 := by rw [← hh, Bd.state]; rfl
  have N0 := Fr.nil n0
  have KP : Keep h0 h0 [] := Keep.refl _ _
  refine own_start (Fin := (own_Fin s (own_Q3F_1 Z ia ib ic aF a k h0 n0) ({ frames := 2, cells := 1, slots := 1, locals := 70 } : Room).cells ({ frames := 2, cells := 1, slots := 1, locals := 70 } : Room).slots)) (own_from (mkF m 0 #[rv aF, rv a] []) (castTop (own_ef_3F_1 m aF a)) ?_)
  refine own_to (T' := s₁) (mkF m 1 #[rv aF, rv a] [(.ref aF)]) (fun _ k => XS.aloadN X0.here hx rfl (hb hby own_d_prog_36_method_5_0) rfl rfl k) ?_
  obtain ⟨T21, X21, e21, st21⟩ := getS2 X0 hx hZ hown (host := "") (Or.inl (hw _ (List.mem_of_getElem? (i := 9) rfl))) Via.refl e0 (SF.ext OL.2) (g := (mkF m 1 #[rv aF, rv a] [(.ref aF)])) rfl (hb hby own_d_prog_36_method_5_1)
  refine own_to (mkF m 4 #[rv aF, rv a] [(.ref aF), (.ref aF)]) st21 ?_
  refine own_to (T' := T21) (mkF m 7 #[rv aF, rv a] []) (fun _ k => Jvm.RoadKit.acmp (g := (mkF m 4 #[rv aF, rv a] [(.ref aF), (.ref aF)])) X21 hx rfl rfl rfl (pc0 := 4) (pc' := 7) (same := true) rfl (hb hby own_d_prog_36_method_5_4) rfl (decide_eq_true rfl) (by decide) (by decide) k) ?_
  refine own_to (T' := T21) (mkF m 8 #[rv aF, rv a] [(.ref a)]) (fun _ k => XS.aloadN X21.here hx rfl (hb hby own_d_prog_36_method_5_7) rfl rfl k) ?_
  refine own_to (T' := T21) (mkF m 9 #[rv aF, rv a] [(.int (1 : Int32)), (.ref a)]) (fun _ k => XS.iconst X21.here hx rfl (hb hby own_d_prog_36_method_5_8) k) ?_
  refine own_to (T' := T21) (mkF m 10 #[rv aF, rv a] [(.ref a), (.int (1 : Int32)), (.ref a)]) (fun _ k => XS.aloadN X21.here hx rfl (hb hby own_d_prog_36_method_5_9) rfl rfl k) ?_
  obtain ⟨cl22, Ar22, -, S22, M22, -, -⟩ := id Va
  refine own_to (mkF m 11 #[rv aF, rv a] [(.int (1 : Int32)), (.int (1 : Int32)), (.ref a)]) (by have q := X21.arraylength hx (by rw [e21]; exact Ar22.1) (State.isArrayOf_alike hZ.alike Ar22.2.1) (g := (mkF m 10 #[rv aF, rv a] [(.ref a), (.int (1 : Int32)), (.ref a)])) rfl rfl (hb hby own_d_prog_36_method_5_10); rw [len_of S22 M22] at q; exact q) ?_
  obtain ⟨_, _, ⟨T23, L23, k23, n23⟩, -, X23, ⟨Lc23, hQ23, l23, y23, z23⟩, st23⟩ := Jvm.LawKit.callS X21 hx (y := (⟨"java/lang/Math", "min", "(II)I"⟩ : MethodName)) hown (mvT hZ (hw _ (List.mem_of_getElem? (i := 16) rfl))) (mvT hZ (hw _ (List.mem_of_getElem? (i := 17) rfl))) (mvT hZ (hw _ (List.mem_of_getElem? (i := 18) rfl))) (mvT hZ (hw _ (List.mem_of_getElem? (i := 19) rfl))) (by decide) (backOf (W := 1) (own_rm1 l Z a0 hw [] (1 : Int32) (1 : Int32) (1 : Int32) h0 n0 (Nat.le_trans Z0 KP.1) OL (by decide)) hZ (hw _ (List.mem_of_getElem? (i := 19) rfl)) (hw _ (List.mem_of_getElem? (i := 18) rfl)) (by decide) (by decide)) (g := (mkF m 11 #[rv aF, rv a] [(.int (1 : Int32)), (.int (1 : Int32)), (.ref a)])) rfl (by rw [hml]; rfl) (argsL := [(.int (1 : Int32)), (.int (1 : Int32))]) (rest := [(.ref a)]) (lenOf own_pd0 rfl) rfl (by show 2 * 0 + _ ≤ _; exact Nat.le_of_eq rfl) (hb hby own_d_prog_36_method_5_11) (fun _ _ => ⟨rfl, e21, (by decide : 0 + 0 ≤ _), (by decide : 0 + 0 ≤ _)⟩)
  dsimp only [Pt.U, Pt.locs, Pt.cells, Pt.slots] at X23 l23 y23 z23 st23 hQ23
  subst l23 y23 z23
  obtain ⟨rfl, N23q, e23⟩ := hQ23
  have N23 := Fr.app N0 N23q
  refine own_to (mkF m 14 #[rv aF, rv a] [(.int (1 : Int32)), (.ref a)]) st23 ?_
  have KP0 := KP
  obtain ⟨_, _, ⟨T24, L24, k24, n24⟩, -, X24, ⟨Lc24, hQ24, l24, y24, z24⟩, st24⟩ := Jvm.LawKit.callS X23 hx (y := (⟨"java/util/Arrays", "copyOf", "([II)[I"⟩ : MethodName)) hown (mvT hZ (hw _ (List.mem_of_getElem? (i := 20) rfl))) (mvT hZ (hw _ (List.mem_of_getElem? (i := 21) rfl))) (mvT hZ (hw _ (List.mem_of_getElem? (i := 22) rfl))) (mvT hZ (hw _ (List.mem_of_getElem? (i := 23) rfl))) (by decide) (backOf (W := 0) (own_rm2_1 l Z a0 hw [] ia ib ic a k h0 n0 (Nat.le_trans Z0 KP.1) OL Va Ea) hZ (hw _ (List.mem_of_getElem? (i := 23) rfl)) (hw _ (List.mem_of_getElem? (i := 22) rfl)) (by decide) (by decide)) (g := (mkF m 14 #[rv aF, rv a] [(.int (1 : Int32)), (.ref a)])) rfl (by rw [hml]; rfl) (argsL := [(.ref a), (.int (1 : Int32))]) (rest := []) (lenOf own_pd1 rfl) rfl (by show 2 * 0 + _ ≤ _; exact Nat.le_of_eq rfl) (hb hby own_d_prog_36_method_5_14) (fun _ _ => ⟨rfl, e23, (by decide : 0 + 1 ≤ _), (by decide : 0 + 1 ≤ _)⟩)
  dsimp only [Pt.U, Pt.locs, Pt.cells, Pt.slots] at X24 l24 y24 z24 st24 hQ24
  subst l24 y24 z24
  obtain ⟨b24, kb24, rfl, N24q, K24, ge_b24, sz0_b24, V_b24⟩ := hQ24
  have N24 := Fr.app N23 N24q
  have OL := OL.keep K24 all0
  have KP := KP.trans K24 all0
  have Va := Va.keep K24 nin0
  have Ea := Ea.keep K24
  have sz_b24 : h0.size ≤ b24 := Nat.le_trans KP0.1 sz0_b24
  refine own_to (mkF m 17 #[rv aF, rv a] [(.ref b24)]) st24 ?_
  refine own_to (T' := T24) (mkF m 21 #[rv aF, rv a] [(.ref b24)]) (fun _ k => XS.goto X24.here hx rfl (pc0 := 17) (pc' := 21) rfl (hb hby own_d_prog_36_method_5_17) (by decide) (by decide) k) ?_
  exact own_retA X24 hx Bd.returns rfl hlk (hb hby own_d_prog_36_method_5_21) rfl (by decide) (by decide) (by exact ⟨b24, kb24, rfl, N24, KP, ge_b24, sz_b24, V_b24⟩)
def own_Q3F_2 (Z : State) (ia ib ic : Int32) (aF a : Addr) (k : ClassId) (h0 : Heap) (n0 : Nat) (v : Option Value) (h : Heap) (L : List Loc) : Prop := ∃ (b : Addr) (kb : ClassId), v = some (.ref b) ∧ Fr n0 L ∧ Keep h0 h [] ∧ n0 ≤ b ∧ h0.size ≤ b ∧ Arv Z h b kb .int (1 : Int32) [(.int ia)] (.int (0 : Int32))
set_option maxRecDepth 65536 in
set_option maxHeartbeats 40000000 in
theorem own_rm3F_2 (l : Launch) (Z : State) (a0 : Array Value) (hw : ∀ d ∈ tables_1, d.before a0 Z = true) (ws : List Jvm.Cond) (ia ib ic : Int32) (aF a : Addr) (k : ClassId) (h0 : Heap) (n0 : Nat) (Z0 : n0 ≤ h0.size) (OL : Old Z n0 h0) (SF : Sta Z Z.heap "com/example/steady_expansion/steadyexpansion/WordNet$Senses" "FIRST" "Lcom/example/steady_expansion/steadyexpansion/WordNet$Senses;" (.ref aF)) (Va : Arv Z h0 a k .int (2 : Int32) [(.int ia), (.int ib)] (.int (0 : Int32))) (Ea : Exa Z h0 a "[I") :
    MetFree l (⟨"com/example/steady_expansion/steadyexpansion/WordNet$Senses", "offsets", "([I)[I"⟩ : MethodName) (head1 (Jvm.Cond.code (⟨"com/example/steady_expansion/steadyexpansion/WordNet$Senses", "offsets", "([I)[I"⟩ : MethodName) prog_36_method_5_code 2 (some (.array .int)) :: ws) ({ frames := 2, cells := 1, slots := 1, locals := 70 } : Room)) (fun aa_ U => aa_ = #[(.ref aF), (.ref a)] ∧ Z.Warmed39 U.vm ∧ U.heap = h0) (fun _ _ _ _ _ => True) (fun _ U o U' => ∃ v L, o = .returned v ∧ own_Q3F_2 Z ia ib ic aF a k h0 n0 v U'.heap L ∧ FrameEnd U o U' L ({ frames := 2, cells := 1, slots := 1, locals := 70 } : Room).cells ({ frames := 2, cells := 1, slots := 1, locals := 70 } : Room).slots) := by
  refine MetFree.of_bodySF (plainFor_of_name own_pn1) hisR ?_
  intro p e s m args below meth c s₁ Bd hml0 hP hK
  obtain ⟨rfl, hZ, hh⟩ := hP
  have hx := Bd.exec
  have hby := Bd.bytes
  have hlk : meth.locks = false := BodyLoose.notSynchronized Bd
  have hml : c.maxLocals = 2 := hml0
  have hown : s.vm.findClass "com/example/steady_expansion/steadyexpansion/WordNet$Senses" = some m.cls := findClass_of_methodNamed Bd.named
  have hnm := (name_of_methodNamed Bd.named Bd.method).1
  have X0 : Stand p l e ({ frames := 2, cells := 1, slots := 1, locals := 70 } : Room) s m #[(.ref aF), (.ref a)] below meth c s₁ [] 0 0 := Stand.of_body Bd
  have e0 : s₁.heap = h0 := by rw [← hh, Bd.state]; rfl
  have N0 := Fr.nil n0
  have KP : Keep h0 h0 [] := Keep.refl _ _
  refine own_start (Fin := (own_Fin s (own_Q3F_2 Z ia ib ic aF a k h0 n0) ({ frames := 2, cells := 1, slots := 1, locals := 70 } : Room).cells ({ frames := 2, cells := 1, slots := 1, locals := 70 } : Room).slots)) (own_from (mkF m 0 #[rv aF, rv a] []) (castTop (own_ef_3F_2 m aF a)) ?_)
  refine own_to (T' := s₁) (mkF m 1 #[rv aF, rv a] [(.ref aF)]) (fun _ k => XS.aloadN X0.here hx rfl (hb hby own_d_prog_36_method_5_0) rfl rfl k) ?_
  obtain ⟨T25, X25, e25, st25⟩ := getS2 X0 hx hZ hown (host := "") (Or.inl (hw _ (List.mem_of_getElem? (i := 9) rfl))) Via.refl e0 (SF.ext OL.2) (g := (mkF m 1 #[rv aF, rv a] [(.ref aF)])) rfl (hb hby own_d_prog_36_method_5_1)
  refine own_to (mkF m 4 #[rv aF, rv a] [(.ref aF), (.ref aF)]) st25 ?_
  refine own_to (T' := T25) (mkF m 7 #[rv aF, rv a] []) (fun _ k => Jvm.RoadKit.acmp (g := (mkF m 4 #[rv aF, rv a] [(.ref aF), (.ref aF)])) X25 hx rfl rfl rfl (pc0 := 4) (pc' := 7) (same := true) rfl (hb hby own_d_prog_36_method_5_4) rfl (decide_eq_true rfl) (by decide) (by decide) k) ?_
  refine own_to (T' := T25) (mkF m 8 #[rv aF, rv a] [(.ref a)]) (fun _ k => XS.aloadN X25.here hx rfl (hb hby own_d_prog_36_method_5_7) rfl rfl k) ?_
  refine own_to (T' := T25) (mkF m 9 #[rv aF, rv a] [(.int (1 : Int32)), (.ref a)]) (fun _ k => XS.iconst X25.here hx rfl (hb hby own_d_prog_36_method_5_8) k) ?_
  refine own_to (T' := T25) (mkF m 10 #[rv aF, rv a] [(.ref a), (.int (1 : Int32)), (.ref a)]) (fun _ k => XS.aloadN X25.here hx rfl (hb hby own_d_prog_36_method_5_9) rfl rfl k) ?_
  obtain ⟨cl26, Ar26, -, S26, M26, -, -⟩ := id Va
  refine own_to (mkF m 11 #[rv aF, rv a] [(.int (2 : Int32)), (.int (1 : Int32)), (.ref a)]) (by have q := X25.arraylength hx (by rw [e25]; exact Ar26.1) (State.isArrayOf_alike hZ.alike Ar26.2.1) (g := (mkF m 10 #[rv aF, rv a] [(.ref a), (.int (1 : Int32)), (.ref a)])) rfl rfl (hb hby own_d_prog_36_method_5_10); rw [len_of S26 M26] at q; exact q) ?_
  obtain ⟨_, _, ⟨T27, L27, k27, n27⟩, -, X27, ⟨Lc27, hQ27, l27, y27, z27⟩, st27⟩ := Jvm.LawKit.callS X25 hx (y := (⟨"java/lang/Math", "min", "(II)I"⟩ : MethodName)) hown (mvT hZ (hw _ (List.mem_of_getElem? (i := 16) rfl))) (mvT hZ (hw _ (List.mem_of_getElem? (i := 17) rfl))) (mvT hZ (hw _ (List.mem_of_getElem? (i := 18) rfl))) (mvT hZ (hw _ (List.mem_of_getElem? (i := 19) rfl))) (by decide) (backOf (W := 1) (own_rm1 l Z a0 hw [] (1 : Int32) (1 : Int32) (2 : Int32) h0 n0 (Nat.le_trans Z0 KP.1) OL (by decide)) hZ (hw _ (List.mem_of_getElem? (i := 19) rfl)) (hw _ (List.mem_of_getElem? (i := 18) rfl)) (by decide) (by decide)) (g := (mkF m 11 #[rv aF, rv a] [(.int (2 : Int32)), (.int (1 : Int32)), (.ref a)])) rfl (by rw [hml]; rfl) (argsL := [(.int (1 : Int32)), (.int (2 : Int32))]) (rest := [(.ref a)]) (lenOf own_pd0 rfl) rfl (by show 2 * 0 + _ ≤ _; exact Nat.le_of_eq rfl) (hb hby own_d_prog_36_method_5_11) (fun _ _ => ⟨rfl, e25, (by decide : 0 + 0 ≤ _), (by decide : 0 + 0 ≤ _)⟩)
  dsimp only [Pt.U, Pt.locs, Pt.cells, Pt.slots] at X27 l27 y27 z27 st27 hQ27
  subst l27 y27 z27
  obtain ⟨rfl, N27q, e27⟩ := hQ27
  have N27 := Fr.app N0 N27q
  refine own_to (mkF m 14 #[rv aF, rv a] [(.int (1 : Int32)), (.ref a)]) st27 ?_
  have KP0 := KP
  obtain ⟨_, _, ⟨T28, L28, k28, n28⟩, -, X28, ⟨Lc28, hQ28, l28, y28, z28⟩, st28⟩ := Jvm.LawKit.callS X27 hx (y := (⟨"java/util/Arrays", "copyOf", "([II)[I"⟩ : MethodName)) hown (mvT hZ (hw _ (List.mem_of_getElem? (i := 20) rfl))) (mvT hZ (hw _ (List.mem_of_getElem? (i := 21) rfl))) (mvT hZ (hw _ (List.mem_of_getElem? (i := 22) rfl))) (mvT hZ (hw _ (List.mem_of_getElem? (i := 23) rfl))) (by decide) (backOf (W := 0) (own_rm2_2 l Z a0 hw [] ia ib ic a k h0 n0 (Nat.le_trans Z0 KP.1) OL Va Ea) hZ (hw _ (List.mem_of_getElem? (i := 23) rfl)) (hw _ (List.mem_of_getElem? (i := 22) rfl)) (by decide) (by decide)) (g := (mkF m 14 #[rv aF, rv a] [(.int (1 : Int32)), (.ref a)])) rfl (by rw [hml]; rfl) (argsL := [(.ref a), (.int (1 : Int32))]) (rest := []) (lenOf own_pd1 rfl) rfl (by show 2 * 0 + _ ≤ _; exact Nat.le_of_eq rfl) (hb hby own_d_prog_36_method_5_14) (fun _ _ => ⟨rfl, e27, (by decide : 0 + 1 ≤ _), (by decide : 0 + 1 ≤ _)⟩)
  dsimp only [Pt.U, Pt.locs, Pt.cells, Pt.slots] at X28 l28 y28 z28 st28 hQ28
  subst l28 y28 z28
  obtain ⟨b28, kb28, rfl, N28q, K28, ge_b28, sz0_b28, V_b28⟩ := hQ28
  have N28 := Fr.app N27 N28q
  have OL := OL.keep K28 all0
  have KP := KP.trans K28 all0
  have Va := Va.keep K28 nin0
  have Ea := Ea.keep K28
  have sz_b28 : h0.size ≤ b28 := Nat.le_trans KP0.1 sz0_b28
  refine own_to (mkF m 17 #[rv aF, rv a] [(.ref b28)]) st28 ?_
  refine own_to (T' := T28) (mkF m 21 #[rv aF, rv a] [(.ref b28)]) (fun _ k => XS.goto X28.here hx rfl (pc0 := 17) (pc' := 21) rfl (hb hby own_d_prog_36_method_5_17) (by decide) (by decide) k) ?_
  exact own_retA X28 hx Bd.returns rfl hlk (hb hby own_d_prog_36_method_5_21) rfl (by decide) (by decide) (by exact ⟨b28, kb28, rfl, N28, KP, ge_b28, sz_b28, V_b28⟩)
def own_Q3F_3 (Z : State) (ia ib ic : Int32) (aF a : Addr) (k : ClassId) (h0 : Heap) (n0 : Nat) (v : Option Value) (h : Heap) (L : List Loc) : Prop := ∃ (b : Addr) (kb : ClassId), v = some (.ref b) ∧ Fr n0 L ∧ Keep h0 h [] ∧ n0 ≤ b ∧ h0.size ≤ b ∧ Arv Z h b kb .int (1 : Int32) [(.int ia)] (.int (0 : Int32))
set_option maxRecDepth 65536 in
set_option maxHeartbeats 40000000 in
theorem own_rm3F_3 (l : Launch) (Z : State) (a0 : Array Value) (hw : ∀ d ∈ tables_1, d.before a0 Z = true) (ws : List Jvm.Cond) (ia ib ic : Int32) (aF a : Addr) (k : ClassId) (h0 : Heap) (n0 : Nat) (Z0 : n0 ≤ h0.size) (OL : Old Z n0 h0) (SF : Sta Z Z.heap "com/example/steady_expansion/steadyexpansion/WordNet$Senses" "FIRST" "Lcom/example/steady_expansion/steadyexpansion/WordNet$Senses;" (.ref aF)) (Va : Arv Z h0 a k .int (3 : Int32) [(.int ia), (.int ib), (.int ic)] (.int (0 : Int32))) (Ea : Exa Z h0 a "[I") :
    MetFree l (⟨"com/example/steady_expansion/steadyexpansion/WordNet$Senses", "offsets", "([I)[I"⟩ : MethodName) (head1 (Jvm.Cond.code (⟨"com/example/steady_expansion/steadyexpansion/WordNet$Senses", "offsets", "([I)[I"⟩ : MethodName) prog_36_method_5_code 2 (some (.array .int)) :: ws) ({ frames := 2, cells := 1, slots := 1, locals := 70 } : Room)) (fun aa_ U => aa_ = #[(.ref aF), (.ref a)] ∧ Z.Warmed39 U.vm ∧ U.heap = h0) (fun _ _ _ _ _ => True) (fun _ U o U' => ∃ v L, o = .returned v ∧ own_Q3F_3 Z ia ib ic aF a k h0 n0 v U'.heap L ∧ FrameEnd U o U' L ({ frames := 2, cells := 1, slots := 1, locals := 70 } : Room).cells ({ frames := 2, cells := 1, slots := 1, locals := 70 } : Room).slots) := by
  refine MetFree.of_bodySF (plainFor_of_name own_pn1) hisR ?_
  intro p e s m args below meth c s₁ Bd hml0 hP hK
  obtain ⟨rfl, hZ, hh⟩ := hP
  have hx := Bd.exec
  have hby := Bd.bytes
  have hlk : meth.locks = false := BodyLoose.notSynchronized Bd
  have hml : c.maxLocals = 2 := hml0
  have hown : s.vm.findClass "com/example/steady_expansion/steadyexpansion/WordNet$Senses" = some m.cls := findClass_of_methodNamed Bd.named
  have hnm := (name_of_methodNamed Bd.named Bd.method).1
  have X0 : Stand p l e ({ frames := 2, cells := 1, slots := 1, locals := 70 } : Room) s m #[(.ref aF), (.ref a)] below meth c s₁ [] 0 0 := Stand.of_body Bd
  have e0 : s₁.heap = h0 := by rw [← hh, Bd.state]; rfl
  have N0 := Fr.nil n0
  have KP : Keep h0 h0 [] := Keep.refl _ _
  refine own_start (Fin := (own_Fin s (own_Q3F_3 Z ia ib ic aF a k h0 n0) ({ frames := 2, cells := 1, slots := 1, locals := 70 } : Room).cells ({ frames := 2, cells := 1, slots := 1, locals := 70 } : Room).slots)) (own_from (mkF m 0 #[rv aF, rv a] []) (castTop (own_ef_3F_3 m aF a)) ?_)
  refine own_to (T' := s₁) (mkF m 1 #[rv aF, rv a] [(.ref aF)]) (fun _ k => XS.aloadN X0.here hx rfl (hb hby own_d_prog_36_method_5_0) rfl rfl k) ?_
  obtain ⟨T29, X29, e29, st29⟩ := getS2 X0 hx hZ hown (host := "") (Or.inl (hw _ (List.mem_of_getElem? (i := 9) rfl))) Via.refl e0 (SF.ext OL.2) (g := (mkF m 1 #[rv aF, rv a] [(.ref aF)])) rfl (hb hby own_d_prog_36_method_5_1)
  refine own_to (mkF m 4 #[rv aF, rv a] [(.ref aF), (.ref aF)]) st29 ?_
  refine own_to (T' := T29) (mkF m 7 #[rv aF, rv a] []) (fun _ k => Jvm.RoadKit.acmp (g := (mkF m 4 #[rv aF, rv a] [(.ref aF), (.ref aF)])) X29 hx rfl rfl rfl (pc0 := 4) (pc' := 7) (same := true) rfl (hb hby own_d_prog_36_method_5_4) rfl (decide_eq_true rfl) (by decide) (by decide) k) ?_
  refine own_to (T' := T29) (mkF m 8 #[rv aF, rv a] [(.ref a)]) (fun _ k => XS.aloadN X29.here hx rfl (hb hby own_d_prog_36_method_5_7) rfl rfl k) ?_
  refine own_to (T' := T29) (mkF m 9 #[rv aF, rv a] [(.int (1 : Int32)), (.ref a)]) (fun _ k => XS.iconst X29.here hx rfl (hb hby own_d_prog_36_method_5_8) k) ?_
  refine own_to (T' := T29) (mkF m 10 #[rv aF, rv a] [(.ref a), (.int (1 : Int32)), (.ref a)]) (fun _ k => XS.aloadN X29.here hx rfl (hb hby own_d_prog_36_method_5_9) rfl rfl k) ?_
  obtain ⟨cl30, Ar30, -, S30, M30, -, -⟩ := id Va
  refine own_to (mkF m 11 #[rv aF, rv a] [(.int (3 : Int32)), (.int (1 : Int32)), (.ref a)]) (by have q := X29.arraylength hx (by rw [e29]; exact Ar30.1) (State.isArrayOf_alike hZ.alike Ar30.2.1) (g := (mkF m 10 #[rv aF, rv a] [(.ref a), (.int (1 : Int32)), (.ref a)])) rfl rfl (hb hby own_d_prog_36_method_5_10); rw [len_of S30 M30] at q; exact q) ?_
  obtain ⟨_, _, ⟨T31, L31, k31, n31⟩, -, X31, ⟨Lc31, hQ31, l31, y31, z31⟩, st31⟩ := Jvm.LawKit.callS X29 hx (y := (⟨"java/lang/Math", "min", "(II)I"⟩ : MethodName)) hown (mvT hZ (hw _ (List.mem_of_getElem? (i := 16) rfl))) (mvT hZ (hw _ (List.mem_of_getElem? (i := 17) rfl))) (mvT hZ (hw _ (List.mem_of_getElem? (i := 18) rfl))) (mvT hZ (hw _ (List.mem_of_getElem? (i := 19) rfl))) (by decide) (backOf (W := 1) (own_rm1 l Z a0 hw [] (1 : Int32) (1 : Int32) (3 : Int32) h0 n0 (Nat.le_trans Z0 KP.1) OL (by decide)) hZ (hw _ (List.mem_of_getElem? (i := 19) rfl)) (hw _ (List.mem_of_getElem? (i := 18) rfl)) (by decide) (by decide)) (g := (mkF m 11 #[rv aF, rv a] [(.int (3 : Int32)), (.int (1 : Int32)), (.ref a)])) rfl (by rw [hml]; rfl) (argsL := [(.int (1 : Int32)), (.int (3 : Int32))]) (rest := [(.ref a)]) (lenOf own_pd0 rfl) rfl (by show 2 * 0 + _ ≤ _; exact Nat.le_of_eq rfl) (hb hby own_d_prog_36_method_5_11) (fun _ _ => ⟨rfl, e29, (by decide : 0 + 0 ≤ _), (by decide : 0 + 0 ≤ _)⟩)
  dsimp only [Pt.U, Pt.locs, Pt.cells, Pt.slots] at X31 l31 y31 z31 st31 hQ31
  subst l31 y31 z31
  obtain ⟨rfl, N31q, e31⟩ := hQ31
  have N31 := Fr.app N0 N31q
  refine own_to (mkF m 14 #[rv aF, rv a] [(.int (1 : Int32)), (.ref a)]) st31 ?_
  have KP0 := KP
  obtain ⟨_, _, ⟨T32, L32, k32, n32⟩, -, X32, ⟨Lc32, hQ32, l32, y32, z32⟩, st32⟩ := Jvm.LawKit.callS X31 hx (y := (⟨"java/util/Arrays", "copyOf", "([II)[I"⟩ : MethodName)) hown (mvT hZ (hw _ (List.mem_of_getElem? (i := 20) rfl))) (mvT hZ (hw _ (List.mem_of_getElem? (i := 21) rfl))) (mvT hZ (hw _ (List.mem_of_getElem? (i := 22) rfl))) (mvT hZ (hw _ (List.mem_of_getElem? (i := 23) rfl))) (by decide) (backOf (W := 0) (own_rm2_3 l Z a0 hw [] ia ib ic a k h0 n0 (Nat.le_trans Z0 KP.1) OL Va Ea) hZ (hw _ (List.mem_of_getElem? (i := 23) rfl)) (hw _ (List.mem_of_getElem? (i := 22) rfl)) (by decide) (by decide)) (g := (mkF m 14 #[rv aF, rv a] [(.int (1 : Int32)), (.ref a)])) rfl (by rw [hml]; rfl) (argsL := [(.ref a), (.int (1 : Int32))]) (rest := []) (lenOf own_pd1 rfl) rfl (by show 2 * 0 + _ ≤ _; exact Nat.le_of_eq rfl) (hb hby own_d_prog_36_method_5_14) (fun _ _ => ⟨rfl, e31, (by decide : 0 + 1 ≤ _), (by decide : 0 + 1 ≤ _)⟩)
  dsimp only [Pt.U, Pt.locs, Pt.cells, Pt.slots] at X32 l32 y32 z32 st32 hQ32
  subst l32 y32 z32
  obtain ⟨b32, kb32, rfl, N32q, K32, ge_b32, sz0_b32, V_b32⟩ := hQ32
  have N32 := Fr.app N31 N32q
  have OL := OL.keep K32 all0
  have KP := KP.trans K32 all0
  have Va := Va.keep K32 nin0
  have Ea := Ea.keep K32
  have sz_b32 : h0.size ≤ b32 := Nat.le_trans KP0.1 sz0_b32
  refine own_to (mkF m 17 #[rv aF, rv a] [(.ref b32)]) st32 ?_
  refine own_to (T' := T32) (mkF m 21 #[rv aF, rv a] [(.ref b32)]) (fun _ k => XS.goto X32.here hx rfl (pc0 := 17) (pc' := 21) rfl (hb hby own_d_prog_36_method_5_17) (by decide) (by decide) k) ?_
  exact own_retA X32 hx Bd.returns rfl hlk (hb hby own_d_prog_36_method_5_21) rfl (by decide) (by decide) (by exact ⟨b32, kb32, rfl, N32, KP, ge_b32, sz_b32, V_b32⟩)
def own_Q3A (Z : State) (aF aA a : Addr) (h0 : Heap) (n0 : Nat) (v : Option Value) (h : Heap) (L : List Loc) : Prop := v = some (.ref a) ∧ Fr n0 L ∧ h = h0
set_option maxRecDepth 65536 in
set_option maxHeartbeats 40000000 in
theorem own_rm3A (l : Launch) (Z : State) (a0 : Array Value) (hw : ∀ d ∈ tables_1, d.before a0 Z = true) (ws : List Jvm.Cond) (aF aA a : Addr) (h0 : Heap) (n0 : Nat) (Z0 : n0 ≤ h0.size) (OL : Old Z n0 h0) (SF : Sta Z Z.heap "com/example/steady_expansion/steadyexpansion/WordNet$Senses" "FIRST" "Lcom/example/steady_expansion/steadyexpansion/WordNet$Senses;" (.ref aF)) (ne_aA_aF : aA ≠ aF) :
    MetFree l (⟨"com/example/steady_expansion/steadyexpansion/WordNet$Senses", "offsets", "([I)[I"⟩ : MethodName) (head1 (Jvm.Cond.code (⟨"com/example/steady_expansion/steadyexpansion/WordNet$Senses", "offsets", "([I)[I"⟩ : MethodName) prog_36_method_5_code 2 (some (.array .int)) :: ws) ({ frames := 2, cells := 0, slots := 0, locals := 70 } : Room)) (fun aa_ U => aa_ = #[(.ref aA), (.ref a)] ∧ Z.Warmed39 U.vm ∧ U.heap = h0) (fun _ _ _ _ _ => True) (fun _ U o U' => ∃ v L, o = .returned v ∧ own_Q3A Z aF aA a h0 n0 v U'.heap L ∧ FrameEnd U o U' L ({ frames := 2, cells := 0, slots := 0, locals := 70 } : Room).cells ({ frames := 2, cells := 0, slots := 0, locals := 70 } : Room).slots) := by
  refine MetFree.of_bodySF (plainFor_of_name own_pn1) hisR ?_
  intro p e s m args below meth c s₁ Bd hml0 hP hK
  obtain ⟨rfl, hZ, hh⟩ := hP
  have hx := Bd.exec
  have hby := Bd.bytes
  have hlk : meth.locks = false := BodyLoose.notSynchronized Bd
  have hml : c.maxLocals = 2 := hml0
  have hown : s.vm.findClass "com/example/steady_expansion/steadyexpansion/WordNet$Senses" = some m.cls := findClass_of_methodNamed Bd.named
  have hnm := (name_of_methodNamed Bd.named Bd.method).1
  have X0 : Stand p l e ({ frames := 2, cells := 0, slots := 0, locals := 70 } : Room) s m #[(.ref aA), (.ref a)] below meth c s₁ [] 0 0 := Stand.of_body Bd
  have e0 : s₁.heap = h0 := by rw [← hh, Bd.state]; rfl
  have N0 := Fr.nil n0
  have KP : Keep h0 h0 [] := Keep.refl _ _
  refine own_start (Fin := (own_Fin s (own_Q3A Z aF aA a h0 n0) ({ frames := 2, cells := 0, slots := 0, locals := 70 } : Room).cells ({ frames := 2, cells := 0, slots := 0, locals := 70 } : Room).slots)) (own_from (mkF m 0 #[rv aA, rv a] []) (castTop (own_ef_3A m aA a)) ?_)
  refine own_to (T' := s₁) (mkF m 1 #[rv aA, rv a] [(.ref aA)]) (fun _ k => XS.aloadN X0.here hx rfl (hb hby own_d_prog_36_method_5_0) rfl rfl k) ?_
  obtain ⟨T33, X33, e33, st33⟩ := getS2 X0 hx hZ hown (host := "") (Or.inl (hw _ (List.mem_of_getElem? (i := 9) rfl))) Via.refl e0 (SF.ext OL.2) (g := (mkF m 1 #[rv aA, rv a] [(.ref aA)])) rfl (hb hby own_d_prog_36_method_5_1)
  refine own_to (mkF m 4 #[rv aA, rv a] [(.ref aF), (.ref aA)]) st33 ?_
  refine own_to (T' := T33) (mkF m 20 #[rv aA, rv a] []) (fun _ k => Jvm.RoadKit.acmp (g := (mkF m 4 #[rv aA, rv a] [(.ref aF), (.ref aA)])) X33 hx rfl rfl rfl (pc0 := 4) (pc' := 20) (same := false) rfl (hb hby own_d_prog_36_method_5_4) rfl (decide_eq_false fun q => ne_aA_aF (Value.ref.inj q)) (by decide) (by decide) k) ?_
  refine own_to (T' := T33) (mkF m 21 #[rv aA, rv a] [(.ref a)]) (fun _ k => XS.aloadN X33.here hx rfl (hb hby own_d_prog_36_method_5_20) rfl rfl k) ?_
  exact own_retA X33 hx Bd.returns rfl hlk (hb hby own_d_prog_36_method_5_21) rfl (by decide) (by decide) (by rw [e33]; exact ⟨rfl, N0, rfl⟩)
def own_Q4_0 (Z : State) (ia ib ic : Int32) (a : Addr) (k : ClassId) (h0 : Heap) (n0 : Nat) (v : Option Value) (h : Heap) (L : List Loc) : Prop := v = some (.int 1) ∧ Fr n0 L ∧ h = h0
set_option maxRecDepth 65536 in
set_option maxHeartbeats 40000000 in
theorem own_rm4_0 (l : Launch) (Z : State) (a0 : Array Value) (hw : ∀ d ∈ tables_1, d.before a0 Z = true) (ws : List Jvm.Cond) (ia ib ic : Int32) (a : Addr) (k : ClassId) (h0 : Heap) (n0 : Nat) (Z0 : n0 ≤ h0.size) (OL : Old Z n0 h0) (Va : Arv Z h0 a k .int (0 : Int32) [] (.int (0 : Int32))) :
    MetFree l (⟨"com/example/steady_expansion/steadyexpansion/SensesOffsetsPinLaw", "prefixMatches", "([IIII)Z"⟩ : MethodName) (head1 (Jvm.Cond.code (⟨"com/example/steady_expansion/steadyexpansion/SensesOffsetsPinLaw", "prefixMatches", "([IIII)Z"⟩ : MethodName) method_3_code 4 (some .boolean) :: ws) ({ frames := 0, cells := 0, slots := 0, locals := 0 } : Room)) (fun aa_ U => aa_ = #[(.ref a), (.int ia), (.int ib), (.int ic)] ∧ Z.Warmed39 U.vm ∧ U.heap = h0) (fun _ _ _ _ _ => True) (fun _ U o U' => ∃ v L, o = .returned v ∧ own_Q4_0 Z ia ib ic a k h0 n0 v U'.heap L ∧ FrameEnd U o U' L ({ frames := 0, cells := 0, slots := 0, locals := 0 } : Room).cells ({ frames := 0, cells := 0, slots := 0, locals := 0 } : Room).slots) := by
  refine MetFree.of_bodySF (plainFor_of_name own_pn2) hisR ?_
  intro p e s m args below meth c s₁ Bd hml0 hP hK
  obtain ⟨rfl, hZ, hh⟩ := hP
  have hx := Bd.exec
  have hby := Bd.bytes
  have hlk : meth.locks = false := BodyLoose.notSynchronized Bd
  have hml : c.maxLocals = 4 := hml0
  have hown : s.vm.findClass "com/example/steady_expansion/steadyexpansion/SensesOffsetsPinLaw" = some m.cls := findClass_of_methodNamed Bd.named
  have hnm := (name_of_methodNamed Bd.named Bd.method).1
  have X0 : Stand p l e ({ frames := 0, cells := 0, slots := 0, locals := 0 } : Room) s m #[(.ref a), (.int ia), (.int ib), (.int ic)] below meth c s₁ [] 0 0 := Stand.of_body Bd
  have e0 : s₁.heap = h0 := by rw [← hh, Bd.state]; rfl
  have N0 := Fr.nil n0
  have KP : Keep h0 h0 [] := Keep.refl _ _
  refine own_start (Fin := (own_Fin s (own_Q4_0 Z ia ib ic a k h0 n0) ({ frames := 0, cells := 0, slots := 0, locals := 0 } : Room).cells ({ frames := 0, cells := 0, slots := 0, locals := 0 } : Room).slots)) (own_from (mkF m 0 #[rv a, iv ia, iv ib, iv ic] []) (castTop (own_ef_4_0 m a ia ib ic)) ?_)
  refine own_to (T' := s₁) (mkF m 1 #[rv a, iv ia, iv ib, iv ic] [(.ref a)]) (fun _ k => XS.aloadN X0.here hx rfl (hb hby own_d_method_3_0) rfl rfl k) ?_
  obtain ⟨cl34, Ar34, -, S34, M34, -, -⟩ := id Va
  refine own_to (mkF m 2 #[rv a, iv ia, iv ib, iv ic] [(.int (0 : Int32))]) (by have q := X0.arraylength hx (by rw [e0]; exact Ar34.1) (State.isArrayOf_alike hZ.alike Ar34.2.1) (g := (mkF m 1 #[rv a, iv ia, iv ib, iv ic] [(.ref a)])) rfl rfl (hb hby own_d_method_3_1); rw [len_of S34 M34] at q; exact q) ?_
  refine own_to (T' := s₁) (mkF m 3 #[rv a, iv ia, iv ib, iv ic] [(.int (1 : Int32)), (.int (0 : Int32))]) (fun _ k => XS.iconst X0.here hx rfl (hb hby own_d_method_3_2) k) ?_
  refine own_to (T' := s₁) (mkF m 15 #[rv a, iv ia, iv ib, iv ic] []) (fun _ k => XS.icmpYes X0.here hx rfl (pc0 := 3) (pc' := 15) rfl (hb hby own_d_method_3_3) rfl (tlt (by decide : (0 : Int32) < (1 : Int32))).1 (by decide) (by decide) k) ?_
  refine own_to (T' := s₁) (mkF m 16 #[rv a, iv ia, iv ib, iv ic] [(.ref a)]) (fun _ k => XS.aloadN X0.here hx rfl (hb hby own_d_method_3_15) rfl rfl k) ?_
  obtain ⟨cl35, Ar35, -, S35, M35, -, -⟩ := id Va
  refine own_to (mkF m 17 #[rv a, iv ia, iv ib, iv ic] [(.int (0 : Int32))]) (by have q := X0.arraylength hx (by rw [e0]; exact Ar35.1) (State.isArrayOf_alike hZ.alike Ar35.2.1) (g := (mkF m 16 #[rv a, iv ia, iv ib, iv ic] [(.ref a)])) rfl rfl (hb hby own_d_method_3_16); rw [len_of S35 M35] at q; exact q) ?_
  refine own_to (T' := s₁) (mkF m 18 #[rv a, iv ia, iv ib, iv ic] [(.int (2 : Int32)), (.int (0 : Int32))]) (fun _ k => XS.iconst X0.here hx rfl (hb hby own_d_method_3_17) k) ?_
  refine own_to (T' := s₁) (mkF m 30 #[rv a, iv ia, iv ib, iv ic] []) (fun _ k => XS.icmpYes X0.here hx rfl (pc0 := 18) (pc' := 30) rfl (hb hby own_d_method_3_18) rfl (tlt (by decide : (0 : Int32) < (2 : Int32))).1 (by decide) (by decide) k) ?_
  refine own_to (T' := s₁) (mkF m 31 #[rv a, iv ia, iv ib, iv ic] [(.ref a)]) (fun _ k => XS.aloadN X0.here hx rfl (hb hby own_d_method_3_30) rfl rfl k) ?_
  obtain ⟨cl36, Ar36, -, S36, M36, -, -⟩ := id Va
  refine own_to (mkF m 32 #[rv a, iv ia, iv ib, iv ic] [(.int (0 : Int32))]) (by have q := X0.arraylength hx (by rw [e0]; exact Ar36.1) (State.isArrayOf_alike hZ.alike Ar36.2.1) (g := (mkF m 31 #[rv a, iv ia, iv ib, iv ic] [(.ref a)])) rfl rfl (hb hby own_d_method_3_31); rw [len_of S36 M36] at q; exact q) ?_
  refine own_to (T' := s₁) (mkF m 33 #[rv a, iv ia, iv ib, iv ic] [(.int (3 : Int32)), (.int (0 : Int32))]) (fun _ k => XS.iconst X0.here hx rfl (hb hby own_d_method_3_32) k) ?_
  refine own_to (T' := s₁) (mkF m 45 #[rv a, iv ia, iv ib, iv ic] []) (fun _ k => XS.icmpYes X0.here hx rfl (pc0 := 33) (pc' := 45) rfl (hb hby own_d_method_3_33) rfl (tlt (by decide : (0 : Int32) < (3 : Int32))).1 (by decide) (by decide) k) ?_
  refine own_to (T' := s₁) (mkF m 46 #[rv a, iv ia, iv ib, iv ic] [(.int (1 : Int32))]) (fun _ k => XS.iconst X0.here hx rfl (hb hby own_d_method_3_45) k) ?_
  exact own_retN X0 hx (t := .boolean) Bd.returns (by simp) hlk (hb hby own_d_method_3_46) (by decide) (by decide) (by rw [e0]; exact ⟨rfl, N0, rfl⟩)
def own_Q4_1 (Z : State) (ia ib ic : Int32) (a : Addr) (k : ClassId) (h0 : Heap) (n0 : Nat) (v : Option Value) (h : Heap) (L : List Loc) : Prop := v = some (.int 1) ∧ Fr n0 L ∧ h = h0
set_option maxRecDepth 65536 in
set_option maxHeartbeats 40000000 in
theorem own_rm4_1 (l : Launch) (Z : State) (a0 : Array Value) (hw : ∀ d ∈ tables_1, d.before a0 Z = true) (ws : List Jvm.Cond) (ia ib ic : Int32) (a : Addr) (k : ClassId) (h0 : Heap) (n0 : Nat) (Z0 : n0 ≤ h0.size) (OL : Old Z n0 h0) (Va : Arv Z h0 a k .int (1 : Int32) [(.int ia)] (.int (0 : Int32))) :
    MetFree l (⟨"com/example/steady_expansion/steadyexpansion/SensesOffsetsPinLaw", "prefixMatches", "([IIII)Z"⟩ : MethodName) (head1 (Jvm.Cond.code (⟨"com/example/steady_expansion/steadyexpansion/SensesOffsetsPinLaw", "prefixMatches", "([IIII)Z"⟩ : MethodName) method_3_code 4 (some .boolean) :: ws) ({ frames := 0, cells := 0, slots := 0, locals := 0 } : Room)) (fun aa_ U => aa_ = #[(.ref a), (.int ia), (.int ib), (.int ic)] ∧ Z.Warmed39 U.vm ∧ U.heap = h0) (fun _ _ _ _ _ => True) (fun _ U o U' => ∃ v L, o = .returned v ∧ own_Q4_1 Z ia ib ic a k h0 n0 v U'.heap L ∧ FrameEnd U o U' L ({ frames := 0, cells := 0, slots := 0, locals := 0 } : Room).cells ({ frames := 0, cells := 0, slots := 0, locals := 0 } : Room).slots) := by
  refine MetFree.of_bodySF (plainFor_of_name own_pn2) hisR ?_
  intro p e s m args below meth c s₁ Bd hml0 hP hK
  obtain ⟨rfl, hZ, hh⟩ := hP
  have hx := Bd.exec
  have hby := Bd.bytes
  have hlk : meth.locks = false := BodyLoose.notSynchronized Bd
  have hml : c.maxLocals = 4 := hml0
  have hown : s.vm.findClass "com/example/steady_expansion/steadyexpansion/SensesOffsetsPinLaw" = some m.cls := findClass_of_methodNamed Bd.named
  have hnm := (name_of_methodNamed Bd.named Bd.method).1
  have X0 : Stand p l e ({ frames := 0, cells := 0, slots := 0, locals := 0 } : Room) s m #[(.ref a), (.int ia), (.int ib), (.int ic)] below meth c s₁ [] 0 0 := Stand.of_body Bd
  have e0 : s₁.heap = h0 := by rw [← hh, Bd.state]; rfl
  have N0 := Fr.nil n0
  have KP : Keep h0 h0 [] := Keep.refl _ _
  refine own_start (Fin := (own_Fin s (own_Q4_1 Z ia ib ic a k h0 n0) ({ frames := 0, cells := 0, slots := 0, locals := 0 } : Room).cells ({ frames := 0, cells := 0, slots := 0, locals := 0 } : Room).slots)) (own_from (mkF m 0 #[rv a, iv ia, iv ib, iv ic] []) (castTop (own_ef_4_1 m a ia ib ic)) ?_)
  refine own_to (T' := s₁) (mkF m 1 #[rv a, iv ia, iv ib, iv ic] [(.ref a)]) (fun _ k => XS.aloadN X0.here hx rfl (hb hby own_d_method_3_0) rfl rfl k) ?_
  obtain ⟨cl37, Ar37, -, S37, M37, -, -⟩ := id Va
  refine own_to (mkF m 2 #[rv a, iv ia, iv ib, iv ic] [(.int (1 : Int32))]) (by have q := X0.arraylength hx (by rw [e0]; exact Ar37.1) (State.isArrayOf_alike hZ.alike Ar37.2.1) (g := (mkF m 1 #[rv a, iv ia, iv ib, iv ic] [(.ref a)])) rfl rfl (hb hby own_d_method_3_1); rw [len_of S37 M37] at q; exact q) ?_
  refine own_to (T' := s₁) (mkF m 3 #[rv a, iv ia, iv ib, iv ic] [(.int (1 : Int32)), (.int (1 : Int32))]) (fun _ k => XS.iconst X0.here hx rfl (hb hby own_d_method_3_2) k) ?_
  refine own_to (T' := s₁) (mkF m 6 #[rv a, iv ia, iv ib, iv ic] []) (fun _ k => XS.icmpNo X0.here hx rfl (hb hby own_d_method_3_3) rfl (flt (by decide : ¬ ((1 : Int32) < (1 : Int32)))).1 k) ?_
  refine own_to (T' := s₁) (mkF m 7 #[rv a, iv ia, iv ib, iv ic] [(.ref a)]) (fun _ k => XS.aloadN X0.here hx rfl (hb hby own_d_method_3_6) rfl rfl k) ?_
  refine own_to (T' := s₁) (mkF m 8 #[rv a, iv ia, iv ib, iv ic] [(.int (0 : Int32)), (.ref a)]) (fun _ k => XS.iconst X0.here hx rfl (hb hby own_d_method_3_7) k) ?_
  obtain ⟨cl38, Ar38, -, S38, -, H38, -⟩ := id Va
  refine own_to (mkF m 9 #[rv a, iv ia, iv ib, iv ic] [(.int ia)]) (X0.iaload hx (j := (0 : Int32)) (v := (.int ia)) (by rw [e0]; exact Ar38.1) (State.isArrayOf_alike hZ.alike Ar38.2.1) Ar38.2.2 (inb_of S38 ⟨by decide, by decide⟩) (H38.at (inb_of S38 ⟨by decide, by decide⟩) rfl) (g := (mkF m 8 #[rv a, iv ia, iv ib, iv ic] [(.int (0 : Int32)), (.ref a)])) rfl rfl (hb hby own_d_method_3_8)) ?_
  refine own_to (T' := s₁) (mkF m 10 #[rv a, iv ia, iv ib, iv ic] [(.int ia), (.int ia)]) (fun _ k => XS.iloadN X0.here hx rfl (hb hby own_d_method_3_9) rfl k) ?_
  refine own_to (T' := s₁) (mkF m 15 #[rv a, iv ia, iv ib, iv ic] []) (fun _ k => XS.icmpYes X0.here hx rfl (pc0 := 10) (pc' := 15) rfl (hb hby own_d_method_3_10) rfl (teq (rfl : ia = ia)).1 (by decide) (by decide) k) ?_
  refine own_to (T' := s₁) (mkF m 16 #[rv a, iv ia, iv ib, iv ic] [(.ref a)]) (fun _ k => XS.aloadN X0.here hx rfl (hb hby own_d_method_3_15) rfl rfl k) ?_
  obtain ⟨cl39, Ar39, -, S39, M39, -, -⟩ := id Va
  refine own_to (mkF m 17 #[rv a, iv ia, iv ib, iv ic] [(.int (1 : Int32))]) (by have q := X0.arraylength hx (by rw [e0]; exact Ar39.1) (State.isArrayOf_alike hZ.alike Ar39.2.1) (g := (mkF m 16 #[rv a, iv ia, iv ib, iv ic] [(.ref a)])) rfl rfl (hb hby own_d_method_3_16); rw [len_of S39 M39] at q; exact q) ?_
  refine own_to (T' := s₁) (mkF m 18 #[rv a, iv ia, iv ib, iv ic] [(.int (2 : Int32)), (.int (1 : Int32))]) (fun _ k => XS.iconst X0.here hx rfl (hb hby own_d_method_3_17) k) ?_
  refine own_to (T' := s₁) (mkF m 30 #[rv a, iv ia, iv ib, iv ic] []) (fun _ k => XS.icmpYes X0.here hx rfl (pc0 := 18) (pc' := 30) rfl (hb hby own_d_method_3_18) rfl (tlt (by decide : (1 : Int32) < (2 : Int32))).1 (by decide) (by decide) k) ?_
  refine own_to (T' := s₁) (mkF m 31 #[rv a, iv ia, iv ib, iv ic] [(.ref a)]) (fun _ k => XS.aloadN X0.here hx rfl (hb hby own_d_method_3_30) rfl rfl k) ?_
  obtain ⟨cl40, Ar40, -, S40, M40, -, -⟩ := id Va
  refine own_to (mkF m 32 #[rv a, iv ia, iv ib, iv ic] [(.int (1 : Int32))]) (by have q := X0.arraylength hx (by rw [e0]; exact Ar40.1) (State.isArrayOf_alike hZ.alike Ar40.2.1) (g := (mkF m 31 #[rv a, iv ia, iv ib, iv ic] [(.ref a)])) rfl rfl (hb hby own_d_method_3_31); rw [len_of S40 M40] at q; exact q) ?_
  refine own_to (T' := s₁) (mkF m 33 #[rv a, iv ia, iv ib, iv ic] [(.int (3 : Int32)), (.int (1 : Int32))]) (fun _ k => XS.iconst X0.here hx rfl (hb hby own_d_method_3_32) k) ?_
  refine own_to (T' := s₁) (mkF m 45 #[rv a, iv ia, iv ib, iv ic] []) (fun _ k => XS.icmpYes X0.here hx rfl (pc0 := 33) (pc' := 45) rfl (hb hby own_d_method_3_33) rfl (tlt (by decide : (1 : Int32) < (3 : Int32))).1 (by decide) (by decide) k) ?_
  refine own_to (T' := s₁) (mkF m 46 #[rv a, iv ia, iv ib, iv ic] [(.int (1 : Int32))]) (fun _ k => XS.iconst X0.here hx rfl (hb hby own_d_method_3_45) k) ?_
  exact own_retN X0 hx (t := .boolean) Bd.returns (by simp) hlk (hb hby own_d_method_3_46) (by decide) (by decide) (by rw [e0]; exact ⟨rfl, N0, rfl⟩)
def own_Q4_2 (Z : State) (ia ib ic : Int32) (a : Addr) (k : ClassId) (h0 : Heap) (n0 : Nat) (v : Option Value) (h : Heap) (L : List Loc) : Prop := v = some (.int 1) ∧ Fr n0 L ∧ h = h0
set_option maxRecDepth 65536 in
set_option maxHeartbeats 40000000 in
theorem own_rm4_2 (l : Launch) (Z : State) (a0 : Array Value) (hw : ∀ d ∈ tables_1, d.before a0 Z = true) (ws : List Jvm.Cond) (ia ib ic : Int32) (a : Addr) (k : ClassId) (h0 : Heap) (n0 : Nat) (Z0 : n0 ≤ h0.size) (OL : Old Z n0 h0) (Va : Arv Z h0 a k .int (2 : Int32) [(.int ia), (.int ib)] (.int (0 : Int32))) :
    MetFree l (⟨"com/example/steady_expansion/steadyexpansion/SensesOffsetsPinLaw", "prefixMatches", "([IIII)Z"⟩ : MethodName) (head1 (Jvm.Cond.code (⟨"com/example/steady_expansion/steadyexpansion/SensesOffsetsPinLaw", "prefixMatches", "([IIII)Z"⟩ : MethodName) method_3_code 4 (some .boolean) :: ws) ({ frames := 0, cells := 0, slots := 0, locals := 0 } : Room)) (fun aa_ U => aa_ = #[(.ref a), (.int ia), (.int ib), (.int ic)] ∧ Z.Warmed39 U.vm ∧ U.heap = h0) (fun _ _ _ _ _ => True) (fun _ U o U' => ∃ v L, o = .returned v ∧ own_Q4_2 Z ia ib ic a k h0 n0 v U'.heap L ∧ FrameEnd U o U' L ({ frames := 0, cells := 0, slots := 0, locals := 0 } : Room).cells ({ frames := 0, cells := 0, slots := 0, locals := 0 } : Room).slots) := by
  refine MetFree.of_bodySF (plainFor_of_name own_pn2) hisR ?_
  intro p e s m args below meth c s₁ Bd hml0 hP hK
  obtain ⟨rfl, hZ, hh⟩ := hP
  have hx := Bd.exec
  have hby := Bd.bytes
  have hlk : meth.locks = false := BodyLoose.notSynchronized Bd
  have hml : c.maxLocals = 4 := hml0
  have hown : s.vm.findClass "com/example/steady_expansion/steadyexpansion/SensesOffsetsPinLaw" = some m.cls := findClass_of_methodNamed Bd.named
  have hnm := (name_of_methodNamed Bd.named Bd.method).1
  have X0 : Stand p l e ({ frames := 0, cells := 0, slots := 0, locals := 0 } : Room) s m #[(.ref a), (.int ia), (.int ib), (.int ic)] below meth c s₁ [] 0 0 := Stand.of_body Bd
  have e0 : s₁.heap = h0 := by rw [← hh, Bd.state]; rfl
  have N0 := Fr.nil n0
  have KP : Keep h0 h0 [] := Keep.refl _ _
  refine own_start (Fin := (own_Fin s (own_Q4_2 Z ia ib ic a k h0 n0) ({ frames := 0, cells := 0, slots := 0, locals := 0 } : Room).cells ({ frames := 0, cells := 0, slots := 0, locals := 0 } : Room).slots)) (own_from (mkF m 0 #[rv a, iv ia, iv ib, iv ic] []) (castTop (own_ef_4_2 m a ia ib ic)) ?_)
  refine own_to (T' := s₁) (mkF m 1 #[rv a, iv ia, iv ib, iv ic] [(.ref a)]) (fun _ k => XS.aloadN X0.here hx rfl (hb hby own_d_method_3_0) rfl rfl k) ?_
  obtain ⟨cl41, Ar41, -, S41, M41, -, -⟩ := id Va
  refine own_to (mkF m 2 #[rv a, iv ia, iv ib, iv ic] [(.int (2 : Int32))]) (by have q := X0.arraylength hx (by rw [e0]; exact Ar41.1) (State.isArrayOf_alike hZ.alike Ar41.2.1) (g := (mkF m 1 #[rv a, iv ia, iv ib, iv ic] [(.ref a)])) rfl rfl (hb hby own_d_method_3_1); rw [len_of S41 M41] at q; exact q) ?_
  refine own_to (T' := s₁) (mkF m 3 #[rv a, iv ia, iv ib, iv ic] [(.int (1 : Int32)), (.int (2 : Int32))]) (fun _ k => XS.iconst X0.here hx rfl (hb hby own_d_method_3_2) k) ?_
  refine own_to (T' := s₁) (mkF m 6 #[rv a, iv ia, iv ib, iv ic] []) (fun _ k => XS.icmpNo X0.here hx rfl (hb hby own_d_method_3_3) rfl (flt (by decide : ¬ ((2 : Int32) < (1 : Int32)))).1 k) ?_
  refine own_to (T' := s₁) (mkF m 7 #[rv a, iv ia, iv ib, iv ic] [(.ref a)]) (fun _ k => XS.aloadN X0.here hx rfl (hb hby own_d_method_3_6) rfl rfl k) ?_
  refine own_to (T' := s₁) (mkF m 8 #[rv a, iv ia, iv ib, iv ic] [(.int (0 : Int32)), (.ref a)]) (fun _ k => XS.iconst X0.here hx rfl (hb hby own_d_method_3_7) k) ?_
  obtain ⟨cl42, Ar42, -, S42, -, H42, -⟩ := id Va
  refine own_to (mkF m 9 #[rv a, iv ia, iv ib, iv ic] [(.int ia)]) (X0.iaload hx (j := (0 : Int32)) (v := (.int ia)) (by rw [e0]; exact Ar42.1) (State.isArrayOf_alike hZ.alike Ar42.2.1) Ar42.2.2 (inb_of S42 ⟨by decide, by decide⟩) (H42.at (inb_of S42 ⟨by decide, by decide⟩) rfl) (g := (mkF m 8 #[rv a, iv ia, iv ib, iv ic] [(.int (0 : Int32)), (.ref a)])) rfl rfl (hb hby own_d_method_3_8)) ?_
  refine own_to (T' := s₁) (mkF m 10 #[rv a, iv ia, iv ib, iv ic] [(.int ia), (.int ia)]) (fun _ k => XS.iloadN X0.here hx rfl (hb hby own_d_method_3_9) rfl k) ?_
  refine own_to (T' := s₁) (mkF m 15 #[rv a, iv ia, iv ib, iv ic] []) (fun _ k => XS.icmpYes X0.here hx rfl (pc0 := 10) (pc' := 15) rfl (hb hby own_d_method_3_10) rfl (teq (rfl : ia = ia)).1 (by decide) (by decide) k) ?_
  refine own_to (T' := s₁) (mkF m 16 #[rv a, iv ia, iv ib, iv ic] [(.ref a)]) (fun _ k => XS.aloadN X0.here hx rfl (hb hby own_d_method_3_15) rfl rfl k) ?_
  obtain ⟨cl43, Ar43, -, S43, M43, -, -⟩ := id Va
  refine own_to (mkF m 17 #[rv a, iv ia, iv ib, iv ic] [(.int (2 : Int32))]) (by have q := X0.arraylength hx (by rw [e0]; exact Ar43.1) (State.isArrayOf_alike hZ.alike Ar43.2.1) (g := (mkF m 16 #[rv a, iv ia, iv ib, iv ic] [(.ref a)])) rfl rfl (hb hby own_d_method_3_16); rw [len_of S43 M43] at q; exact q) ?_
  refine own_to (T' := s₁) (mkF m 18 #[rv a, iv ia, iv ib, iv ic] [(.int (2 : Int32)), (.int (2 : Int32))]) (fun _ k => XS.iconst X0.here hx rfl (hb hby own_d_method_3_17) k) ?_
  refine own_to (T' := s₁) (mkF m 21 #[rv a, iv ia, iv ib, iv ic] []) (fun _ k => XS.icmpNo X0.here hx rfl (hb hby own_d_method_3_18) rfl (flt (by decide : ¬ ((2 : Int32) < (2 : Int32)))).1 k) ?_
  refine own_to (T' := s₁) (mkF m 22 #[rv a, iv ia, iv ib, iv ic] [(.ref a)]) (fun _ k => XS.aloadN X0.here hx rfl (hb hby own_d_method_3_21) rfl rfl k) ?_
  refine own_to (T' := s₁) (mkF m 23 #[rv a, iv ia, iv ib, iv ic] [(.int (1 : Int32)), (.ref a)]) (fun _ k => XS.iconst X0.here hx rfl (hb hby own_d_method_3_22) k) ?_
  obtain ⟨cl44, Ar44, -, S44, -, H44, -⟩ := id Va
  refine own_to (mkF m 24 #[rv a, iv ia, iv ib, iv ic] [(.int ib)]) (X0.iaload hx (j := (1 : Int32)) (v := (.int ib)) (by rw [e0]; exact Ar44.1) (State.isArrayOf_alike hZ.alike Ar44.2.1) Ar44.2.2 (inb_of S44 ⟨by decide, by decide⟩) (H44.at (inb_of S44 ⟨by decide, by decide⟩) rfl) (g := (mkF m 23 #[rv a, iv ia, iv ib, iv ic] [(.int (1 : Int32)), (.ref a)])) rfl rfl (hb hby own_d_method_3_23)) ?_
  refine own_to (T' := s₁) (mkF m 25 #[rv a, iv ia, iv ib, iv ic] [(.int ib), (.int ib)]) (fun _ k => XS.iloadN X0.here hx rfl (hb hby own_d_method_3_24) rfl k) ?_
  refine own_to (T' := s₁) (mkF m 30 #[rv a, iv ia, iv ib, iv ic] []) (fun _ k => XS.icmpYes X0.here hx rfl (pc0 := 25) (pc' := 30) rfl (hb hby own_d_method_3_25) rfl (teq (rfl : ib = ib)).1 (by decide) (by decide) k) ?_
  refine own_to (T' := s₁) (mkF m 31 #[rv a, iv ia, iv ib, iv ic] [(.ref a)]) (fun _ k => XS.aloadN X0.here hx rfl (hb hby own_d_method_3_30) rfl rfl k) ?_
  obtain ⟨cl45, Ar45, -, S45, M45, -, -⟩ := id Va
  refine own_to (mkF m 32 #[rv a, iv ia, iv ib, iv ic] [(.int (2 : Int32))]) (by have q := X0.arraylength hx (by rw [e0]; exact Ar45.1) (State.isArrayOf_alike hZ.alike Ar45.2.1) (g := (mkF m 31 #[rv a, iv ia, iv ib, iv ic] [(.ref a)])) rfl rfl (hb hby own_d_method_3_31); rw [len_of S45 M45] at q; exact q) ?_
  refine own_to (T' := s₁) (mkF m 33 #[rv a, iv ia, iv ib, iv ic] [(.int (3 : Int32)), (.int (2 : Int32))]) (fun _ k => XS.iconst X0.here hx rfl (hb hby own_d_method_3_32) k) ?_
  refine own_to (T' := s₁) (mkF m 45 #[rv a, iv ia, iv ib, iv ic] []) (fun _ k => XS.icmpYes X0.here hx rfl (pc0 := 33) (pc' := 45) rfl (hb hby own_d_method_3_33) rfl (tlt (by decide : (2 : Int32) < (3 : Int32))).1 (by decide) (by decide) k) ?_
  refine own_to (T' := s₁) (mkF m 46 #[rv a, iv ia, iv ib, iv ic] [(.int (1 : Int32))]) (fun _ k => XS.iconst X0.here hx rfl (hb hby own_d_method_3_45) k) ?_
  exact own_retN X0 hx (t := .boolean) Bd.returns (by simp) hlk (hb hby own_d_method_3_46) (by decide) (by decide) (by rw [e0]; exact ⟨rfl, N0, rfl⟩)
def own_Q4_3 (Z : State) (ia ib ic : Int32) (a : Addr) (k : ClassId) (h0 : Heap) (n0 : Nat) (v : Option Value) (h : Heap) (L : List Loc) : Prop := v = some (.int 1) ∧ Fr n0 L ∧ h = h0
set_option maxRecDepth 65536 in
set_option maxHeartbeats 40000000 in
theorem own_rm4_3 (l : Launch) (Z : State) (a0 : Array Value) (hw : ∀ d ∈ tables_1, d.before a0 Z = true) (ws : List Jvm.Cond) (ia ib ic : Int32) (a : Addr) (k : ClassId) (h0 : Heap) (n0 : Nat) (Z0 : n0 ≤ h0.size) (OL : Old Z n0 h0) (Va : Arv Z h0 a k .int (3 : Int32) [(.int ia), (.int ib), (.int ic)] (.int (0 : Int32))) :
    MetFree l (⟨"com/example/steady_expansion/steadyexpansion/SensesOffsetsPinLaw", "prefixMatches", "([IIII)Z"⟩ : MethodName) (head1 (Jvm.Cond.code (⟨"com/example/steady_expansion/steadyexpansion/SensesOffsetsPinLaw", "prefixMatches", "([IIII)Z"⟩ : MethodName) method_3_code 4 (some .boolean) :: ws) ({ frames := 0, cells := 0, slots := 0, locals := 0 } : Room)) (fun aa_ U => aa_ = #[(.ref a), (.int ia), (.int ib), (.int ic)] ∧ Z.Warmed39 U.vm ∧ U.heap = h0) (fun _ _ _ _ _ => True) (fun _ U o U' => ∃ v L, o = .returned v ∧ own_Q4_3 Z ia ib ic a k h0 n0 v U'.heap L ∧ FrameEnd U o U' L ({ frames := 0, cells := 0, slots := 0, locals := 0 } : Room).cells ({ frames := 0, cells := 0, slots := 0, locals := 0 } : Room).slots) := by
  refine MetFree.of_bodySF (plainFor_of_name own_pn2) hisR ?_
  intro p e s m args below meth c s₁ Bd hml0 hP hK
  obtain ⟨rfl, hZ, hh⟩ := hP
  have hx := Bd.exec
  have hby := Bd.bytes
  have hlk : meth.locks = false := BodyLoose.notSynchronized Bd
  have hml : c.maxLocals = 4 := hml0
  have hown : s.vm.findClass "com/example/steady_expansion/steadyexpansion/SensesOffsetsPinLaw" = some m.cls := findClass_of_methodNamed Bd.named
  have hnm := (name_of_methodNamed Bd.named Bd.method).1
  have X0 : Stand p l e ({ frames := 0, cells := 0, slots := 0, locals := 0 } : Room) s m #[(.ref a), (.int ia), (.int ib), (.int ic)] below meth c s₁ [] 0 0 := Stand.of_body Bd
  have e0 : s₁.heap = h0 := by rw [← hh, Bd.state]; rfl
  have N0 := Fr.nil n0
  have KP : Keep h0 h0 [] := Keep.refl _ _
  refine own_start (Fin := (own_Fin s (own_Q4_3 Z ia ib ic a k h0 n0) ({ frames := 0, cells := 0, slots := 0, locals := 0 } : Room).cells ({ frames := 0, cells := 0, slots := 0, locals := 0 } : Room).slots)) (own_from (mkF m 0 #[rv a, iv ia, iv ib, iv ic] []) (castTop (own_ef_4_3 m a ia ib ic)) ?_)
  refine own_to (T' := s₁) (mkF m 1 #[rv a, iv ia, iv ib, iv ic] [(.ref a)]) (fun _ k => XS.aloadN X0.here hx rfl (hb hby own_d_method_3_0) rfl rfl k) ?_
  obtain ⟨cl46, Ar46, -, S46, M46, -, -⟩ := id Va
  refine own_to (mkF m 2 #[rv a, iv ia, iv ib, iv ic] [(.int (3 : Int32))]) (by have q := X0.arraylength hx (by rw [e0]; exact Ar46.1) (State.isArrayOf_alike hZ.alike Ar46.2.1) (g := (mkF m 1 #[rv a, iv ia, iv ib, iv ic] [(.ref a)])) rfl rfl (hb hby own_d_method_3_1); rw [len_of S46 M46] at q; exact q) ?_
  refine own_to (T' := s₁) (mkF m 3 #[rv a, iv ia, iv ib, iv ic] [(.int (1 : Int32)), (.int (3 : Int32))]) (fun _ k => XS.iconst X0.here hx rfl (hb hby own_d_method_3_2) k) ?_
  refine own_to (T' := s₁) (mkF m 6 #[rv a, iv ia, iv ib, iv ic] []) (fun _ k => XS.icmpNo X0.here hx rfl (hb hby own_d_method_3_3) rfl (flt (by decide : ¬ ((3 : Int32) < (1 : Int32)))).1 k) ?_
  refine own_to (T' := s₁) (mkF m 7 #[rv a, iv ia, iv ib, iv ic] [(.ref a)]) (fun _ k => XS.aloadN X0.here hx rfl (hb hby own_d_method_3_6) rfl rfl k) ?_
  refine own_to (T' := s₁) (mkF m 8 #[rv a, iv ia, iv ib, iv ic] [(.int (0 : Int32)), (.ref a)]) (fun _ k => XS.iconst X0.here hx rfl (hb hby own_d_method_3_7) k) ?_
  obtain ⟨cl47, Ar47, -, S47, -, H47, -⟩ := id Va
  refine own_to (mkF m 9 #[rv a, iv ia, iv ib, iv ic] [(.int ia)]) (X0.iaload hx (j := (0 : Int32)) (v := (.int ia)) (by rw [e0]; exact Ar47.1) (State.isArrayOf_alike hZ.alike Ar47.2.1) Ar47.2.2 (inb_of S47 ⟨by decide, by decide⟩) (H47.at (inb_of S47 ⟨by decide, by decide⟩) rfl) (g := (mkF m 8 #[rv a, iv ia, iv ib, iv ic] [(.int (0 : Int32)), (.ref a)])) rfl rfl (hb hby own_d_method_3_8)) ?_
  refine own_to (T' := s₁) (mkF m 10 #[rv a, iv ia, iv ib, iv ic] [(.int ia), (.int ia)]) (fun _ k => XS.iloadN X0.here hx rfl (hb hby own_d_method_3_9) rfl k) ?_
  refine own_to (T' := s₁) (mkF m 15 #[rv a, iv ia, iv ib, iv ic] []) (fun _ k => XS.icmpYes X0.here hx rfl (pc0 := 10) (pc' := 15) rfl (hb hby own_d_method_3_10) rfl (teq (rfl : ia = ia)).1 (by decide) (by decide) k) ?_
  refine own_to (T' := s₁) (mkF m 16 #[rv a, iv ia, iv ib, iv ic] [(.ref a)]) (fun _ k => XS.aloadN X0.here hx rfl (hb hby own_d_method_3_15) rfl rfl k) ?_
  obtain ⟨cl48, Ar48, -, S48, M48, -, -⟩ := id Va
  refine own_to (mkF m 17 #[rv a, iv ia, iv ib, iv ic] [(.int (3 : Int32))]) (by have q := X0.arraylength hx (by rw [e0]; exact Ar48.1) (State.isArrayOf_alike hZ.alike Ar48.2.1) (g := (mkF m 16 #[rv a, iv ia, iv ib, iv ic] [(.ref a)])) rfl rfl (hb hby own_d_method_3_16); rw [len_of S48 M48] at q; exact q) ?_
  refine own_to (T' := s₁) (mkF m 18 #[rv a, iv ia, iv ib, iv ic] [(.int (2 : Int32)), (.int (3 : Int32))]) (fun _ k => XS.iconst X0.here hx rfl (hb hby own_d_method_3_17) k) ?_
  refine own_to (T' := s₁) (mkF m 21 #[rv a, iv ia, iv ib, iv ic] []) (fun _ k => XS.icmpNo X0.here hx rfl (hb hby own_d_method_3_18) rfl (flt (by decide : ¬ ((3 : Int32) < (2 : Int32)))).1 k) ?_
  refine own_to (T' := s₁) (mkF m 22 #[rv a, iv ia, iv ib, iv ic] [(.ref a)]) (fun _ k => XS.aloadN X0.here hx rfl (hb hby own_d_method_3_21) rfl rfl k) ?_
  refine own_to (T' := s₁) (mkF m 23 #[rv a, iv ia, iv ib, iv ic] [(.int (1 : Int32)), (.ref a)]) (fun _ k => XS.iconst X0.here hx rfl (hb hby own_d_method_3_22) k) ?_
  obtain ⟨cl49, Ar49, -, S49, -, H49, -⟩ := id Va
  refine own_to (mkF m 24 #[rv a, iv ia, iv ib, iv ic] [(.int ib)]) (X0.iaload hx (j := (1 : Int32)) (v := (.int ib)) (by rw [e0]; exact Ar49.1) (State.isArrayOf_alike hZ.alike Ar49.2.1) Ar49.2.2 (inb_of S49 ⟨by decide, by decide⟩) (H49.at (inb_of S49 ⟨by decide, by decide⟩) rfl) (g := (mkF m 23 #[rv a, iv ia, iv ib, iv ic] [(.int (1 : Int32)), (.ref a)])) rfl rfl (hb hby own_d_method_3_23)) ?_
  refine own_to (T' := s₁) (mkF m 25 #[rv a, iv ia, iv ib, iv ic] [(.int ib), (.int ib)]) (fun _ k => XS.iloadN X0.here hx rfl (hb hby own_d_method_3_24) rfl k) ?_
  refine own_to (T' := s₁) (mkF m 30 #[rv a, iv ia, iv ib, iv ic] []) (fun _ k => XS.icmpYes X0.here hx rfl (pc0 := 25) (pc' := 30) rfl (hb hby own_d_method_3_25) rfl (teq (rfl : ib = ib)).1 (by decide) (by decide) k) ?_
  refine own_to (T' := s₁) (mkF m 31 #[rv a, iv ia, iv ib, iv ic] [(.ref a)]) (fun _ k => XS.aloadN X0.here hx rfl (hb hby own_d_method_3_30) rfl rfl k) ?_
  obtain ⟨cl50, Ar50, -, S50, M50, -, -⟩ := id Va
  refine own_to (mkF m 32 #[rv a, iv ia, iv ib, iv ic] [(.int (3 : Int32))]) (by have q := X0.arraylength hx (by rw [e0]; exact Ar50.1) (State.isArrayOf_alike hZ.alike Ar50.2.1) (g := (mkF m 31 #[rv a, iv ia, iv ib, iv ic] [(.ref a)])) rfl rfl (hb hby own_d_method_3_31); rw [len_of S50 M50] at q; exact q) ?_
  refine own_to (T' := s₁) (mkF m 33 #[rv a, iv ia, iv ib, iv ic] [(.int (3 : Int32)), (.int (3 : Int32))]) (fun _ k => XS.iconst X0.here hx rfl (hb hby own_d_method_3_32) k) ?_
  refine own_to (T' := s₁) (mkF m 36 #[rv a, iv ia, iv ib, iv ic] []) (fun _ k => XS.icmpNo X0.here hx rfl (hb hby own_d_method_3_33) rfl (flt (by decide : ¬ ((3 : Int32) < (3 : Int32)))).1 k) ?_
  refine own_to (T' := s₁) (mkF m 37 #[rv a, iv ia, iv ib, iv ic] [(.ref a)]) (fun _ k => XS.aloadN X0.here hx rfl (hb hby own_d_method_3_36) rfl rfl k) ?_
  refine own_to (T' := s₁) (mkF m 38 #[rv a, iv ia, iv ib, iv ic] [(.int (2 : Int32)), (.ref a)]) (fun _ k => XS.iconst X0.here hx rfl (hb hby own_d_method_3_37) k) ?_
  obtain ⟨cl51, Ar51, -, S51, -, H51, -⟩ := id Va
  refine own_to (mkF m 39 #[rv a, iv ia, iv ib, iv ic] [(.int ic)]) (X0.iaload hx (j := (2 : Int32)) (v := (.int ic)) (by rw [e0]; exact Ar51.1) (State.isArrayOf_alike hZ.alike Ar51.2.1) Ar51.2.2 (inb_of S51 ⟨by decide, by decide⟩) (H51.at (inb_of S51 ⟨by decide, by decide⟩) rfl) (g := (mkF m 38 #[rv a, iv ia, iv ib, iv ic] [(.int (2 : Int32)), (.ref a)])) rfl rfl (hb hby own_d_method_3_38)) ?_
  refine own_to (T' := s₁) (mkF m 40 #[rv a, iv ia, iv ib, iv ic] [(.int ic), (.int ic)]) (fun _ k => XS.iloadN X0.here hx rfl (hb hby own_d_method_3_39) rfl k) ?_
  refine own_to (T' := s₁) (mkF m 45 #[rv a, iv ia, iv ib, iv ic] []) (fun _ k => XS.icmpYes X0.here hx rfl (pc0 := 40) (pc' := 45) rfl (hb hby own_d_method_3_40) rfl (teq (rfl : ic = ic)).1 (by decide) (by decide) k) ?_
  refine own_to (T' := s₁) (mkF m 46 #[rv a, iv ia, iv ib, iv ic] [(.int (1 : Int32))]) (fun _ k => XS.iconst X0.here hx rfl (hb hby own_d_method_3_45) k) ?_
  exact own_retN X0 hx (t := .boolean) Bd.returns (by simp) hlk (hb hby own_d_method_3_46) (by decide) (by decide) (by rw [e0]; exact ⟨rfl, N0, rfl⟩)
def own_Q0 (Z : State) (p0 p1 : Int32) (ia ib ic : Int32) (aF aA : Addr) (h0 : Heap) (n0 : Nat) (v : Option Value) (h : Heap) (L : List Loc) : Prop := v = some (.int 1) ∧ Fr n0 L
set_option maxRecDepth 65536 in
set_option maxHeartbeats 40000000 in
theorem own_rm0 (l : Launch) (Z : State) (a0 : Array Value) (hw : ∀ d ∈ tables_1, d.before a0 Z = true) (ws : List Jvm.Cond) (p0 p1 : Int32) (ia ib ic : Int32) (aF aA : Addr) (h0 : Heap) (n0 : Nat) (Z0 : n0 ≤ h0.size) (OL : Old Z n0 h0) (SF : Sta Z Z.heap "com/example/steady_expansion/steadyexpansion/WordNet$Senses" "FIRST" "Lcom/example/steady_expansion/steadyexpansion/WordNet$Senses;" (.ref aF)) (SA : Sta Z Z.heap "com/example/steady_expansion/steadyexpansion/WordNet$Senses" "ALL" "Lcom/example/steady_expansion/steadyexpansion/WordNet$Senses;" (.ref aA)) (EF : Exa Z Z.heap aF "com/example/steady_expansion/steadyexpansion/WordNet$Senses") (EA : Exa Z Z.heap aA "com/example/steady_expansion/steadyexpansion/WordNet$Senses") (ne_aA_aF : aA ≠ aF) :
    MetFree l x (head1 (Jvm.Cond.code x code maxLocals ret :: ws) room_1) (fun aa_ U => aa_ = #[(.int p0), (.int p1), (.int ia), (.int ib), (.int ic)] ∧ Z.Warmed39 U.vm ∧ U.heap = h0) (fun _ _ _ _ _ => True) (fun _ U o U' => ∃ v L, o = .returned v ∧ own_Q0 Z p0 p1 ia ib ic aF aA h0 n0 v U'.heap L ∧ FrameEnd U o U' L room_1.cells room_1.slots) := by
  refine MetFree.of_bodySF (plainFor_of_name own_pn2) hisR ?_
  intro p e s m args below meth c s₁ Bd hml0 hP hK
  obtain ⟨rfl, hZ, hh⟩ := hP
  have hx := Bd.exec
  have hby := Bd.bytes
  have hlk : meth.locks = false := BodyLoose.notSynchronized Bd
  have hml : c.maxLocals = 11 := hml0
  have hown : s.vm.findClass "com/example/steady_expansion/steadyexpansion/SensesOffsetsPinLaw" = some m.cls := findClass_of_methodNamed Bd.named
  have hnm := (name_of_methodNamed Bd.named Bd.method).1
  have X0 : Stand p l e room_1 s m #[(.int p0), (.int p1), (.int ia), (.int ib), (.int ic)] below meth c s₁ [] 0 0 := Stand.of_body Bd
  have e0 : s₁.heap = h0 := by rw [← hh, Bd.state]; rfl
  have N0 := Fr.nil n0
  have KP : Keep h0 h0 [] := Keep.refl _ _
  refine own_start (Fin := (own_Fin s (own_Q0 Z p0 p1 ia ib ic aF aA h0 n0) room_1.cells room_1.slots)) (own_from (mkF m 0 #[iv p0, iv p1, iv ia, iv ib, iv ic, .unset, .unset, .unset, .unset, .unset, .unset] []) (castTop (own_ef_0 m p0 p1 ia ib ic)) ?_)
  refine own_to (T' := s₁) (mkF m 1 #[iv p0, iv p1, iv ia, iv ib, iv ic, .unset, .unset, .unset, .unset, .unset, .unset] [(.int p0)]) (fun _ k => XS.iloadN X0.here hx rfl (hb hby at_0) rfl k) ?_
  refine own_to (T' := s₁) (mkF m 2 #[iv p0, iv p1, iv ia, iv ib, iv ic, .unset, .unset, .unset, .unset, .unset, .unset] [(.int (1 : Int32)), (.int p0)]) (fun _ k => XS.iconst X0.here hx rfl (hb hby at_1) k) ?_
  refine own_to (T' := s₁) (mkF m 3 #[iv p0, iv p1, iv ia, iv ib, iv ic, .unset, .unset, .unset, .unset, .unset, .unset] [(.int (p0 &&& (1 : Int32)))]) (fun _ k => XS.iand X0.here hx rfl (hb hby at_2) rfl k) ?_
  by_cases hs : (p0 &&& (1 : Int32)) = (0 : Int32)
  · refine own_to (T' := s₁) (mkF m 10 #[iv p0, iv p1, iv ia, iv ib, iv ic, .unset, .unset, .unset, .unset, .unset, .unset] []) (fun _ k => XS.ifYes X0.here hx rfl (pc0 := 3) (pc' := 10) rfl (hb hby at_3) rfl ((if0 _ _).trans (teq hs).1) (by decide) (by decide) k) ?_
    refine own_to (T' := s₁) (mkF m 11 #[iv p0, iv p1, iv ia, iv ib, iv ic, .unset, .unset, .unset, .unset, .unset, .unset] [(.int (0 : Int32))]) (fun _ k => XS.iconst X0.here hx rfl (hb hby at_10) k) ?_
    refine own_to (T' := s₁) (mkF m 13 #[iv p0, iv p1, iv ia, iv ib, iv ic, iv 0, .unset, .unset, .unset, .unset, .unset] []) (fun _ k => XS.istore X0.here hx rfl (hb hby at_11) rfl (l' := #[iv p0, iv p1, iv ia, iv ib, iv ic, iv 0, .unset, .unset, .unset, .unset, .unset]) rfl k) ?_
    refine own_to (T' := s₁) (mkF m 15 #[iv p0, iv p1, iv ia, iv ib, iv ic, iv 0, .unset, .unset, .unset, .unset, .unset] [(.int (0 : Int32))]) (fun _ k => XS.iload X0.here hx rfl (hb hby at_13) rfl k) ?_
    refine own_to (T' := s₁) (mkF m 24 #[iv p0, iv p1, iv ia, iv ib, iv ic, iv 0, .unset, .unset, .unset, .unset, .unset] []) (fun _ k => XS.ifYes X0.here hx rfl (pc0 := 15) (pc' := 24) rfl (hb hby at_15) rfl ((if0 _ _).trans (teq (by decide : (0 : Int32) = (0 : Int32))).1) (by decide) (by decide) k) ?_
    obtain ⟨T83, X83, e83, st83⟩ := getS2 X0 hx hZ hown (host := "") (Or.inl (hw _ (List.mem_of_getElem? (i := 0) rfl))) Via.refl e0 (SA.ext OL.2) (g := (mkF m 24 #[iv p0, iv p1, iv ia, iv ib, iv ic, iv 0, .unset, .unset, .unset, .unset, .unset] [])) rfl (hb hby at_24)
    refine own_to (mkF m 27 #[iv p0, iv p1, iv ia, iv ib, iv ic, iv 0, .unset, .unset, .unset, .unset, .unset] [(.ref aA)]) st83 ?_
    refine own_to (T' := T83) (mkF m 29 #[iv p0, iv p1, iv ia, iv ib, iv ic, iv 0, rv aA, .unset, .unset, .unset, .unset] []) (fun _ k => XS.astore X83.here hx rfl (hb hby at_27) rfl rfl (l' := #[iv p0, iv p1, iv ia, iv ib, iv ic, iv 0, rv aA, .unset, .unset, .unset, .unset]) rfl k) ?_
    refine own_to (T' := T83) (mkF m 30 #[iv p0, iv p1, iv ia, iv ib, iv ic, iv 0, rv aA, .unset, .unset, .unset, .unset] [(.int p1)]) (fun _ k => XS.iloadN X83.here hx rfl (hb hby at_29) rfl k) ?_
    refine own_to (T' := T83) (mkF m 31 #[iv p0, iv p1, iv ia, iv ib, iv ic, iv 0, rv aA, .unset, .unset, .unset, .unset] [(.int (3 : Int32)), (.int p1)]) (fun _ k => XS.iconst X83.here hx rfl (hb hby at_30) k) ?_
    refine own_to (T' := T83) (mkF m 32 #[iv p0, iv p1, iv ia, iv ib, iv ic, iv 0, rv aA, .unset, .unset, .unset, .unset] [(.int (p1 &&& (3 : Int32)))]) (fun _ k => XS.iand X83.here hx rfl (hb hby at_31) rfl k) ?_
    refine own_to (T' := T83) (mkF m 34 #[iv p0, iv p1, iv ia, iv ib, iv ic, iv 0, rv aA, iv (p1 &&& (3 : Int32)), .unset, .unset, .unset] []) (fun _ k => XS.istore X83.here hx rfl (hb hby at_32) rfl (l' := #[iv p0, iv p1, iv ia, iv ib, iv ic, iv 0, rv aA, iv (p1 &&& (3 : Int32)), .unset, .unset, .unset]) rfl k) ?_
    generalize hnn : (p1 &&& (3 : Int32)) = nn
    rcases own_four p1 hnn with q | q | q | q
    · subst q
      refine own_to (T' := T83) (mkF m 36 #[iv p0, iv p1, iv ia, iv ib, iv ic, iv 0, rv aA, iv 0, .unset, .unset, .unset] [(.int (0 : Int32))]) (fun _ k => XS.iload X83.here hx rfl (hb hby at_34) rfl k) ?_
      refine own_to (T' := T83) (mkF m 39 #[iv p0, iv p1, iv ia, iv ib, iv ic, iv 0, rv aA, iv 0, .unset, .unset, .unset] []) (fun _ k => XS.ifNo X83.here hx rfl (hb hby at_36) rfl ((if0 _ _).trans (teq (by decide : (0 : Int32) = (0 : Int32))).2) k) ?_
      refine own_to (T' := T83) (mkF m 40 #[iv p0, iv p1, iv ia, iv ib, iv ic, iv 0, rv aA, iv 0, .unset, .unset, .unset] [(.int (0 : Int32))]) (fun _ k => XS.iconst X83.here hx rfl (hb hby at_39) k) ?_
      obtain ⟨T84, h84, k84, X84, e84, E84, A84, B84, st84⟩ := newPE X83 hx hZ (hw _ (List.mem_of_getElem? (i := 3) rfl)) e83 (g := (mkF m 40 #[iv p0, iv p1, iv ia, iv ib, iv ic, iv 0, rv aA, iv 0, .unset, .unset, .unset] [(.int (0 : Int32))])) rfl (hb hby at_40) rfl (by decide) (cap := 0) (by decide) (by decide) (by decide) (by decide) (ad := "[I") (by decide)
      obtain ⟨b84, g84⟩ : ∃ z, z = h0.size := ⟨_, rfl⟩
      rw [← g84] at A84 B84 st84
      have sz_b84 : h0.size ≤ b84 := Nat.le_trans KP.1 (Nat.le_of_eq g84.symm)
      have ge_b84 : n0 ≤ b84 := Nat.le_trans Z0 sz_b84
      have OL := OL.ext E84
      have KP := KP.ext E84
      have E_b84 : Exa Z h84 b84 "[I" := B84
      have V_b84 : Arv Z h84 b84 k84 .int (0 : Int32) [] (.int (0 : Int32)) := Arv.new A84 (by decide)
      refine own_to (mkF m 42 #[iv p0, iv p1, iv ia, iv ib, iv ic, iv 0, rv aA, iv 0, .unset, .unset, .unset] [(.ref b84)]) st84 ?_
      refine own_to (T' := T84) (mkF m 97 #[iv p0, iv p1, iv ia, iv ib, iv ic, iv 0, rv aA, iv 0, .unset, .unset, .unset] [(.ref b84)]) (fun _ k => XS.goto X84.here hx rfl (pc0 := 42) (pc' := 97) rfl (hb hby at_42) (by decide) (by decide) k) ?_
      refine own_to (T' := T84) (mkF m 99 #[iv p0, iv p1, iv ia, iv ib, iv ic, iv 0, rv aA, iv 0, rv b84, .unset, .unset] []) (fun _ k => XS.astore X84.here hx rfl (hb hby at_97) rfl rfl (l' := #[iv p0, iv p1, iv ia, iv ib, iv ic, iv 0, rv aA, iv 0, rv b84, .unset, .unset]) rfl k) ?_
      refine own_to (T' := T84) (mkF m 101 #[iv p0, iv p1, iv ia, iv ib, iv ic, iv 0, rv aA, iv 0, rv b84, .unset, .unset] [(.ref aA)]) (fun _ k => XS.aload X84.here hx rfl (hb hby at_99) rfl rfl k) ?_
      refine own_to (T' := T84) (mkF m 103 #[iv p0, iv p1, iv ia, iv ib, iv ic, iv 0, rv aA, iv 0, rv b84, .unset, .unset] [(.ref b84), (.ref aA)]) (fun _ k => XS.aload X84.here hx rfl (hb hby at_101) rfl rfl k) ?_
      have EE : Exa Z h84 aA "com/example/steady_expansion/steadyexpansion/WordNet$Senses" := EA.ext OL.2
      obtain ⟨cq85, kq85, q85a, q85b, q85c⟩ := isOf hZ e84 EE
      obtain ⟨_, _, ⟨T85, L85, k85, n85⟩, -, X85, ⟨Lc85, hQ85, l85, y85, z85⟩, st85⟩ := X84.virtualBack hx (y := (⟨"com/example/steady_expansion/steadyexpansion/WordNet$Senses", "offsets", "([I)[I"⟩ : MethodName)) (z := (⟨"com/example/steady_expansion/steadyexpansion/WordNet$Senses", "offsets", "([I)[I"⟩ : MethodName)) hown (mvT hZ (hw _ (List.mem_of_getElem? (i := 4) rfl))) (mvT hZ (hw _ (List.mem_of_getElem? (i := 5) rfl))) (notFace_of_selects (args := #[]) (mvT hZ (hw _ (List.mem_of_getElem? (i := 7) rfl)))) (mvT hZ (hw _ (List.mem_of_getElem? (i := 7) rfl))) (mvT hZ (hw _ (List.mem_of_getElem? (i := 6) rfl))) (by decide) (backOf (W := 0) (own_rm3A l Z a0 hw [] aF aA b84 h84 n0 (Nat.le_trans Z0 KP.1) OL SF ne_aA_aF) hZ (hw _ (List.mem_of_getElem? (i := 8) rfl)) (hw _ (List.mem_of_getElem? (i := 1) rfl)) (by decide) (by decide)) q85a q85c (g := (mkF m 103 #[iv p0, iv p1, iv ia, iv ib, iv ic, iv 0, rv aA, iv 0, rv b84, .unset, .unset] [(.ref b84), (.ref aA)])) rfl (by rw [hml]; rfl) (Steps.refl _) (argsL := [(.ref b84)]) (rest := []) (lenOf own_pd2 rfl) rfl (by show 2 * 0 + _ ≤ _; exact Nat.le_of_eq rfl) (hb hby at_103) (fun _ _ => ⟨rfl, e84, (by decide : 1 + 0 ≤ _), (by decide : 0 + 0 ≤ _)⟩)
      dsimp only [Pt.U, Pt.locs, Pt.cells, Pt.slots] at X85 l85 y85 z85 st85 hQ85
      subst l85 y85 z85
      obtain ⟨rfl, N85q, e85⟩ := hQ85
      have N85 := Fr.app N0 N85q
      refine own_via (mkF m 106 #[iv p0, iv p1, iv ia, iv ib, iv ic, iv 0, rv aA, iv 0, rv b84, .unset, .unset] [(.ref b84)]) st85 ?_
      refine own_to (T' := T85) (mkF m 108 #[iv p0, iv p1, iv ia, iv ib, iv ic, iv 0, rv aA, iv 0, rv b84, rv b84, .unset] []) (fun _ k => XS.astore X85.here hx rfl (hb hby at_106) rfl rfl (l' := #[iv p0, iv p1, iv ia, iv ib, iv ic, iv 0, rv aA, iv 0, rv b84, rv b84, .unset]) rfl k) ?_
      refine own_to (T' := T85) (mkF m 110 #[iv p0, iv p1, iv ia, iv ib, iv ic, iv 0, rv aA, iv 0, rv b84, rv b84, .unset] [(.ref b84)]) (fun _ k => XS.aload X85.here hx rfl (hb hby at_108) rfl rfl k) ?_
      refine own_to (T' := T85) (mkF m 115 #[iv p0, iv p1, iv ia, iv ib, iv ic, iv 0, rv aA, iv 0, rv b84, rv b84, .unset] []) (fun _ k => XS.ifnonnullYes X85.here hx rfl (pc0 := 110) (pc' := 115) rfl (hb hby at_110) rfl (by decide) (by decide) k) ?_
      refine own_to (T' := T85) (mkF m 117 #[iv p0, iv p1, iv ia, iv ib, iv ic, iv 0, rv aA, iv 0, rv b84, rv b84, .unset] [(.int (0 : Int32))]) (fun _ k => XS.iload X85.here hx rfl (hb hby at_115) rfl k) ?_
      refine own_to (T' := T85) (mkF m 133 #[iv p0, iv p1, iv ia, iv ib, iv ic, iv 0, rv aA, iv 0, rv b84, rv b84, .unset] []) (fun _ k => XS.ifYes X85.here hx rfl (pc0 := 117) (pc' := 133) rfl (hb hby at_117) rfl ((if0 _ _).trans (teq (by decide : (0 : Int32) = (0 : Int32))).1) (by decide) (by decide) k) ?_
      refine own_to (T' := T85) (mkF m 135 #[iv p0, iv p1, iv ia, iv ib, iv ic, iv 0, rv aA, iv 0, rv b84, rv b84, .unset] [(.int (0 : Int32))]) (fun _ k => XS.iload X85.here hx rfl (hb hby at_133) rfl k) ?_
      refine own_to (T' := T85) (mkF m 137 #[iv p0, iv p1, iv ia, iv ib, iv ic, iv 0, rv aA, iv 0, rv b84, rv b84, iv 0] []) (fun _ k => XS.istore X85.here hx rfl (hb hby at_135) rfl (l' := #[iv p0, iv p1, iv ia, iv ib, iv ic, iv 0, rv aA, iv 0, rv b84, rv b84, iv 0]) rfl k) ?_
      refine own_to (T' := T85) (mkF m 139 #[iv p0, iv p1, iv ia, iv ib, iv ic, iv 0, rv aA, iv 0, rv b84, rv b84, iv 0] [(.ref b84)]) (fun _ k => XS.aload X85.here hx rfl (hb hby at_137) rfl rfl k) ?_
      obtain ⟨cl86, Ar86, -, S86, M86, -, -⟩ := id V_b84
      refine own_to (mkF m 140 #[iv p0, iv p1, iv ia, iv ib, iv ic, iv 0, rv aA, iv 0, rv b84, rv b84, iv 0] [(.int (0 : Int32))]) (by have q := X85.arraylength hx (by rw [e85]; exact Ar86.1) (State.isArrayOf_alike hZ.alike Ar86.2.1) (g := (mkF m 139 #[iv p0, iv p1, iv ia, iv ib, iv ic, iv 0, rv aA, iv 0, rv b84, rv b84, iv 0] [(.ref b84)])) rfl rfl (hb hby at_139); rw [len_of S86 M86] at q; exact q) ?_
      refine own_to (T' := T85) (mkF m 142 #[iv p0, iv p1, iv ia, iv ib, iv ic, iv 0, rv aA, iv 0, rv b84, rv b84, iv 0] [(.int (0 : Int32)), (.int (0 : Int32))]) (fun _ k => XS.iload X85.here hx rfl (hb hby at_140) rfl k) ?_
      refine own_to (T' := T85) (mkF m 147 #[iv p0, iv p1, iv ia, iv ib, iv ic, iv 0, rv aA, iv 0, rv b84, rv b84, iv 0] []) (fun _ k => XS.icmpYes X85.here hx rfl (pc0 := 142) (pc' := 147) rfl (hb hby at_142) rfl (teq (by decide : (0 : Int32) = (0 : Int32))).1 (by decide) (by decide) k) ?_
      refine own_to (T' := T85) (mkF m 149 #[iv p0, iv p1, iv ia, iv ib, iv ic, iv 0, rv aA, iv 0, rv b84, rv b84, iv 0] [(.ref b84)]) (fun _ k => XS.aload X85.here hx rfl (hb hby at_147) rfl rfl k) ?_
      obtain ⟨cl87, Ar87, -, S87, M87, -, -⟩ := id V_b84
      refine own_to (mkF m 150 #[iv p0, iv p1, iv ia, iv ib, iv ic, iv 0, rv aA, iv 0, rv b84, rv b84, iv 0] [(.int (0 : Int32))]) (by have q := X85.arraylength hx (by rw [e85]; exact Ar87.1) (State.isArrayOf_alike hZ.alike Ar87.2.1) (g := (mkF m 149 #[iv p0, iv p1, iv ia, iv ib, iv ic, iv 0, rv aA, iv 0, rv b84, rv b84, iv 0] [(.ref b84)])) rfl rfl (hb hby at_149); rw [len_of S87 M87] at q; exact q) ?_
      refine own_to (T' := T85) (mkF m 152 #[iv p0, iv p1, iv ia, iv ib, iv ic, iv 0, rv aA, iv 0, rv b84, rv b84, iv 0] [(.int (0 : Int32)), (.int (0 : Int32))]) (fun _ k => XS.iload X85.here hx rfl (hb hby at_150) rfl k) ?_
      refine own_to (T' := T85) (mkF m 155 #[iv p0, iv p1, iv ia, iv ib, iv ic, iv 0, rv aA, iv 0, rv b84, rv b84, iv 0] []) (fun _ k => XS.icmpNo X85.here hx rfl (hb hby at_152) rfl (teq (by decide : (0 : Int32) = (0 : Int32))).2 k) ?_
      refine own_to (T' := T85) (mkF m 157 #[iv p0, iv p1, iv ia, iv ib, iv ic, iv 0, rv aA, iv 0, rv b84, rv b84, iv 0] [(.ref b84)]) (fun _ k => XS.aload X85.here hx rfl (hb hby at_155) rfl rfl k) ?_
      refine own_to (T' := T85) (mkF m 158 #[iv p0, iv p1, iv ia, iv ib, iv ic, iv 0, rv aA, iv 0, rv b84, rv b84, iv 0] [(.int ia), (.ref b84)]) (fun _ k => XS.iloadN X85.here hx rfl (hb hby at_157) rfl k) ?_
      refine own_to (T' := T85) (mkF m 159 #[iv p0, iv p1, iv ia, iv ib, iv ic, iv 0, rv aA, iv 0, rv b84, rv b84, iv 0] [(.int ib), (.int ia), (.ref b84)]) (fun _ k => XS.iloadN X85.here hx rfl (hb hby at_158) rfl k) ?_
      refine own_to (T' := T85) (mkF m 161 #[iv p0, iv p1, iv ia, iv ib, iv ic, iv 0, rv aA, iv 0, rv b84, rv b84, iv 0] [(.int ic), (.int ib), (.int ia), (.ref b84)]) (fun _ k => XS.iload X85.here hx rfl (hb hby at_159) rfl k) ?_
      obtain ⟨_, _, ⟨T88, L88, k88, n88⟩, -, X88, ⟨Lc88, hQ88, l88, y88, z88⟩, st88⟩ := Jvm.LawKit.callS X85 hx (y := (⟨"com/example/steady_expansion/steadyexpansion/SensesOffsetsPinLaw", "prefixMatches", "([IIII)Z"⟩ : MethodName)) hown (mvT hZ (hw _ (List.mem_of_getElem? (i := 11) rfl))) (mvT hZ (hw _ (List.mem_of_getElem? (i := 12) rfl))) (mvT hZ (hw _ (List.mem_of_getElem? (i := 13) rfl))) (mvT hZ (hw _ (List.mem_of_getElem? (i := 14) rfl))) (by decide) (backOf (W := 0) (own_rm4_0 l Z a0 hw [] ia ib ic b84 k84 h84 n0 (Nat.le_trans Z0 KP.1) OL V_b84) hZ (hw _ (List.mem_of_getElem? (i := 14) rfl)) (hw _ (List.mem_of_getElem? (i := 13) rfl)) (by decide) (by decide)) (g := (mkF m 161 #[iv p0, iv p1, iv ia, iv ib, iv ic, iv 0, rv aA, iv 0, rv b84, rv b84, iv 0] [(.int ic), (.int ib), (.int ia), (.ref b84)])) rfl (by rw [hml]; rfl) (argsL := [(.ref b84), (.int ia), (.int ib), (.int ic)]) (rest := []) (lenOf own_pd3 rfl) rfl (by show 2 * 0 + _ ≤ _; exact Nat.le_of_eq rfl) (hb hby at_161) (fun _ _ => ⟨rfl, e85, (by decide : 1 + 0 ≤ _), (by decide : 0 + 0 ≤ _)⟩)
      dsimp only [Pt.U, Pt.locs, Pt.cells, Pt.slots] at X88 l88 y88 z88 st88 hQ88
      subst l88 y88 z88
      obtain ⟨rfl, N88q, e88⟩ := hQ88
      have N88 := Fr.app N85 N88q
      refine own_to (mkF m 164 #[iv p0, iv p1, iv ia, iv ib, iv ic, iv 0, rv aA, iv 0, rv b84, rv b84, iv 0] [(.int (1 : Int32))]) st88 ?_
      refine own_to (T' := T88) (mkF m 169 #[iv p0, iv p1, iv ia, iv ib, iv ic, iv 0, rv aA, iv 0, rv b84, rv b84, iv 0] []) (fun _ k => XS.ifYes X88.here hx rfl (pc0 := 164) (pc' := 169) rfl (hb hby at_164) rfl ((if0 _ _).trans (feq (by decide : ¬ ((1 : Int32) = (0 : Int32)))).2) (by decide) (by decide) k) ?_
      refine own_to (T' := T88) (mkF m 171 #[iv p0, iv p1, iv ia, iv ib, iv ic, iv 0, rv aA, iv 0, rv b84, rv b84, iv 0] [(.ref b84)]) (fun _ k => XS.aload X88.here hx rfl (hb hby at_169) rfl rfl k) ?_
      refine own_to (T' := T88) (mkF m 172 #[iv p0, iv p1, iv ia, iv ib, iv ic, iv 0, rv aA, iv 0, rv b84, rv b84, iv 0] [(.int ia), (.ref b84)]) (fun _ k => XS.iloadN X88.here hx rfl (hb hby at_171) rfl k) ?_
      refine own_to (T' := T88) (mkF m 173 #[iv p0, iv p1, iv ia, iv ib, iv ic, iv 0, rv aA, iv 0, rv b84, rv b84, iv 0] [(.int ib), (.int ia), (.ref b84)]) (fun _ k => XS.iloadN X88.here hx rfl (hb hby at_172) rfl k) ?_
      refine own_to (T' := T88) (mkF m 175 #[iv p0, iv p1, iv ia, iv ib, iv ic, iv 0, rv aA, iv 0, rv b84, rv b84, iv 0] [(.int ic), (.int ib), (.int ia), (.ref b84)]) (fun _ k => XS.iload X88.here hx rfl (hb hby at_173) rfl k) ?_
      obtain ⟨_, _, ⟨T89, L89, k89, n89⟩, -, X89, ⟨Lc89, hQ89, l89, y89, z89⟩, st89⟩ := Jvm.LawKit.callS X88 hx (y := (⟨"com/example/steady_expansion/steadyexpansion/SensesOffsetsPinLaw", "prefixMatches", "([IIII)Z"⟩ : MethodName)) hown (mvT hZ (hw _ (List.mem_of_getElem? (i := 11) rfl))) (mvT hZ (hw _ (List.mem_of_getElem? (i := 12) rfl))) (mvT hZ (hw _ (List.mem_of_getElem? (i := 13) rfl))) (mvT hZ (hw _ (List.mem_of_getElem? (i := 14) rfl))) (by decide) (backOf (W := 0) (own_rm4_0 l Z a0 hw [] ia ib ic b84 k84 h84 n0 (Nat.le_trans Z0 KP.1) OL V_b84) hZ (hw _ (List.mem_of_getElem? (i := 14) rfl)) (hw _ (List.mem_of_getElem? (i := 13) rfl)) (by decide) (by decide)) (g := (mkF m 175 #[iv p0, iv p1, iv ia, iv ib, iv ic, iv 0, rv aA, iv 0, rv b84, rv b84, iv 0] [(.int ic), (.int ib), (.int ia), (.ref b84)])) rfl (by rw [hml]; rfl) (argsL := [(.ref b84), (.int ia), (.int ib), (.int ic)]) (rest := []) (lenOf own_pd3 rfl) rfl (by show 2 * 0 + _ ≤ _; exact Nat.le_of_eq rfl) (hb hby at_175) (fun _ _ => ⟨rfl, e88, (by decide : 1 + 0 ≤ _), (by decide : 0 + 0 ≤ _)⟩)
      dsimp only [Pt.U, Pt.locs, Pt.cells, Pt.slots] at X89 l89 y89 z89 st89 hQ89
      subst l89 y89 z89
      obtain ⟨rfl, N89q, e89⟩ := hQ89
      have N89 := Fr.app N88 N89q
      refine own_to (mkF m 178 #[iv p0, iv p1, iv ia, iv ib, iv ic, iv 0, rv aA, iv 0, rv b84, rv b84, iv 0] [(.int (1 : Int32))]) st89 ?_
      exact own_retN X89 hx (t := .boolean) Bd.returns (by simp) hlk (hb hby at_178) (by decide) (by decide) (by rw [e89]; exact ⟨rfl, N89⟩)
    · subst q
      refine own_to (T' := T83) (mkF m 36 #[iv p0, iv p1, iv ia, iv ib, iv ic, iv 0, rv aA, iv 1, .unset, .unset, .unset] [(.int (1 : Int32))]) (fun _ k => XS.iload X83.here hx rfl (hb hby at_34) rfl k) ?_
      refine own_to (T' := T83) (mkF m 45 #[iv p0, iv p1, iv ia, iv ib, iv ic, iv 0, rv aA, iv 1, .unset, .unset, .unset] []) (fun _ k => XS.ifYes X83.here hx rfl (pc0 := 36) (pc' := 45) rfl (hb hby at_36) rfl ((if0 _ _).trans (feq (by decide : ¬ ((1 : Int32) = (0 : Int32)))).2) (by decide) (by decide) k) ?_
      refine own_to (T' := T83) (mkF m 47 #[iv p0, iv p1, iv ia, iv ib, iv ic, iv 0, rv aA, iv 1, .unset, .unset, .unset] [(.int (1 : Int32))]) (fun _ k => XS.iload X83.here hx rfl (hb hby at_45) rfl k) ?_
      refine own_to (T' := T83) (mkF m 48 #[iv p0, iv p1, iv ia, iv ib, iv ic, iv 0, rv aA, iv 1, .unset, .unset, .unset] [(.int (1 : Int32)), (.int (1 : Int32))]) (fun _ k => XS.iconst X83.here hx rfl (hb hby at_47) k) ?_
      refine own_to (T' := T83) (mkF m 51 #[iv p0, iv p1, iv ia, iv ib, iv ic, iv 0, rv aA, iv 1, .unset, .unset, .unset] []) (fun _ k => XS.icmpNo X83.here hx rfl (hb hby at_48) rfl (teq (by decide : (1 : Int32) = (1 : Int32))).2 k) ?_
      refine own_to (T' := T83) (mkF m 52 #[iv p0, iv p1, iv ia, iv ib, iv ic, iv 0, rv aA, iv 1, .unset, .unset, .unset] [(.int (1 : Int32))]) (fun _ k => XS.iconst X83.here hx rfl (hb hby at_51) k) ?_
      obtain ⟨T90, h90, k90, X90, e90, E90, A90, B90, st90⟩ := newPE X83 hx hZ (hw _ (List.mem_of_getElem? (i := 3) rfl)) e83 (g := (mkF m 52 #[iv p0, iv p1, iv ia, iv ib, iv ic, iv 0, rv aA, iv 1, .unset, .unset, .unset] [(.int (1 : Int32))])) rfl (hb hby at_52) rfl (by decide) (cap := 1) (by decide) (by decide) (by decide) (by decide) (ad := "[I") (by decide)
      obtain ⟨b90, g90⟩ : ∃ z, z = h0.size := ⟨_, rfl⟩
      rw [← g90] at A90 B90 st90
      have sz_b90 : h0.size ≤ b90 := Nat.le_trans KP.1 (Nat.le_of_eq g90.symm)
      have ge_b90 : n0 ≤ b90 := Nat.le_trans Z0 sz_b90
      have OL := OL.ext E90
      have KP := KP.ext E90
      have E_b90 : Exa Z h90 b90 "[I" := B90
      have V_b90 : Arv Z h90 b90 k90 .int (1 : Int32) [(.int (0 : Int32))] (.int (0 : Int32)) := (Arv.new A90 (by decide)).pad (pad_rep [] (.int (0 : Int32)) 1)
      refine own_to (mkF m 54 #[iv p0, iv p1, iv ia, iv ib, iv ic, iv 0, rv aA, iv 1, .unset, .unset, .unset] [(.ref b90)]) st90 ?_
      refine own_to (T' := T90) (mkF m 55 #[iv p0, iv p1, iv ia, iv ib, iv ic, iv 0, rv aA, iv 1, .unset, .unset, .unset] [(.ref b90), (.ref b90)]) (fun _ k => XS.dup X90.here hx rfl (hb hby at_54) rfl rfl k) ?_
      refine own_to (T' := T90) (mkF m 56 #[iv p0, iv p1, iv ia, iv ib, iv ic, iv 0, rv aA, iv 1, .unset, .unset, .unset] [(.int (0 : Int32)), (.ref b90), (.ref b90)]) (fun _ k => XS.iconst X90.here hx rfl (hb hby at_55) k) ?_
      refine own_to (T' := T90) (mkF m 57 #[iv p0, iv p1, iv ia, iv ib, iv ic, iv 0, rv aA, iv 1, .unset, .unset, .unset] [(.int ia), (.int (0 : Int32)), (.ref b90), (.ref b90)]) (fun _ k => XS.iloadN X90.here hx rfl (hb hby at_56) rfl k) ?_
      obtain ⟨cl91, Ar91, q91, S91, M91, H91, G91⟩ := id V_b90
      obtain ⟨T91, h91, X91, e91, W91, st91⟩ := stI X90 hx hZ e90 Ar91 (j := (0 : Int32)) (inb_of S91 ⟨by decide, by decide⟩) (g := (mkF m 57 #[iv p0, iv p1, iv ia, iv ib, iv ic, iv 0, rv aA, iv 1, .unset, .unset, .unset] [(.int ia), (.int (0 : Int32)), (.ref b90), (.ref b90)])) rfl rfl (hb hby at_57)
      refine own_to (mkF m 58 #[iv p0, iv p1, iv ia, iv ib, iv ic, iv 0, rv aA, iv 1, .unset, .unset, .unset] [(.ref b90)]) st91 ?_
      have N91 := Fr.snoc X91 N0 ge_b90
      have tmp91 : Arv Z h91 b90 k90 .int (1 : Int32) [(.int ia)] (.int (0 : Int32)) := Arv.set Ar91 q91 S91 M91 H91 G91 rfl W91 0 rfl (Nat.le_of_ble_eq_true rfl)
      have OL := OL.wr W91 ge_b90
      have KP := KP.wr W91 (Or.inr sz_b90)
      have E_b90 := E_b90.wr W91
      have V_b90 := tmp91
      refine own_to (T' := T91) (mkF m 97 #[iv p0, iv p1, iv ia, iv ib, iv ic, iv 0, rv aA, iv 1, .unset, .unset, .unset] [(.ref b90)]) (fun _ k => XS.goto X91.here hx rfl (pc0 := 58) (pc' := 97) rfl (hb hby at_58) (by decide) (by decide) k) ?_
      refine own_to (T' := T91) (mkF m 99 #[iv p0, iv p1, iv ia, iv ib, iv ic, iv 0, rv aA, iv 1, rv b90, .unset, .unset] []) (fun _ k => XS.astore X91.here hx rfl (hb hby at_97) rfl rfl (l' := #[iv p0, iv p1, iv ia, iv ib, iv ic, iv 0, rv aA, iv 1, rv b90, .unset, .unset]) rfl k) ?_
      refine own_to (T' := T91) (mkF m 101 #[iv p0, iv p1, iv ia, iv ib, iv ic, iv 0, rv aA, iv 1, rv b90, .unset, .unset] [(.ref aA)]) (fun _ k => XS.aload X91.here hx rfl (hb hby at_99) rfl rfl k) ?_
      refine own_to (T' := T91) (mkF m 103 #[iv p0, iv p1, iv ia, iv ib, iv ic, iv 0, rv aA, iv 1, rv b90, .unset, .unset] [(.ref b90), (.ref aA)]) (fun _ k => XS.aload X91.here hx rfl (hb hby at_101) rfl rfl k) ?_
      have EE : Exa Z h91 aA "com/example/steady_expansion/steadyexpansion/WordNet$Senses" := EA.ext OL.2
      obtain ⟨cq92, kq92, q92a, q92b, q92c⟩ := isOf hZ e91 EE
      obtain ⟨_, _, ⟨T92, L92, k92, n92⟩, -, X92, ⟨Lc92, hQ92, l92, y92, z92⟩, st92⟩ := X91.virtualBack hx (y := (⟨"com/example/steady_expansion/steadyexpansion/WordNet$Senses", "offsets", "([I)[I"⟩ : MethodName)) (z := (⟨"com/example/steady_expansion/steadyexpansion/WordNet$Senses", "offsets", "([I)[I"⟩ : MethodName)) hown (mvT hZ (hw _ (List.mem_of_getElem? (i := 4) rfl))) (mvT hZ (hw _ (List.mem_of_getElem? (i := 5) rfl))) (notFace_of_selects (args := #[]) (mvT hZ (hw _ (List.mem_of_getElem? (i := 7) rfl)))) (mvT hZ (hw _ (List.mem_of_getElem? (i := 7) rfl))) (mvT hZ (hw _ (List.mem_of_getElem? (i := 6) rfl))) (by decide) (backOf (W := 0) (own_rm3A l Z a0 hw [] aF aA b90 h91 n0 (Nat.le_trans Z0 KP.1) OL SF ne_aA_aF) hZ (hw _ (List.mem_of_getElem? (i := 8) rfl)) (hw _ (List.mem_of_getElem? (i := 1) rfl)) (by decide) (by decide)) q92a q92c (g := (mkF m 103 #[iv p0, iv p1, iv ia, iv ib, iv ic, iv 0, rv aA, iv 1, rv b90, .unset, .unset] [(.ref b90), (.ref aA)])) rfl (by rw [hml]; rfl) (Steps.refl _) (argsL := [(.ref b90)]) (rest := []) (lenOf own_pd2 rfl) rfl (by show 2 * 0 + _ ≤ _; exact Nat.le_of_eq rfl) (hb hby at_103) (fun _ _ => ⟨rfl, e91, (by decide : 1 + 0 ≤ _), (by decide : 1 + 0 ≤ _)⟩)
      dsimp only [Pt.U, Pt.locs, Pt.cells, Pt.slots] at X92 l92 y92 z92 st92 hQ92
      subst l92 y92 z92
      obtain ⟨rfl, N92q, e92⟩ := hQ92
      have N92 := Fr.app N91 N92q
      refine own_via (mkF m 106 #[iv p0, iv p1, iv ia, iv ib, iv ic, iv 0, rv aA, iv 1, rv b90, .unset, .unset] [(.ref b90)]) st92 ?_
      refine own_to (T' := T92) (mkF m 108 #[iv p0, iv p1, iv ia, iv ib, iv ic, iv 0, rv aA, iv 1, rv b90, rv b90, .unset] []) (fun _ k => XS.astore X92.here hx rfl (hb hby at_106) rfl rfl (l' := #[iv p0, iv p1, iv ia, iv ib, iv ic, iv 0, rv aA, iv 1, rv b90, rv b90, .unset]) rfl k) ?_
      refine own_to (T' := T92) (mkF m 110 #[iv p0, iv p1, iv ia, iv ib, iv ic, iv 0, rv aA, iv 1, rv b90, rv b90, .unset] [(.ref b90)]) (fun _ k => XS.aload X92.here hx rfl (hb hby at_108) rfl rfl k) ?_
      refine own_to (T' := T92) (mkF m 115 #[iv p0, iv p1, iv ia, iv ib, iv ic, iv 0, rv aA, iv 1, rv b90, rv b90, .unset] []) (fun _ k => XS.ifnonnullYes X92.here hx rfl (pc0 := 110) (pc' := 115) rfl (hb hby at_110) rfl (by decide) (by decide) k) ?_
      refine own_to (T' := T92) (mkF m 117 #[iv p0, iv p1, iv ia, iv ib, iv ic, iv 0, rv aA, iv 1, rv b90, rv b90, .unset] [(.int (0 : Int32))]) (fun _ k => XS.iload X92.here hx rfl (hb hby at_115) rfl k) ?_
      refine own_to (T' := T92) (mkF m 133 #[iv p0, iv p1, iv ia, iv ib, iv ic, iv 0, rv aA, iv 1, rv b90, rv b90, .unset] []) (fun _ k => XS.ifYes X92.here hx rfl (pc0 := 117) (pc' := 133) rfl (hb hby at_117) rfl ((if0 _ _).trans (teq (by decide : (0 : Int32) = (0 : Int32))).1) (by decide) (by decide) k) ?_
      refine own_to (T' := T92) (mkF m 135 #[iv p0, iv p1, iv ia, iv ib, iv ic, iv 0, rv aA, iv 1, rv b90, rv b90, .unset] [(.int (1 : Int32))]) (fun _ k => XS.iload X92.here hx rfl (hb hby at_133) rfl k) ?_
      refine own_to (T' := T92) (mkF m 137 #[iv p0, iv p1, iv ia, iv ib, iv ic, iv 0, rv aA, iv 1, rv b90, rv b90, iv 1] []) (fun _ k => XS.istore X92.here hx rfl (hb hby at_135) rfl (l' := #[iv p0, iv p1, iv ia, iv ib, iv ic, iv 0, rv aA, iv 1, rv b90, rv b90, iv 1]) rfl k) ?_
      refine own_to (T' := T92) (mkF m 139 #[iv p0, iv p1, iv ia, iv ib, iv ic, iv 0, rv aA, iv 1, rv b90, rv b90, iv 1] [(.ref b90)]) (fun _ k => XS.aload X92.here hx rfl (hb hby at_137) rfl rfl k) ?_
      obtain ⟨cl93, Ar93, -, S93, M93, -, -⟩ := id V_b90
      refine own_to (mkF m 140 #[iv p0, iv p1, iv ia, iv ib, iv ic, iv 0, rv aA, iv 1, rv b90, rv b90, iv 1] [(.int (1 : Int32))]) (by have q := X92.arraylength hx (by rw [e92]; exact Ar93.1) (State.isArrayOf_alike hZ.alike Ar93.2.1) (g := (mkF m 139 #[iv p0, iv p1, iv ia, iv ib, iv ic, iv 0, rv aA, iv 1, rv b90, rv b90, iv 1] [(.ref b90)])) rfl rfl (hb hby at_139); rw [len_of S93 M93] at q; exact q) ?_
      refine own_to (T' := T92) (mkF m 142 #[iv p0, iv p1, iv ia, iv ib, iv ic, iv 0, rv aA, iv 1, rv b90, rv b90, iv 1] [(.int (1 : Int32)), (.int (1 : Int32))]) (fun _ k => XS.iload X92.here hx rfl (hb hby at_140) rfl k) ?_
      refine own_to (T' := T92) (mkF m 147 #[iv p0, iv p1, iv ia, iv ib, iv ic, iv 0, rv aA, iv 1, rv b90, rv b90, iv 1] []) (fun _ k => XS.icmpYes X92.here hx rfl (pc0 := 142) (pc' := 147) rfl (hb hby at_142) rfl (teq (by decide : (1 : Int32) = (1 : Int32))).1 (by decide) (by decide) k) ?_
      refine own_to (T' := T92) (mkF m 149 #[iv p0, iv p1, iv ia, iv ib, iv ic, iv 0, rv aA, iv 1, rv b90, rv b90, iv 1] [(.ref b90)]) (fun _ k => XS.aload X92.here hx rfl (hb hby at_147) rfl rfl k) ?_
      obtain ⟨cl94, Ar94, -, S94, M94, -, -⟩ := id V_b90
      refine own_to (mkF m 150 #[iv p0, iv p1, iv ia, iv ib, iv ic, iv 0, rv aA, iv 1, rv b90, rv b90, iv 1] [(.int (1 : Int32))]) (by have q := X92.arraylength hx (by rw [e92]; exact Ar94.1) (State.isArrayOf_alike hZ.alike Ar94.2.1) (g := (mkF m 149 #[iv p0, iv p1, iv ia, iv ib, iv ic, iv 0, rv aA, iv 1, rv b90, rv b90, iv 1] [(.ref b90)])) rfl rfl (hb hby at_149); rw [len_of S94 M94] at q; exact q) ?_
      refine own_to (T' := T92) (mkF m 152 #[iv p0, iv p1, iv ia, iv ib, iv ic, iv 0, rv aA, iv 1, rv b90, rv b90, iv 1] [(.int (1 : Int32)), (.int (1 : Int32))]) (fun _ k => XS.iload X92.here hx rfl (hb hby at_150) rfl k) ?_
      refine own_to (T' := T92) (mkF m 155 #[iv p0, iv p1, iv ia, iv ib, iv ic, iv 0, rv aA, iv 1, rv b90, rv b90, iv 1] []) (fun _ k => XS.icmpNo X92.here hx rfl (hb hby at_152) rfl (teq (by decide : (1 : Int32) = (1 : Int32))).2 k) ?_
      refine own_to (T' := T92) (mkF m 157 #[iv p0, iv p1, iv ia, iv ib, iv ic, iv 0, rv aA, iv 1, rv b90, rv b90, iv 1] [(.ref b90)]) (fun _ k => XS.aload X92.here hx rfl (hb hby at_155) rfl rfl k) ?_
      refine own_to (T' := T92) (mkF m 158 #[iv p0, iv p1, iv ia, iv ib, iv ic, iv 0, rv aA, iv 1, rv b90, rv b90, iv 1] [(.int ia), (.ref b90)]) (fun _ k => XS.iloadN X92.here hx rfl (hb hby at_157) rfl k) ?_
      refine own_to (T' := T92) (mkF m 159 #[iv p0, iv p1, iv ia, iv ib, iv ic, iv 0, rv aA, iv 1, rv b90, rv b90, iv 1] [(.int ib), (.int ia), (.ref b90)]) (fun _ k => XS.iloadN X92.here hx rfl (hb hby at_158) rfl k) ?_
      refine own_to (T' := T92) (mkF m 161 #[iv p0, iv p1, iv ia, iv ib, iv ic, iv 0, rv aA, iv 1, rv b90, rv b90, iv 1] [(.int ic), (.int ib), (.int ia), (.ref b90)]) (fun _ k => XS.iload X92.here hx rfl (hb hby at_159) rfl k) ?_
      obtain ⟨_, _, ⟨T95, L95, k95, n95⟩, -, X95, ⟨Lc95, hQ95, l95, y95, z95⟩, st95⟩ := Jvm.LawKit.callS X92 hx (y := (⟨"com/example/steady_expansion/steadyexpansion/SensesOffsetsPinLaw", "prefixMatches", "([IIII)Z"⟩ : MethodName)) hown (mvT hZ (hw _ (List.mem_of_getElem? (i := 11) rfl))) (mvT hZ (hw _ (List.mem_of_getElem? (i := 12) rfl))) (mvT hZ (hw _ (List.mem_of_getElem? (i := 13) rfl))) (mvT hZ (hw _ (List.mem_of_getElem? (i := 14) rfl))) (by decide) (backOf (W := 0) (own_rm4_1 l Z a0 hw [] ia ib ic b90 k90 h91 n0 (Nat.le_trans Z0 KP.1) OL V_b90) hZ (hw _ (List.mem_of_getElem? (i := 14) rfl)) (hw _ (List.mem_of_getElem? (i := 13) rfl)) (by decide) (by decide)) (g := (mkF m 161 #[iv p0, iv p1, iv ia, iv ib, iv ic, iv 0, rv aA, iv 1, rv b90, rv b90, iv 1] [(.int ic), (.int ib), (.int ia), (.ref b90)])) rfl (by rw [hml]; rfl) (argsL := [(.ref b90), (.int ia), (.int ib), (.int ic)]) (rest := []) (lenOf own_pd3 rfl) rfl (by show 2 * 0 + _ ≤ _; exact Nat.le_of_eq rfl) (hb hby at_161) (fun _ _ => ⟨rfl, e92, (by decide : 1 + 0 ≤ _), (by decide : 1 + 0 ≤ _)⟩)
      dsimp only [Pt.U, Pt.locs, Pt.cells, Pt.slots] at X95 l95 y95 z95 st95 hQ95
      subst l95 y95 z95
      obtain ⟨rfl, N95q, e95⟩ := hQ95
      have N95 := Fr.app N92 N95q
      refine own_to (mkF m 164 #[iv p0, iv p1, iv ia, iv ib, iv ic, iv 0, rv aA, iv 1, rv b90, rv b90, iv 1] [(.int (1 : Int32))]) st95 ?_
      refine own_to (T' := T95) (mkF m 169 #[iv p0, iv p1, iv ia, iv ib, iv ic, iv 0, rv aA, iv 1, rv b90, rv b90, iv 1] []) (fun _ k => XS.ifYes X95.here hx rfl (pc0 := 164) (pc' := 169) rfl (hb hby at_164) rfl ((if0 _ _).trans (feq (by decide : ¬ ((1 : Int32) = (0 : Int32)))).2) (by decide) (by decide) k) ?_
      refine own_to (T' := T95) (mkF m 171 #[iv p0, iv p1, iv ia, iv ib, iv ic, iv 0, rv aA, iv 1, rv b90, rv b90, iv 1] [(.ref b90)]) (fun _ k => XS.aload X95.here hx rfl (hb hby at_169) rfl rfl k) ?_
      refine own_to (T' := T95) (mkF m 172 #[iv p0, iv p1, iv ia, iv ib, iv ic, iv 0, rv aA, iv 1, rv b90, rv b90, iv 1] [(.int ia), (.ref b90)]) (fun _ k => XS.iloadN X95.here hx rfl (hb hby at_171) rfl k) ?_
      refine own_to (T' := T95) (mkF m 173 #[iv p0, iv p1, iv ia, iv ib, iv ic, iv 0, rv aA, iv 1, rv b90, rv b90, iv 1] [(.int ib), (.int ia), (.ref b90)]) (fun _ k => XS.iloadN X95.here hx rfl (hb hby at_172) rfl k) ?_
      refine own_to (T' := T95) (mkF m 175 #[iv p0, iv p1, iv ia, iv ib, iv ic, iv 0, rv aA, iv 1, rv b90, rv b90, iv 1] [(.int ic), (.int ib), (.int ia), (.ref b90)]) (fun _ k => XS.iload X95.here hx rfl (hb hby at_173) rfl k) ?_
      obtain ⟨_, _, ⟨T96, L96, k96, n96⟩, -, X96, ⟨Lc96, hQ96, l96, y96, z96⟩, st96⟩ := Jvm.LawKit.callS X95 hx (y := (⟨"com/example/steady_expansion/steadyexpansion/SensesOffsetsPinLaw", "prefixMatches", "([IIII)Z"⟩ : MethodName)) hown (mvT hZ (hw _ (List.mem_of_getElem? (i := 11) rfl))) (mvT hZ (hw _ (List.mem_of_getElem? (i := 12) rfl))) (mvT hZ (hw _ (List.mem_of_getElem? (i := 13) rfl))) (mvT hZ (hw _ (List.mem_of_getElem? (i := 14) rfl))) (by decide) (backOf (W := 0) (own_rm4_1 l Z a0 hw [] ia ib ic b90 k90 h91 n0 (Nat.le_trans Z0 KP.1) OL V_b90) hZ (hw _ (List.mem_of_getElem? (i := 14) rfl)) (hw _ (List.mem_of_getElem? (i := 13) rfl)) (by decide) (by decide)) (g := (mkF m 175 #[iv p0, iv p1, iv ia, iv ib, iv ic, iv 0, rv aA, iv 1, rv b90, rv b90, iv 1] [(.int ic), (.int ib), (.int ia), (.ref b90)])) rfl (by rw [hml]; rfl) (argsL := [(.ref b90), (.int ia), (.int ib), (.int ic)]) (rest := []) (lenOf own_pd3 rfl) rfl (by show 2 * 0 + _ ≤ _; exact Nat.le_of_eq rfl) (hb hby at_175) (fun _ _ => ⟨rfl, e95, (by decide : 1 + 0 ≤ _), (by decide : 1 + 0 ≤ _)⟩)
      dsimp only [Pt.U, Pt.locs, Pt.cells, Pt.slots] at X96 l96 y96 z96 st96 hQ96
      subst l96 y96 z96
      obtain ⟨rfl, N96q, e96⟩ := hQ96
      have N96 := Fr.app N95 N96q
      refine own_to (mkF m 178 #[iv p0, iv p1, iv ia, iv ib, iv ic, iv 0, rv aA, iv 1, rv b90, rv b90, iv 1] [(.int (1 : Int32))]) st96 ?_
      exact own_retN X96 hx (t := .boolean) Bd.returns (by simp) hlk (hb hby at_178) (by decide) (by decide) (by rw [e96]; exact ⟨rfl, N96⟩)
    · subst q
      refine own_to (T' := T83) (mkF m 36 #[iv p0, iv p1, iv ia, iv ib, iv ic, iv 0, rv aA, iv 2, .unset, .unset, .unset] [(.int (2 : Int32))]) (fun _ k => XS.iload X83.here hx rfl (hb hby at_34) rfl k) ?_
      refine own_to (T' := T83) (mkF m 45 #[iv p0, iv p1, iv ia, iv ib, iv ic, iv 0, rv aA, iv 2, .unset, .unset, .unset] []) (fun _ k => XS.ifYes X83.here hx rfl (pc0 := 36) (pc' := 45) rfl (hb hby at_36) rfl ((if0 _ _).trans (feq (by decide : ¬ ((2 : Int32) = (0 : Int32)))).2) (by decide) (by decide) k) ?_
      refine own_to (T' := T83) (mkF m 47 #[iv p0, iv p1, iv ia, iv ib, iv ic, iv 0, rv aA, iv 2, .unset, .unset, .unset] [(.int (2 : Int32))]) (fun _ k => XS.iload X83.here hx rfl (hb hby at_45) rfl k) ?_
      refine own_to (T' := T83) (mkF m 48 #[iv p0, iv p1, iv ia, iv ib, iv ic, iv 0, rv aA, iv 2, .unset, .unset, .unset] [(.int (1 : Int32)), (.int (2 : Int32))]) (fun _ k => XS.iconst X83.here hx rfl (hb hby at_47) k) ?_
      refine own_to (T' := T83) (mkF m 61 #[iv p0, iv p1, iv ia, iv ib, iv ic, iv 0, rv aA, iv 2, .unset, .unset, .unset] []) (fun _ k => XS.icmpYes X83.here hx rfl (pc0 := 48) (pc' := 61) rfl (hb hby at_48) rfl (feq (by decide : ¬ ((2 : Int32) = (1 : Int32)))).2 (by decide) (by decide) k) ?_
      refine own_to (T' := T83) (mkF m 63 #[iv p0, iv p1, iv ia, iv ib, iv ic, iv 0, rv aA, iv 2, .unset, .unset, .unset] [(.int (2 : Int32))]) (fun _ k => XS.iload X83.here hx rfl (hb hby at_61) rfl k) ?_
      refine own_to (T' := T83) (mkF m 64 #[iv p0, iv p1, iv ia, iv ib, iv ic, iv 0, rv aA, iv 2, .unset, .unset, .unset] [(.int (2 : Int32)), (.int (2 : Int32))]) (fun _ k => XS.iconst X83.here hx rfl (hb hby at_63) k) ?_
      refine own_to (T' := T83) (mkF m 67 #[iv p0, iv p1, iv ia, iv ib, iv ic, iv 0, rv aA, iv 2, .unset, .unset, .unset] []) (fun _ k => XS.icmpNo X83.here hx rfl (hb hby at_64) rfl (teq (by decide : (2 : Int32) = (2 : Int32))).2 k) ?_
      refine own_to (T' := T83) (mkF m 68 #[iv p0, iv p1, iv ia, iv ib, iv ic, iv 0, rv aA, iv 2, .unset, .unset, .unset] [(.int (2 : Int32))]) (fun _ k => XS.iconst X83.here hx rfl (hb hby at_67) k) ?_
      obtain ⟨T97, h97, k97, X97, e97, E97, A97, B97, st97⟩ := newPE X83 hx hZ (hw _ (List.mem_of_getElem? (i := 3) rfl)) e83 (g := (mkF m 68 #[iv p0, iv p1, iv ia, iv ib, iv ic, iv 0, rv aA, iv 2, .unset, .unset, .unset] [(.int (2 : Int32))])) rfl (hb hby at_68) rfl (by decide) (cap := 2) (by decide) (by decide) (by decide) (by decide) (ad := "[I") (by decide)
      obtain ⟨b97, g97⟩ : ∃ z, z = h0.size := ⟨_, rfl⟩
      rw [← g97] at A97 B97 st97
      have sz_b97 : h0.size ≤ b97 := Nat.le_trans KP.1 (Nat.le_of_eq g97.symm)
      have ge_b97 : n0 ≤ b97 := Nat.le_trans Z0 sz_b97
      have OL := OL.ext E97
      have KP := KP.ext E97
      have E_b97 : Exa Z h97 b97 "[I" := B97
      have V_b97 : Arv Z h97 b97 k97 .int (2 : Int32) [(.int (0 : Int32)), (.int (0 : Int32))] (.int (0 : Int32)) := (Arv.new A97 (by decide)).pad (pad_rep [] (.int (0 : Int32)) 2)
      refine own_to (mkF m 70 #[iv p0, iv p1, iv ia, iv ib, iv ic, iv 0, rv aA, iv 2, .unset, .unset, .unset] [(.ref b97)]) st97 ?_
      refine own_to (T' := T97) (mkF m 71 #[iv p0, iv p1, iv ia, iv ib, iv ic, iv 0, rv aA, iv 2, .unset, .unset, .unset] [(.ref b97), (.ref b97)]) (fun _ k => XS.dup X97.here hx rfl (hb hby at_70) rfl rfl k) ?_
      refine own_to (T' := T97) (mkF m 72 #[iv p0, iv p1, iv ia, iv ib, iv ic, iv 0, rv aA, iv 2, .unset, .unset, .unset] [(.int (0 : Int32)), (.ref b97), (.ref b97)]) (fun _ k => XS.iconst X97.here hx rfl (hb hby at_71) k) ?_
      refine own_to (T' := T97) (mkF m 73 #[iv p0, iv p1, iv ia, iv ib, iv ic, iv 0, rv aA, iv 2, .unset, .unset, .unset] [(.int ia), (.int (0 : Int32)), (.ref b97), (.ref b97)]) (fun _ k => XS.iloadN X97.here hx rfl (hb hby at_72) rfl k) ?_
      obtain ⟨cl98, Ar98, q98, S98, M98, H98, G98⟩ := id V_b97
      obtain ⟨T98, h98, X98, e98, W98, st98⟩ := stI X97 hx hZ e97 Ar98 (j := (0 : Int32)) (inb_of S98 ⟨by decide, by decide⟩) (g := (mkF m 73 #[iv p0, iv p1, iv ia, iv ib, iv ic, iv 0, rv aA, iv 2, .unset, .unset, .unset] [(.int ia), (.int (0 : Int32)), (.ref b97), (.ref b97)])) rfl rfl (hb hby at_73)
      refine own_to (mkF m 74 #[iv p0, iv p1, iv ia, iv ib, iv ic, iv 0, rv aA, iv 2, .unset, .unset, .unset] [(.ref b97)]) st98 ?_
      have N98 := Fr.snoc X98 N0 ge_b97
      have tmp98 : Arv Z h98 b97 k97 .int (2 : Int32) [(.int ia), (.int (0 : Int32))] (.int (0 : Int32)) := Arv.set Ar98 q98 S98 M98 H98 G98 rfl W98 0 rfl (Nat.le_of_ble_eq_true rfl)
      have OL := OL.wr W98 ge_b97
      have KP := KP.wr W98 (Or.inr sz_b97)
      have E_b97 := E_b97.wr W98
      have V_b97 := tmp98
      refine own_to (T' := T98) (mkF m 75 #[iv p0, iv p1, iv ia, iv ib, iv ic, iv 0, rv aA, iv 2, .unset, .unset, .unset] [(.ref b97), (.ref b97)]) (fun _ k => XS.dup X98.here hx rfl (hb hby at_74) rfl rfl k) ?_
      refine own_to (T' := T98) (mkF m 76 #[iv p0, iv p1, iv ia, iv ib, iv ic, iv 0, rv aA, iv 2, .unset, .unset, .unset] [(.int (1 : Int32)), (.ref b97), (.ref b97)]) (fun _ k => XS.iconst X98.here hx rfl (hb hby at_75) k) ?_
      refine own_to (T' := T98) (mkF m 77 #[iv p0, iv p1, iv ia, iv ib, iv ic, iv 0, rv aA, iv 2, .unset, .unset, .unset] [(.int ib), (.int (1 : Int32)), (.ref b97), (.ref b97)]) (fun _ k => XS.iloadN X98.here hx rfl (hb hby at_76) rfl k) ?_
      obtain ⟨cl99, Ar99, q99, S99, M99, H99, G99⟩ := id V_b97
      obtain ⟨T99, h99, X99, e99, W99, st99⟩ := stI X98 hx hZ e98 Ar99 (j := (1 : Int32)) (inb_of S99 ⟨by decide, by decide⟩) (g := (mkF m 77 #[iv p0, iv p1, iv ia, iv ib, iv ic, iv 0, rv aA, iv 2, .unset, .unset, .unset] [(.int ib), (.int (1 : Int32)), (.ref b97), (.ref b97)])) rfl rfl (hb hby at_77)
      refine own_to (mkF m 78 #[iv p0, iv p1, iv ia, iv ib, iv ic, iv 0, rv aA, iv 2, .unset, .unset, .unset] [(.ref b97)]) st99 ?_
      have N99 := Fr.snoc X99 N98 ge_b97
      have tmp99 : Arv Z h99 b97 k97 .int (2 : Int32) [(.int ia), (.int ib)] (.int (0 : Int32)) := Arv.set Ar99 q99 S99 M99 H99 G99 rfl W99 1 rfl (Nat.le_of_ble_eq_true rfl)
      have OL := OL.wr W99 ge_b97
      have KP := KP.wr W99 (Or.inr sz_b97)
      have E_b97 := E_b97.wr W99
      have V_b97 := tmp99
      refine own_to (T' := T99) (mkF m 97 #[iv p0, iv p1, iv ia, iv ib, iv ic, iv 0, rv aA, iv 2, .unset, .unset, .unset] [(.ref b97)]) (fun _ k => XS.goto X99.here hx rfl (pc0 := 78) (pc' := 97) rfl (hb hby at_78) (by decide) (by decide) k) ?_
      refine own_to (T' := T99) (mkF m 99 #[iv p0, iv p1, iv ia, iv ib, iv ic, iv 0, rv aA, iv 2, rv b97, .unset, .unset] []) (fun _ k => XS.astore X99.here hx rfl (hb hby at_97) rfl rfl (l' := #[iv p0, iv p1, iv ia, iv ib, iv ic, iv 0, rv aA, iv 2, rv b97, .unset, .unset]) rfl k) ?_
      refine own_to (T' := T99) (mkF m 101 #[iv p0, iv p1, iv ia, iv ib, iv ic, iv 0, rv aA, iv 2, rv b97, .unset, .unset] [(.ref aA)]) (fun _ k => XS.aload X99.here hx rfl (hb hby at_99) rfl rfl k) ?_
      refine own_to (T' := T99) (mkF m 103 #[iv p0, iv p1, iv ia, iv ib, iv ic, iv 0, rv aA, iv 2, rv b97, .unset, .unset] [(.ref b97), (.ref aA)]) (fun _ k => XS.aload X99.here hx rfl (hb hby at_101) rfl rfl k) ?_
      have EE : Exa Z h99 aA "com/example/steady_expansion/steadyexpansion/WordNet$Senses" := EA.ext OL.2
      obtain ⟨cq100, kq100, q100a, q100b, q100c⟩ := isOf hZ e99 EE
      obtain ⟨_, _, ⟨T100, L100, k100, n100⟩, -, X100, ⟨Lc100, hQ100, l100, y100, z100⟩, st100⟩ := X99.virtualBack hx (y := (⟨"com/example/steady_expansion/steadyexpansion/WordNet$Senses", "offsets", "([I)[I"⟩ : MethodName)) (z := (⟨"com/example/steady_expansion/steadyexpansion/WordNet$Senses", "offsets", "([I)[I"⟩ : MethodName)) hown (mvT hZ (hw _ (List.mem_of_getElem? (i := 4) rfl))) (mvT hZ (hw _ (List.mem_of_getElem? (i := 5) rfl))) (notFace_of_selects (args := #[]) (mvT hZ (hw _ (List.mem_of_getElem? (i := 7) rfl)))) (mvT hZ (hw _ (List.mem_of_getElem? (i := 7) rfl))) (mvT hZ (hw _ (List.mem_of_getElem? (i := 6) rfl))) (by decide) (backOf (W := 0) (own_rm3A l Z a0 hw [] aF aA b97 h99 n0 (Nat.le_trans Z0 KP.1) OL SF ne_aA_aF) hZ (hw _ (List.mem_of_getElem? (i := 8) rfl)) (hw _ (List.mem_of_getElem? (i := 1) rfl)) (by decide) (by decide)) q100a q100c (g := (mkF m 103 #[iv p0, iv p1, iv ia, iv ib, iv ic, iv 0, rv aA, iv 2, rv b97, .unset, .unset] [(.ref b97), (.ref aA)])) rfl (by rw [hml]; rfl) (Steps.refl _) (argsL := [(.ref b97)]) (rest := []) (lenOf own_pd2 rfl) rfl (by show 2 * 0 + _ ≤ _; exact Nat.le_of_eq rfl) (hb hby at_103) (fun _ _ => ⟨rfl, e99, (by decide : 1 + 0 ≤ _), (by decide : 2 + 0 ≤ _)⟩)
      dsimp only [Pt.U, Pt.locs, Pt.cells, Pt.slots] at X100 l100 y100 z100 st100 hQ100
      subst l100 y100 z100
      obtain ⟨rfl, N100q, e100⟩ := hQ100
      have N100 := Fr.app N99 N100q
      refine own_via (mkF m 106 #[iv p0, iv p1, iv ia, iv ib, iv ic, iv 0, rv aA, iv 2, rv b97, .unset, .unset] [(.ref b97)]) st100 ?_
      refine own_to (T' := T100) (mkF m 108 #[iv p0, iv p1, iv ia, iv ib, iv ic, iv 0, rv aA, iv 2, rv b97, rv b97, .unset] []) (fun _ k => XS.astore X100.here hx rfl (hb hby at_106) rfl rfl (l' := #[iv p0, iv p1, iv ia, iv ib, iv ic, iv 0, rv aA, iv 2, rv b97, rv b97, .unset]) rfl k) ?_
      refine own_to (T' := T100) (mkF m 110 #[iv p0, iv p1, iv ia, iv ib, iv ic, iv 0, rv aA, iv 2, rv b97, rv b97, .unset] [(.ref b97)]) (fun _ k => XS.aload X100.here hx rfl (hb hby at_108) rfl rfl k) ?_
      refine own_to (T' := T100) (mkF m 115 #[iv p0, iv p1, iv ia, iv ib, iv ic, iv 0, rv aA, iv 2, rv b97, rv b97, .unset] []) (fun _ k => XS.ifnonnullYes X100.here hx rfl (pc0 := 110) (pc' := 115) rfl (hb hby at_110) rfl (by decide) (by decide) k) ?_
      refine own_to (T' := T100) (mkF m 117 #[iv p0, iv p1, iv ia, iv ib, iv ic, iv 0, rv aA, iv 2, rv b97, rv b97, .unset] [(.int (0 : Int32))]) (fun _ k => XS.iload X100.here hx rfl (hb hby at_115) rfl k) ?_
      refine own_to (T' := T100) (mkF m 133 #[iv p0, iv p1, iv ia, iv ib, iv ic, iv 0, rv aA, iv 2, rv b97, rv b97, .unset] []) (fun _ k => XS.ifYes X100.here hx rfl (pc0 := 117) (pc' := 133) rfl (hb hby at_117) rfl ((if0 _ _).trans (teq (by decide : (0 : Int32) = (0 : Int32))).1) (by decide) (by decide) k) ?_
      refine own_to (T' := T100) (mkF m 135 #[iv p0, iv p1, iv ia, iv ib, iv ic, iv 0, rv aA, iv 2, rv b97, rv b97, .unset] [(.int (2 : Int32))]) (fun _ k => XS.iload X100.here hx rfl (hb hby at_133) rfl k) ?_
      refine own_to (T' := T100) (mkF m 137 #[iv p0, iv p1, iv ia, iv ib, iv ic, iv 0, rv aA, iv 2, rv b97, rv b97, iv 2] []) (fun _ k => XS.istore X100.here hx rfl (hb hby at_135) rfl (l' := #[iv p0, iv p1, iv ia, iv ib, iv ic, iv 0, rv aA, iv 2, rv b97, rv b97, iv 2]) rfl k) ?_
      refine own_to (T' := T100) (mkF m 139 #[iv p0, iv p1, iv ia, iv ib, iv ic, iv 0, rv aA, iv 2, rv b97, rv b97, iv 2] [(.ref b97)]) (fun _ k => XS.aload X100.here hx rfl (hb hby at_137) rfl rfl k) ?_
      obtain ⟨cl101, Ar101, -, S101, M101, -, -⟩ := id V_b97
      refine own_to (mkF m 140 #[iv p0, iv p1, iv ia, iv ib, iv ic, iv 0, rv aA, iv 2, rv b97, rv b97, iv 2] [(.int (2 : Int32))]) (by have q := X100.arraylength hx (by rw [e100]; exact Ar101.1) (State.isArrayOf_alike hZ.alike Ar101.2.1) (g := (mkF m 139 #[iv p0, iv p1, iv ia, iv ib, iv ic, iv 0, rv aA, iv 2, rv b97, rv b97, iv 2] [(.ref b97)])) rfl rfl (hb hby at_139); rw [len_of S101 M101] at q; exact q) ?_
      refine own_to (T' := T100) (mkF m 142 #[iv p0, iv p1, iv ia, iv ib, iv ic, iv 0, rv aA, iv 2, rv b97, rv b97, iv 2] [(.int (2 : Int32)), (.int (2 : Int32))]) (fun _ k => XS.iload X100.here hx rfl (hb hby at_140) rfl k) ?_
      refine own_to (T' := T100) (mkF m 147 #[iv p0, iv p1, iv ia, iv ib, iv ic, iv 0, rv aA, iv 2, rv b97, rv b97, iv 2] []) (fun _ k => XS.icmpYes X100.here hx rfl (pc0 := 142) (pc' := 147) rfl (hb hby at_142) rfl (teq (by decide : (2 : Int32) = (2 : Int32))).1 (by decide) (by decide) k) ?_
      refine own_to (T' := T100) (mkF m 149 #[iv p0, iv p1, iv ia, iv ib, iv ic, iv 0, rv aA, iv 2, rv b97, rv b97, iv 2] [(.ref b97)]) (fun _ k => XS.aload X100.here hx rfl (hb hby at_147) rfl rfl k) ?_
      obtain ⟨cl102, Ar102, -, S102, M102, -, -⟩ := id V_b97
      refine own_to (mkF m 150 #[iv p0, iv p1, iv ia, iv ib, iv ic, iv 0, rv aA, iv 2, rv b97, rv b97, iv 2] [(.int (2 : Int32))]) (by have q := X100.arraylength hx (by rw [e100]; exact Ar102.1) (State.isArrayOf_alike hZ.alike Ar102.2.1) (g := (mkF m 149 #[iv p0, iv p1, iv ia, iv ib, iv ic, iv 0, rv aA, iv 2, rv b97, rv b97, iv 2] [(.ref b97)])) rfl rfl (hb hby at_149); rw [len_of S102 M102] at q; exact q) ?_
      refine own_to (T' := T100) (mkF m 152 #[iv p0, iv p1, iv ia, iv ib, iv ic, iv 0, rv aA, iv 2, rv b97, rv b97, iv 2] [(.int (2 : Int32)), (.int (2 : Int32))]) (fun _ k => XS.iload X100.here hx rfl (hb hby at_150) rfl k) ?_
      refine own_to (T' := T100) (mkF m 155 #[iv p0, iv p1, iv ia, iv ib, iv ic, iv 0, rv aA, iv 2, rv b97, rv b97, iv 2] []) (fun _ k => XS.icmpNo X100.here hx rfl (hb hby at_152) rfl (teq (by decide : (2 : Int32) = (2 : Int32))).2 k) ?_
      refine own_to (T' := T100) (mkF m 157 #[iv p0, iv p1, iv ia, iv ib, iv ic, iv 0, rv aA, iv 2, rv b97, rv b97, iv 2] [(.ref b97)]) (fun _ k => XS.aload X100.here hx rfl (hb hby at_155) rfl rfl k) ?_
      refine own_to (T' := T100) (mkF m 158 #[iv p0, iv p1, iv ia, iv ib, iv ic, iv 0, rv aA, iv 2, rv b97, rv b97, iv 2] [(.int ia), (.ref b97)]) (fun _ k => XS.iloadN X100.here hx rfl (hb hby at_157) rfl k) ?_
      refine own_to (T' := T100) (mkF m 159 #[iv p0, iv p1, iv ia, iv ib, iv ic, iv 0, rv aA, iv 2, rv b97, rv b97, iv 2] [(.int ib), (.int ia), (.ref b97)]) (fun _ k => XS.iloadN X100.here hx rfl (hb hby at_158) rfl k) ?_
      refine own_to (T' := T100) (mkF m 161 #[iv p0, iv p1, iv ia, iv ib, iv ic, iv 0, rv aA, iv 2, rv b97, rv b97, iv 2] [(.int ic), (.int ib), (.int ia), (.ref b97)]) (fun _ k => XS.iload X100.here hx rfl (hb hby at_159) rfl k) ?_
      obtain ⟨_, _, ⟨T103, L103, k103, n103⟩, -, X103, ⟨Lc103, hQ103, l103, y103, z103⟩, st103⟩ := Jvm.LawKit.callS X100 hx (y := (⟨"com/example/steady_expansion/steadyexpansion/SensesOffsetsPinLaw", "prefixMatches", "([IIII)Z"⟩ : MethodName)) hown (mvT hZ (hw _ (List.mem_of_getElem? (i := 11) rfl))) (mvT hZ (hw _ (List.mem_of_getElem? (i := 12) rfl))) (mvT hZ (hw _ (List.mem_of_getElem? (i := 13) rfl))) (mvT hZ (hw _ (List.mem_of_getElem? (i := 14) rfl))) (by decide) (backOf (W := 0) (own_rm4_2 l Z a0 hw [] ia ib ic b97 k97 h99 n0 (Nat.le_trans Z0 KP.1) OL V_b97) hZ (hw _ (List.mem_of_getElem? (i := 14) rfl)) (hw _ (List.mem_of_getElem? (i := 13) rfl)) (by decide) (by decide)) (g := (mkF m 161 #[iv p0, iv p1, iv ia, iv ib, iv ic, iv 0, rv aA, iv 2, rv b97, rv b97, iv 2] [(.int ic), (.int ib), (.int ia), (.ref b97)])) rfl (by rw [hml]; rfl) (argsL := [(.ref b97), (.int ia), (.int ib), (.int ic)]) (rest := []) (lenOf own_pd3 rfl) rfl (by show 2 * 0 + _ ≤ _; exact Nat.le_of_eq rfl) (hb hby at_161) (fun _ _ => ⟨rfl, e100, (by decide : 1 + 0 ≤ _), (by decide : 2 + 0 ≤ _)⟩)
      dsimp only [Pt.U, Pt.locs, Pt.cells, Pt.slots] at X103 l103 y103 z103 st103 hQ103
      subst l103 y103 z103
      obtain ⟨rfl, N103q, e103⟩ := hQ103
      have N103 := Fr.app N100 N103q
      refine own_to (mkF m 164 #[iv p0, iv p1, iv ia, iv ib, iv ic, iv 0, rv aA, iv 2, rv b97, rv b97, iv 2] [(.int (1 : Int32))]) st103 ?_
      refine own_to (T' := T103) (mkF m 169 #[iv p0, iv p1, iv ia, iv ib, iv ic, iv 0, rv aA, iv 2, rv b97, rv b97, iv 2] []) (fun _ k => XS.ifYes X103.here hx rfl (pc0 := 164) (pc' := 169) rfl (hb hby at_164) rfl ((if0 _ _).trans (feq (by decide : ¬ ((1 : Int32) = (0 : Int32)))).2) (by decide) (by decide) k) ?_
      refine own_to (T' := T103) (mkF m 171 #[iv p0, iv p1, iv ia, iv ib, iv ic, iv 0, rv aA, iv 2, rv b97, rv b97, iv 2] [(.ref b97)]) (fun _ k => XS.aload X103.here hx rfl (hb hby at_169) rfl rfl k) ?_
      refine own_to (T' := T103) (mkF m 172 #[iv p0, iv p1, iv ia, iv ib, iv ic, iv 0, rv aA, iv 2, rv b97, rv b97, iv 2] [(.int ia), (.ref b97)]) (fun _ k => XS.iloadN X103.here hx rfl (hb hby at_171) rfl k) ?_
      refine own_to (T' := T103) (mkF m 173 #[iv p0, iv p1, iv ia, iv ib, iv ic, iv 0, rv aA, iv 2, rv b97, rv b97, iv 2] [(.int ib), (.int ia), (.ref b97)]) (fun _ k => XS.iloadN X103.here hx rfl (hb hby at_172) rfl k) ?_
      refine own_to (T' := T103) (mkF m 175 #[iv p0, iv p1, iv ia, iv ib, iv ic, iv 0, rv aA, iv 2, rv b97, rv b97, iv 2] [(.int ic), (.int ib), (.int ia), (.ref b97)]) (fun _ k => XS.iload X103.here hx rfl (hb hby at_173) rfl k) ?_
      obtain ⟨_, _, ⟨T104, L104, k104, n104⟩, -, X104, ⟨Lc104, hQ104, l104, y104, z104⟩, st104⟩ := Jvm.LawKit.callS X103 hx (y := (⟨"com/example/steady_expansion/steadyexpansion/SensesOffsetsPinLaw", "prefixMatches", "([IIII)Z"⟩ : MethodName)) hown (mvT hZ (hw _ (List.mem_of_getElem? (i := 11) rfl))) (mvT hZ (hw _ (List.mem_of_getElem? (i := 12) rfl))) (mvT hZ (hw _ (List.mem_of_getElem? (i := 13) rfl))) (mvT hZ (hw _ (List.mem_of_getElem? (i := 14) rfl))) (by decide) (backOf (W := 0) (own_rm4_2 l Z a0 hw [] ia ib ic b97 k97 h99 n0 (Nat.le_trans Z0 KP.1) OL V_b97) hZ (hw _ (List.mem_of_getElem? (i := 14) rfl)) (hw _ (List.mem_of_getElem? (i := 13) rfl)) (by decide) (by decide)) (g := (mkF m 175 #[iv p0, iv p1, iv ia, iv ib, iv ic, iv 0, rv aA, iv 2, rv b97, rv b97, iv 2] [(.int ic), (.int ib), (.int ia), (.ref b97)])) rfl (by rw [hml]; rfl) (argsL := [(.ref b97), (.int ia), (.int ib), (.int ic)]) (rest := []) (lenOf own_pd3 rfl) rfl (by show 2 * 0 + _ ≤ _; exact Nat.le_of_eq rfl) (hb hby at_175) (fun _ _ => ⟨rfl, e103, (by decide : 1 + 0 ≤ _), (by decide : 2 + 0 ≤ _)⟩)
      dsimp only [Pt.U, Pt.locs, Pt.cells, Pt.slots] at X104 l104 y104 z104 st104 hQ104
      subst l104 y104 z104
      obtain ⟨rfl, N104q, e104⟩ := hQ104
      have N104 := Fr.app N103 N104q
      refine own_to (mkF m 178 #[iv p0, iv p1, iv ia, iv ib, iv ic, iv 0, rv aA, iv 2, rv b97, rv b97, iv 2] [(.int (1 : Int32))]) st104 ?_
      exact own_retN X104 hx (t := .boolean) Bd.returns (by simp) hlk (hb hby at_178) (by decide) (by decide) (by rw [e104]; exact ⟨rfl, N104⟩)
    · subst q
      refine own_to (T' := T83) (mkF m 36 #[iv p0, iv p1, iv ia, iv ib, iv ic, iv 0, rv aA, iv 3, .unset, .unset, .unset] [(.int (3 : Int32))]) (fun _ k => XS.iload X83.here hx rfl (hb hby at_34) rfl k) ?_
      refine own_to (T' := T83) (mkF m 45 #[iv p0, iv p1, iv ia, iv ib, iv ic, iv 0, rv aA, iv 3, .unset, .unset, .unset] []) (fun _ k => XS.ifYes X83.here hx rfl (pc0 := 36) (pc' := 45) rfl (hb hby at_36) rfl ((if0 _ _).trans (feq (by decide : ¬ ((3 : Int32) = (0 : Int32)))).2) (by decide) (by decide) k) ?_
      refine own_to (T' := T83) (mkF m 47 #[iv p0, iv p1, iv ia, iv ib, iv ic, iv 0, rv aA, iv 3, .unset, .unset, .unset] [(.int (3 : Int32))]) (fun _ k => XS.iload X83.here hx rfl (hb hby at_45) rfl k) ?_
      refine own_to (T' := T83) (mkF m 48 #[iv p0, iv p1, iv ia, iv ib, iv ic, iv 0, rv aA, iv 3, .unset, .unset, .unset] [(.int (1 : Int32)), (.int (3 : Int32))]) (fun _ k => XS.iconst X83.here hx rfl (hb hby at_47) k) ?_
      refine own_to (T' := T83) (mkF m 61 #[iv p0, iv p1, iv ia, iv ib, iv ic, iv 0, rv aA, iv 3, .unset, .unset, .unset] []) (fun _ k => XS.icmpYes X83.here hx rfl (pc0 := 48) (pc' := 61) rfl (hb hby at_48) rfl (feq (by decide : ¬ ((3 : Int32) = (1 : Int32)))).2 (by decide) (by decide) k) ?_
      refine own_to (T' := T83) (mkF m 63 #[iv p0, iv p1, iv ia, iv ib, iv ic, iv 0, rv aA, iv 3, .unset, .unset, .unset] [(.int (3 : Int32))]) (fun _ k => XS.iload X83.here hx rfl (hb hby at_61) rfl k) ?_
      refine own_to (T' := T83) (mkF m 64 #[iv p0, iv p1, iv ia, iv ib, iv ic, iv 0, rv aA, iv 3, .unset, .unset, .unset] [(.int (2 : Int32)), (.int (3 : Int32))]) (fun _ k => XS.iconst X83.here hx rfl (hb hby at_63) k) ?_
      refine own_to (T' := T83) (mkF m 81 #[iv p0, iv p1, iv ia, iv ib, iv ic, iv 0, rv aA, iv 3, .unset, .unset, .unset] []) (fun _ k => XS.icmpYes X83.here hx rfl (pc0 := 64) (pc' := 81) rfl (hb hby at_64) rfl (feq (by decide : ¬ ((3 : Int32) = (2 : Int32)))).2 (by decide) (by decide) k) ?_
      refine own_to (T' := T83) (mkF m 82 #[iv p0, iv p1, iv ia, iv ib, iv ic, iv 0, rv aA, iv 3, .unset, .unset, .unset] [(.int (3 : Int32))]) (fun _ k => XS.iconst X83.here hx rfl (hb hby at_81) k) ?_
      obtain ⟨T105, h105, k105, X105, e105, E105, A105, B105, st105⟩ := newPE X83 hx hZ (hw _ (List.mem_of_getElem? (i := 3) rfl)) e83 (g := (mkF m 82 #[iv p0, iv p1, iv ia, iv ib, iv ic, iv 0, rv aA, iv 3, .unset, .unset, .unset] [(.int (3 : Int32))])) rfl (hb hby at_82) rfl (by decide) (cap := 3) (by decide) (by decide) (by decide) (by decide) (ad := "[I") (by decide)
      obtain ⟨b105, g105⟩ : ∃ z, z = h0.size := ⟨_, rfl⟩
      rw [← g105] at A105 B105 st105
      have sz_b105 : h0.size ≤ b105 := Nat.le_trans KP.1 (Nat.le_of_eq g105.symm)
      have ge_b105 : n0 ≤ b105 := Nat.le_trans Z0 sz_b105
      have OL := OL.ext E105
      have KP := KP.ext E105
      have E_b105 : Exa Z h105 b105 "[I" := B105
      have V_b105 : Arv Z h105 b105 k105 .int (3 : Int32) [(.int (0 : Int32)), (.int (0 : Int32)), (.int (0 : Int32))] (.int (0 : Int32)) := (Arv.new A105 (by decide)).pad (pad_rep [] (.int (0 : Int32)) 3)
      refine own_to (mkF m 84 #[iv p0, iv p1, iv ia, iv ib, iv ic, iv 0, rv aA, iv 3, .unset, .unset, .unset] [(.ref b105)]) st105 ?_
      refine own_to (T' := T105) (mkF m 85 #[iv p0, iv p1, iv ia, iv ib, iv ic, iv 0, rv aA, iv 3, .unset, .unset, .unset] [(.ref b105), (.ref b105)]) (fun _ k => XS.dup X105.here hx rfl (hb hby at_84) rfl rfl k) ?_
      refine own_to (T' := T105) (mkF m 86 #[iv p0, iv p1, iv ia, iv ib, iv ic, iv 0, rv aA, iv 3, .unset, .unset, .unset] [(.int (0 : Int32)), (.ref b105), (.ref b105)]) (fun _ k => XS.iconst X105.here hx rfl (hb hby at_85) k) ?_
      refine own_to (T' := T105) (mkF m 87 #[iv p0, iv p1, iv ia, iv ib, iv ic, iv 0, rv aA, iv 3, .unset, .unset, .unset] [(.int ia), (.int (0 : Int32)), (.ref b105), (.ref b105)]) (fun _ k => XS.iloadN X105.here hx rfl (hb hby at_86) rfl k) ?_
      obtain ⟨cl106, Ar106, q106, S106, M106, H106, G106⟩ := id V_b105
      obtain ⟨T106, h106, X106, e106, W106, st106⟩ := stI X105 hx hZ e105 Ar106 (j := (0 : Int32)) (inb_of S106 ⟨by decide, by decide⟩) (g := (mkF m 87 #[iv p0, iv p1, iv ia, iv ib, iv ic, iv 0, rv aA, iv 3, .unset, .unset, .unset] [(.int ia), (.int (0 : Int32)), (.ref b105), (.ref b105)])) rfl rfl (hb hby at_87)
      refine own_to (mkF m 88 #[iv p0, iv p1, iv ia, iv ib, iv ic, iv 0, rv aA, iv 3, .unset, .unset, .unset] [(.ref b105)]) st106 ?_
      have N106 := Fr.snoc X106 N0 ge_b105
      have tmp106 : Arv Z h106 b105 k105 .int (3 : Int32) [(.int ia), (.int (0 : Int32)), (.int (0 : Int32))] (.int (0 : Int32)) := Arv.set Ar106 q106 S106 M106 H106 G106 rfl W106 0 rfl (Nat.le_of_ble_eq_true rfl)
      have OL := OL.wr W106 ge_b105
      have KP := KP.wr W106 (Or.inr sz_b105)
      have E_b105 := E_b105.wr W106
      have V_b105 := tmp106
      refine own_to (T' := T106) (mkF m 89 #[iv p0, iv p1, iv ia, iv ib, iv ic, iv 0, rv aA, iv 3, .unset, .unset, .unset] [(.ref b105), (.ref b105)]) (fun _ k => XS.dup X106.here hx rfl (hb hby at_88) rfl rfl k) ?_
      refine own_to (T' := T106) (mkF m 90 #[iv p0, iv p1, iv ia, iv ib, iv ic, iv 0, rv aA, iv 3, .unset, .unset, .unset] [(.int (1 : Int32)), (.ref b105), (.ref b105)]) (fun _ k => XS.iconst X106.here hx rfl (hb hby at_89) k) ?_
      refine own_to (T' := T106) (mkF m 91 #[iv p0, iv p1, iv ia, iv ib, iv ic, iv 0, rv aA, iv 3, .unset, .unset, .unset] [(.int ib), (.int (1 : Int32)), (.ref b105), (.ref b105)]) (fun _ k => XS.iloadN X106.here hx rfl (hb hby at_90) rfl k) ?_
      obtain ⟨cl107, Ar107, q107, S107, M107, H107, G107⟩ := id V_b105
      obtain ⟨T107, h107, X107, e107, W107, st107⟩ := stI X106 hx hZ e106 Ar107 (j := (1 : Int32)) (inb_of S107 ⟨by decide, by decide⟩) (g := (mkF m 91 #[iv p0, iv p1, iv ia, iv ib, iv ic, iv 0, rv aA, iv 3, .unset, .unset, .unset] [(.int ib), (.int (1 : Int32)), (.ref b105), (.ref b105)])) rfl rfl (hb hby at_91)
      refine own_to (mkF m 92 #[iv p0, iv p1, iv ia, iv ib, iv ic, iv 0, rv aA, iv 3, .unset, .unset, .unset] [(.ref b105)]) st107 ?_
      have N107 := Fr.snoc X107 N106 ge_b105
      have tmp107 : Arv Z h107 b105 k105 .int (3 : Int32) [(.int ia), (.int ib), (.int (0 : Int32))] (.int (0 : Int32)) := Arv.set Ar107 q107 S107 M107 H107 G107 rfl W107 1 rfl (Nat.le_of_ble_eq_true rfl)
      have OL := OL.wr W107 ge_b105
      have KP := KP.wr W107 (Or.inr sz_b105)
      have E_b105 := E_b105.wr W107
      have V_b105 := tmp107
      refine own_to (T' := T107) (mkF m 93 #[iv p0, iv p1, iv ia, iv ib, iv ic, iv 0, rv aA, iv 3, .unset, .unset, .unset] [(.ref b105), (.ref b105)]) (fun _ k => XS.dup X107.here hx rfl (hb hby at_92) rfl rfl k) ?_
      refine own_to (T' := T107) (mkF m 94 #[iv p0, iv p1, iv ia, iv ib, iv ic, iv 0, rv aA, iv 3, .unset, .unset, .unset] [(.int (2 : Int32)), (.ref b105), (.ref b105)]) (fun _ k => XS.iconst X107.here hx rfl (hb hby at_93) k) ?_
      refine own_to (T' := T107) (mkF m 96 #[iv p0, iv p1, iv ia, iv ib, iv ic, iv 0, rv aA, iv 3, .unset, .unset, .unset] [(.int ic), (.int (2 : Int32)), (.ref b105), (.ref b105)]) (fun _ k => XS.iload X107.here hx rfl (hb hby at_94) rfl k) ?_
      obtain ⟨cl108, Ar108, q108, S108, M108, H108, G108⟩ := id V_b105
      obtain ⟨T108, h108, X108, e108, W108, st108⟩ := stI X107 hx hZ e107 Ar108 (j := (2 : Int32)) (inb_of S108 ⟨by decide, by decide⟩) (g := (mkF m 96 #[iv p0, iv p1, iv ia, iv ib, iv ic, iv 0, rv aA, iv 3, .unset, .unset, .unset] [(.int ic), (.int (2 : Int32)), (.ref b105), (.ref b105)])) rfl rfl (hb hby at_96)
      refine own_to (mkF m 97 #[iv p0, iv p1, iv ia, iv ib, iv ic, iv 0, rv aA, iv 3, .unset, .unset, .unset] [(.ref b105)]) st108 ?_
      have N108 := Fr.snoc X108 N107 ge_b105
      have tmp108 : Arv Z h108 b105 k105 .int (3 : Int32) [(.int ia), (.int ib), (.int ic)] (.int (0 : Int32)) := Arv.set Ar108 q108 S108 M108 H108 G108 rfl W108 2 rfl (Nat.le_of_ble_eq_true rfl)
      have OL := OL.wr W108 ge_b105
      have KP := KP.wr W108 (Or.inr sz_b105)
      have E_b105 := E_b105.wr W108
      have V_b105 := tmp108
      refine own_to (T' := T108) (mkF m 99 #[iv p0, iv p1, iv ia, iv ib, iv ic, iv 0, rv aA, iv 3, rv b105, .unset, .unset] []) (fun _ k => XS.astore X108.here hx rfl (hb hby at_97) rfl rfl (l' := #[iv p0, iv p1, iv ia, iv ib, iv ic, iv 0, rv aA, iv 3, rv b105, .unset, .unset]) rfl k) ?_
      refine own_to (T' := T108) (mkF m 101 #[iv p0, iv p1, iv ia, iv ib, iv ic, iv 0, rv aA, iv 3, rv b105, .unset, .unset] [(.ref aA)]) (fun _ k => XS.aload X108.here hx rfl (hb hby at_99) rfl rfl k) ?_
      refine own_to (T' := T108) (mkF m 103 #[iv p0, iv p1, iv ia, iv ib, iv ic, iv 0, rv aA, iv 3, rv b105, .unset, .unset] [(.ref b105), (.ref aA)]) (fun _ k => XS.aload X108.here hx rfl (hb hby at_101) rfl rfl k) ?_
      have EE : Exa Z h108 aA "com/example/steady_expansion/steadyexpansion/WordNet$Senses" := EA.ext OL.2
      obtain ⟨cq109, kq109, q109a, q109b, q109c⟩ := isOf hZ e108 EE
      obtain ⟨_, _, ⟨T109, L109, k109, n109⟩, -, X109, ⟨Lc109, hQ109, l109, y109, z109⟩, st109⟩ := X108.virtualBack hx (y := (⟨"com/example/steady_expansion/steadyexpansion/WordNet$Senses", "offsets", "([I)[I"⟩ : MethodName)) (z := (⟨"com/example/steady_expansion/steadyexpansion/WordNet$Senses", "offsets", "([I)[I"⟩ : MethodName)) hown (mvT hZ (hw _ (List.mem_of_getElem? (i := 4) rfl))) (mvT hZ (hw _ (List.mem_of_getElem? (i := 5) rfl))) (notFace_of_selects (args := #[]) (mvT hZ (hw _ (List.mem_of_getElem? (i := 7) rfl)))) (mvT hZ (hw _ (List.mem_of_getElem? (i := 7) rfl))) (mvT hZ (hw _ (List.mem_of_getElem? (i := 6) rfl))) (by decide) (backOf (W := 0) (own_rm3A l Z a0 hw [] aF aA b105 h108 n0 (Nat.le_trans Z0 KP.1) OL SF ne_aA_aF) hZ (hw _ (List.mem_of_getElem? (i := 8) rfl)) (hw _ (List.mem_of_getElem? (i := 1) rfl)) (by decide) (by decide)) q109a q109c (g := (mkF m 103 #[iv p0, iv p1, iv ia, iv ib, iv ic, iv 0, rv aA, iv 3, rv b105, .unset, .unset] [(.ref b105), (.ref aA)])) rfl (by rw [hml]; rfl) (Steps.refl _) (argsL := [(.ref b105)]) (rest := []) (lenOf own_pd2 rfl) rfl (by show 2 * 0 + _ ≤ _; exact Nat.le_of_eq rfl) (hb hby at_103) (fun _ _ => ⟨rfl, e108, (by decide : 1 + 0 ≤ _), (by decide : 3 + 0 ≤ _)⟩)
      dsimp only [Pt.U, Pt.locs, Pt.cells, Pt.slots] at X109 l109 y109 z109 st109 hQ109
      subst l109 y109 z109
      obtain ⟨rfl, N109q, e109⟩ := hQ109
      have N109 := Fr.app N108 N109q
      refine own_via (mkF m 106 #[iv p0, iv p1, iv ia, iv ib, iv ic, iv 0, rv aA, iv 3, rv b105, .unset, .unset] [(.ref b105)]) st109 ?_
      refine own_to (T' := T109) (mkF m 108 #[iv p0, iv p1, iv ia, iv ib, iv ic, iv 0, rv aA, iv 3, rv b105, rv b105, .unset] []) (fun _ k => XS.astore X109.here hx rfl (hb hby at_106) rfl rfl (l' := #[iv p0, iv p1, iv ia, iv ib, iv ic, iv 0, rv aA, iv 3, rv b105, rv b105, .unset]) rfl k) ?_
      refine own_to (T' := T109) (mkF m 110 #[iv p0, iv p1, iv ia, iv ib, iv ic, iv 0, rv aA, iv 3, rv b105, rv b105, .unset] [(.ref b105)]) (fun _ k => XS.aload X109.here hx rfl (hb hby at_108) rfl rfl k) ?_
      refine own_to (T' := T109) (mkF m 115 #[iv p0, iv p1, iv ia, iv ib, iv ic, iv 0, rv aA, iv 3, rv b105, rv b105, .unset] []) (fun _ k => XS.ifnonnullYes X109.here hx rfl (pc0 := 110) (pc' := 115) rfl (hb hby at_110) rfl (by decide) (by decide) k) ?_
      refine own_to (T' := T109) (mkF m 117 #[iv p0, iv p1, iv ia, iv ib, iv ic, iv 0, rv aA, iv 3, rv b105, rv b105, .unset] [(.int (0 : Int32))]) (fun _ k => XS.iload X109.here hx rfl (hb hby at_115) rfl k) ?_
      refine own_to (T' := T109) (mkF m 133 #[iv p0, iv p1, iv ia, iv ib, iv ic, iv 0, rv aA, iv 3, rv b105, rv b105, .unset] []) (fun _ k => XS.ifYes X109.here hx rfl (pc0 := 117) (pc' := 133) rfl (hb hby at_117) rfl ((if0 _ _).trans (teq (by decide : (0 : Int32) = (0 : Int32))).1) (by decide) (by decide) k) ?_
      refine own_to (T' := T109) (mkF m 135 #[iv p0, iv p1, iv ia, iv ib, iv ic, iv 0, rv aA, iv 3, rv b105, rv b105, .unset] [(.int (3 : Int32))]) (fun _ k => XS.iload X109.here hx rfl (hb hby at_133) rfl k) ?_
      refine own_to (T' := T109) (mkF m 137 #[iv p0, iv p1, iv ia, iv ib, iv ic, iv 0, rv aA, iv 3, rv b105, rv b105, iv 3] []) (fun _ k => XS.istore X109.here hx rfl (hb hby at_135) rfl (l' := #[iv p0, iv p1, iv ia, iv ib, iv ic, iv 0, rv aA, iv 3, rv b105, rv b105, iv 3]) rfl k) ?_
      refine own_to (T' := T109) (mkF m 139 #[iv p0, iv p1, iv ia, iv ib, iv ic, iv 0, rv aA, iv 3, rv b105, rv b105, iv 3] [(.ref b105)]) (fun _ k => XS.aload X109.here hx rfl (hb hby at_137) rfl rfl k) ?_
      obtain ⟨cl110, Ar110, -, S110, M110, -, -⟩ := id V_b105
      refine own_to (mkF m 140 #[iv p0, iv p1, iv ia, iv ib, iv ic, iv 0, rv aA, iv 3, rv b105, rv b105, iv 3] [(.int (3 : Int32))]) (by have q := X109.arraylength hx (by rw [e109]; exact Ar110.1) (State.isArrayOf_alike hZ.alike Ar110.2.1) (g := (mkF m 139 #[iv p0, iv p1, iv ia, iv ib, iv ic, iv 0, rv aA, iv 3, rv b105, rv b105, iv 3] [(.ref b105)])) rfl rfl (hb hby at_139); rw [len_of S110 M110] at q; exact q) ?_
      refine own_to (T' := T109) (mkF m 142 #[iv p0, iv p1, iv ia, iv ib, iv ic, iv 0, rv aA, iv 3, rv b105, rv b105, iv 3] [(.int (3 : Int32)), (.int (3 : Int32))]) (fun _ k => XS.iload X109.here hx rfl (hb hby at_140) rfl k) ?_
      refine own_to (T' := T109) (mkF m 147 #[iv p0, iv p1, iv ia, iv ib, iv ic, iv 0, rv aA, iv 3, rv b105, rv b105, iv 3] []) (fun _ k => XS.icmpYes X109.here hx rfl (pc0 := 142) (pc' := 147) rfl (hb hby at_142) rfl (teq (by decide : (3 : Int32) = (3 : Int32))).1 (by decide) (by decide) k) ?_
      refine own_to (T' := T109) (mkF m 149 #[iv p0, iv p1, iv ia, iv ib, iv ic, iv 0, rv aA, iv 3, rv b105, rv b105, iv 3] [(.ref b105)]) (fun _ k => XS.aload X109.here hx rfl (hb hby at_147) rfl rfl k) ?_
      obtain ⟨cl111, Ar111, -, S111, M111, -, -⟩ := id V_b105
      refine own_to (mkF m 150 #[iv p0, iv p1, iv ia, iv ib, iv ic, iv 0, rv aA, iv 3, rv b105, rv b105, iv 3] [(.int (3 : Int32))]) (by have q := X109.arraylength hx (by rw [e109]; exact Ar111.1) (State.isArrayOf_alike hZ.alike Ar111.2.1) (g := (mkF m 149 #[iv p0, iv p1, iv ia, iv ib, iv ic, iv 0, rv aA, iv 3, rv b105, rv b105, iv 3] [(.ref b105)])) rfl rfl (hb hby at_149); rw [len_of S111 M111] at q; exact q) ?_
      refine own_to (T' := T109) (mkF m 152 #[iv p0, iv p1, iv ia, iv ib, iv ic, iv 0, rv aA, iv 3, rv b105, rv b105, iv 3] [(.int (3 : Int32)), (.int (3 : Int32))]) (fun _ k => XS.iload X109.here hx rfl (hb hby at_150) rfl k) ?_
      refine own_to (T' := T109) (mkF m 155 #[iv p0, iv p1, iv ia, iv ib, iv ic, iv 0, rv aA, iv 3, rv b105, rv b105, iv 3] []) (fun _ k => XS.icmpNo X109.here hx rfl (hb hby at_152) rfl (teq (by decide : (3 : Int32) = (3 : Int32))).2 k) ?_
      refine own_to (T' := T109) (mkF m 157 #[iv p0, iv p1, iv ia, iv ib, iv ic, iv 0, rv aA, iv 3, rv b105, rv b105, iv 3] [(.ref b105)]) (fun _ k => XS.aload X109.here hx rfl (hb hby at_155) rfl rfl k) ?_
      refine own_to (T' := T109) (mkF m 158 #[iv p0, iv p1, iv ia, iv ib, iv ic, iv 0, rv aA, iv 3, rv b105, rv b105, iv 3] [(.int ia), (.ref b105)]) (fun _ k => XS.iloadN X109.here hx rfl (hb hby at_157) rfl k) ?_
      refine own_to (T' := T109) (mkF m 159 #[iv p0, iv p1, iv ia, iv ib, iv ic, iv 0, rv aA, iv 3, rv b105, rv b105, iv 3] [(.int ib), (.int ia), (.ref b105)]) (fun _ k => XS.iloadN X109.here hx rfl (hb hby at_158) rfl k) ?_
      refine own_to (T' := T109) (mkF m 161 #[iv p0, iv p1, iv ia, iv ib, iv ic, iv 0, rv aA, iv 3, rv b105, rv b105, iv 3] [(.int ic), (.int ib), (.int ia), (.ref b105)]) (fun _ k => XS.iload X109.here hx rfl (hb hby at_159) rfl k) ?_
      obtain ⟨_, _, ⟨T112, L112, k112, n112⟩, -, X112, ⟨Lc112, hQ112, l112, y112, z112⟩, st112⟩ := Jvm.LawKit.callS X109 hx (y := (⟨"com/example/steady_expansion/steadyexpansion/SensesOffsetsPinLaw", "prefixMatches", "([IIII)Z"⟩ : MethodName)) hown (mvT hZ (hw _ (List.mem_of_getElem? (i := 11) rfl))) (mvT hZ (hw _ (List.mem_of_getElem? (i := 12) rfl))) (mvT hZ (hw _ (List.mem_of_getElem? (i := 13) rfl))) (mvT hZ (hw _ (List.mem_of_getElem? (i := 14) rfl))) (by decide) (backOf (W := 0) (own_rm4_3 l Z a0 hw [] ia ib ic b105 k105 h108 n0 (Nat.le_trans Z0 KP.1) OL V_b105) hZ (hw _ (List.mem_of_getElem? (i := 14) rfl)) (hw _ (List.mem_of_getElem? (i := 13) rfl)) (by decide) (by decide)) (g := (mkF m 161 #[iv p0, iv p1, iv ia, iv ib, iv ic, iv 0, rv aA, iv 3, rv b105, rv b105, iv 3] [(.int ic), (.int ib), (.int ia), (.ref b105)])) rfl (by rw [hml]; rfl) (argsL := [(.ref b105), (.int ia), (.int ib), (.int ic)]) (rest := []) (lenOf own_pd3 rfl) rfl (by show 2 * 0 + _ ≤ _; exact Nat.le_of_eq rfl) (hb hby at_161) (fun _ _ => ⟨rfl, e109, (by decide : 1 + 0 ≤ _), (by decide : 3 + 0 ≤ _)⟩)
      dsimp only [Pt.U, Pt.locs, Pt.cells, Pt.slots] at X112 l112 y112 z112 st112 hQ112
      subst l112 y112 z112
      obtain ⟨rfl, N112q, e112⟩ := hQ112
      have N112 := Fr.app N109 N112q
      refine own_to (mkF m 164 #[iv p0, iv p1, iv ia, iv ib, iv ic, iv 0, rv aA, iv 3, rv b105, rv b105, iv 3] [(.int (1 : Int32))]) st112 ?_
      refine own_to (T' := T112) (mkF m 169 #[iv p0, iv p1, iv ia, iv ib, iv ic, iv 0, rv aA, iv 3, rv b105, rv b105, iv 3] []) (fun _ k => XS.ifYes X112.here hx rfl (pc0 := 164) (pc' := 169) rfl (hb hby at_164) rfl ((if0 _ _).trans (feq (by decide : ¬ ((1 : Int32) = (0 : Int32)))).2) (by decide) (by decide) k) ?_
      refine own_to (T' := T112) (mkF m 171 #[iv p0, iv p1, iv ia, iv ib, iv ic, iv 0, rv aA, iv 3, rv b105, rv b105, iv 3] [(.ref b105)]) (fun _ k => XS.aload X112.here hx rfl (hb hby at_169) rfl rfl k) ?_
      refine own_to (T' := T112) (mkF m 172 #[iv p0, iv p1, iv ia, iv ib, iv ic, iv 0, rv aA, iv 3, rv b105, rv b105, iv 3] [(.int ia), (.ref b105)]) (fun _ k => XS.iloadN X112.here hx rfl (hb hby at_171) rfl k) ?_
      refine own_to (T' := T112) (mkF m 173 #[iv p0, iv p1, iv ia, iv ib, iv ic, iv 0, rv aA, iv 3, rv b105, rv b105, iv 3] [(.int ib), (.int ia), (.ref b105)]) (fun _ k => XS.iloadN X112.here hx rfl (hb hby at_172) rfl k) ?_
      refine own_to (T' := T112) (mkF m 175 #[iv p0, iv p1, iv ia, iv ib, iv ic, iv 0, rv aA, iv 3, rv b105, rv b105, iv 3] [(.int ic), (.int ib), (.int ia), (.ref b105)]) (fun _ k => XS.iload X112.here hx rfl (hb hby at_173) rfl k) ?_
      obtain ⟨_, _, ⟨T113, L113, k113, n113⟩, -, X113, ⟨Lc113, hQ113, l113, y113, z113⟩, st113⟩ := Jvm.LawKit.callS X112 hx (y := (⟨"com/example/steady_expansion/steadyexpansion/SensesOffsetsPinLaw", "prefixMatches", "([IIII)Z"⟩ : MethodName)) hown (mvT hZ (hw _ (List.mem_of_getElem? (i := 11) rfl))) (mvT hZ (hw _ (List.mem_of_getElem? (i := 12) rfl))) (mvT hZ (hw _ (List.mem_of_getElem? (i := 13) rfl))) (mvT hZ (hw _ (List.mem_of_getElem? (i := 14) rfl))) (by decide) (backOf (W := 0) (own_rm4_3 l Z a0 hw [] ia ib ic b105 k105 h108 n0 (Nat.le_trans Z0 KP.1) OL V_b105) hZ (hw _ (List.mem_of_getElem? (i := 14) rfl)) (hw _ (List.mem_of_getElem? (i := 13) rfl)) (by decide) (by decide)) (g := (mkF m 175 #[iv p0, iv p1, iv ia, iv ib, iv ic, iv 0, rv aA, iv 3, rv b105, rv b105, iv 3] [(.int ic), (.int ib), (.int ia), (.ref b105)])) rfl (by rw [hml]; rfl) (argsL := [(.ref b105), (.int ia), (.int ib), (.int ic)]) (rest := []) (lenOf own_pd3 rfl) rfl (by show 2 * 0 + _ ≤ _; exact Nat.le_of_eq rfl) (hb hby at_175) (fun _ _ => ⟨rfl, e112, (by decide : 1 + 0 ≤ _), (by decide : 3 + 0 ≤ _)⟩)
      dsimp only [Pt.U, Pt.locs, Pt.cells, Pt.slots] at X113 l113 y113 z113 st113 hQ113
      subst l113 y113 z113
      obtain ⟨rfl, N113q, e113⟩ := hQ113
      have N113 := Fr.app N112 N113q
      refine own_to (mkF m 178 #[iv p0, iv p1, iv ia, iv ib, iv ic, iv 0, rv aA, iv 3, rv b105, rv b105, iv 3] [(.int (1 : Int32))]) st113 ?_
      exact own_retN X113 hx (t := .boolean) Bd.returns (by simp) hlk (hb hby at_178) (by decide) (by decide) (by rw [e113]; exact ⟨rfl, N113⟩)
  · refine own_to (T' := s₁) (mkF m 6 #[iv p0, iv p1, iv ia, iv ib, iv ic, .unset, .unset, .unset, .unset, .unset, .unset] []) (fun _ k => XS.ifNo X0.here hx rfl (hb hby at_3) rfl ((if0 _ _).trans (feq hs).1) k) ?_
    refine own_to (T' := s₁) (mkF m 7 #[iv p0, iv p1, iv ia, iv ib, iv ic, .unset, .unset, .unset, .unset, .unset, .unset] [(.int (1 : Int32))]) (fun _ k => XS.iconst X0.here hx rfl (hb hby at_6) k) ?_
    refine own_to (T' := s₁) (mkF m 11 #[iv p0, iv p1, iv ia, iv ib, iv ic, .unset, .unset, .unset, .unset, .unset, .unset] [(.int (1 : Int32))]) (fun _ k => XS.goto X0.here hx rfl (pc0 := 7) (pc' := 11) rfl (hb hby at_7) (by decide) (by decide) k) ?_
    refine own_to (T' := s₁) (mkF m 13 #[iv p0, iv p1, iv ia, iv ib, iv ic, iv 1, .unset, .unset, .unset, .unset, .unset] []) (fun _ k => XS.istore X0.here hx rfl (hb hby at_11) rfl (l' := #[iv p0, iv p1, iv ia, iv ib, iv ic, iv 1, .unset, .unset, .unset, .unset, .unset]) rfl k) ?_
    refine own_to (T' := s₁) (mkF m 15 #[iv p0, iv p1, iv ia, iv ib, iv ic, iv 1, .unset, .unset, .unset, .unset, .unset] [(.int (1 : Int32))]) (fun _ k => XS.iload X0.here hx rfl (hb hby at_13) rfl k) ?_
    refine own_to (T' := s₁) (mkF m 18 #[iv p0, iv p1, iv ia, iv ib, iv ic, iv 1, .unset, .unset, .unset, .unset, .unset] []) (fun _ k => XS.ifNo X0.here hx rfl (hb hby at_15) rfl ((if0 _ _).trans (feq (by decide : ¬ ((1 : Int32) = (0 : Int32)))).1) k) ?_
    obtain ⟨T52, X52, e52, st52⟩ := getS2 X0 hx hZ hown (host := "") (Or.inl (hw _ (List.mem_of_getElem? (i := 15) rfl))) Via.refl e0 (SF.ext OL.2) (g := (mkF m 18 #[iv p0, iv p1, iv ia, iv ib, iv ic, iv 1, .unset, .unset, .unset, .unset, .unset] [])) rfl (hb hby at_18)
    refine own_to (mkF m 21 #[iv p0, iv p1, iv ia, iv ib, iv ic, iv 1, .unset, .unset, .unset, .unset, .unset] [(.ref aF)]) st52 ?_
    refine own_to (T' := T52) (mkF m 27 #[iv p0, iv p1, iv ia, iv ib, iv ic, iv 1, .unset, .unset, .unset, .unset, .unset] [(.ref aF)]) (fun _ k => XS.goto X52.here hx rfl (pc0 := 21) (pc' := 27) rfl (hb hby at_21) (by decide) (by decide) k) ?_
    refine own_to (T' := T52) (mkF m 29 #[iv p0, iv p1, iv ia, iv ib, iv ic, iv 1, rv aF, .unset, .unset, .unset, .unset] []) (fun _ k => XS.astore X52.here hx rfl (hb hby at_27) rfl rfl (l' := #[iv p0, iv p1, iv ia, iv ib, iv ic, iv 1, rv aF, .unset, .unset, .unset, .unset]) rfl k) ?_
    refine own_to (T' := T52) (mkF m 30 #[iv p0, iv p1, iv ia, iv ib, iv ic, iv 1, rv aF, .unset, .unset, .unset, .unset] [(.int p1)]) (fun _ k => XS.iloadN X52.here hx rfl (hb hby at_29) rfl k) ?_
    refine own_to (T' := T52) (mkF m 31 #[iv p0, iv p1, iv ia, iv ib, iv ic, iv 1, rv aF, .unset, .unset, .unset, .unset] [(.int (3 : Int32)), (.int p1)]) (fun _ k => XS.iconst X52.here hx rfl (hb hby at_30) k) ?_
    refine own_to (T' := T52) (mkF m 32 #[iv p0, iv p1, iv ia, iv ib, iv ic, iv 1, rv aF, .unset, .unset, .unset, .unset] [(.int (p1 &&& (3 : Int32)))]) (fun _ k => XS.iand X52.here hx rfl (hb hby at_31) rfl k) ?_
    refine own_to (T' := T52) (mkF m 34 #[iv p0, iv p1, iv ia, iv ib, iv ic, iv 1, rv aF, iv (p1 &&& (3 : Int32)), .unset, .unset, .unset] []) (fun _ k => XS.istore X52.here hx rfl (hb hby at_32) rfl (l' := #[iv p0, iv p1, iv ia, iv ib, iv ic, iv 1, rv aF, iv (p1 &&& (3 : Int32)), .unset, .unset, .unset]) rfl k) ?_
    generalize hnn : (p1 &&& (3 : Int32)) = nn
    rcases own_four p1 hnn with q | q | q | q
    · subst q
      refine own_to (T' := T52) (mkF m 36 #[iv p0, iv p1, iv ia, iv ib, iv ic, iv 1, rv aF, iv 0, .unset, .unset, .unset] [(.int (0 : Int32))]) (fun _ k => XS.iload X52.here hx rfl (hb hby at_34) rfl k) ?_
      refine own_to (T' := T52) (mkF m 39 #[iv p0, iv p1, iv ia, iv ib, iv ic, iv 1, rv aF, iv 0, .unset, .unset, .unset] []) (fun _ k => XS.ifNo X52.here hx rfl (hb hby at_36) rfl ((if0 _ _).trans (teq (by decide : (0 : Int32) = (0 : Int32))).2) k) ?_
      refine own_to (T' := T52) (mkF m 40 #[iv p0, iv p1, iv ia, iv ib, iv ic, iv 1, rv aF, iv 0, .unset, .unset, .unset] [(.int (0 : Int32))]) (fun _ k => XS.iconst X52.here hx rfl (hb hby at_39) k) ?_
      obtain ⟨T53, h53, k53, X53, e53, E53, A53, B53, st53⟩ := newPE X52 hx hZ (hw _ (List.mem_of_getElem? (i := 3) rfl)) e52 (g := (mkF m 40 #[iv p0, iv p1, iv ia, iv ib, iv ic, iv 1, rv aF, iv 0, .unset, .unset, .unset] [(.int (0 : Int32))])) rfl (hb hby at_40) rfl (by decide) (cap := 0) (by decide) (by decide) (by decide) (by decide) (ad := "[I") (by decide)
      obtain ⟨b53, g53⟩ : ∃ z, z = h0.size := ⟨_, rfl⟩
      rw [← g53] at A53 B53 st53
      have sz_b53 : h0.size ≤ b53 := Nat.le_trans KP.1 (Nat.le_of_eq g53.symm)
      have ge_b53 : n0 ≤ b53 := Nat.le_trans Z0 sz_b53
      have OL := OL.ext E53
      have KP := KP.ext E53
      have E_b53 : Exa Z h53 b53 "[I" := B53
      have V_b53 : Arv Z h53 b53 k53 .int (0 : Int32) [] (.int (0 : Int32)) := Arv.new A53 (by decide)
      refine own_to (mkF m 42 #[iv p0, iv p1, iv ia, iv ib, iv ic, iv 1, rv aF, iv 0, .unset, .unset, .unset] [(.ref b53)]) st53 ?_
      refine own_to (T' := T53) (mkF m 97 #[iv p0, iv p1, iv ia, iv ib, iv ic, iv 1, rv aF, iv 0, .unset, .unset, .unset] [(.ref b53)]) (fun _ k => XS.goto X53.here hx rfl (pc0 := 42) (pc' := 97) rfl (hb hby at_42) (by decide) (by decide) k) ?_
      refine own_to (T' := T53) (mkF m 99 #[iv p0, iv p1, iv ia, iv ib, iv ic, iv 1, rv aF, iv 0, rv b53, .unset, .unset] []) (fun _ k => XS.astore X53.here hx rfl (hb hby at_97) rfl rfl (l' := #[iv p0, iv p1, iv ia, iv ib, iv ic, iv 1, rv aF, iv 0, rv b53, .unset, .unset]) rfl k) ?_
      refine own_to (T' := T53) (mkF m 101 #[iv p0, iv p1, iv ia, iv ib, iv ic, iv 1, rv aF, iv 0, rv b53, .unset, .unset] [(.ref aF)]) (fun _ k => XS.aload X53.here hx rfl (hb hby at_99) rfl rfl k) ?_
      refine own_to (T' := T53) (mkF m 103 #[iv p0, iv p1, iv ia, iv ib, iv ic, iv 1, rv aF, iv 0, rv b53, .unset, .unset] [(.ref b53), (.ref aF)]) (fun _ k => XS.aload X53.here hx rfl (hb hby at_101) rfl rfl k) ?_
      have EE : Exa Z h53 aF "com/example/steady_expansion/steadyexpansion/WordNet$Senses" := EF.ext OL.2
      have KP0 := KP
      obtain ⟨cq54, kq54, q54a, q54b, q54c⟩ := isOf hZ e53 EE
      obtain ⟨_, _, ⟨T54, L54, k54, n54⟩, -, X54, ⟨Lc54, hQ54, l54, y54, z54⟩, st54⟩ := X53.virtualBack hx (y := (⟨"com/example/steady_expansion/steadyexpansion/WordNet$Senses", "offsets", "([I)[I"⟩ : MethodName)) (z := (⟨"com/example/steady_expansion/steadyexpansion/WordNet$Senses", "offsets", "([I)[I"⟩ : MethodName)) hown (mvT hZ (hw _ (List.mem_of_getElem? (i := 4) rfl))) (mvT hZ (hw _ (List.mem_of_getElem? (i := 5) rfl))) (notFace_of_selects (args := #[]) (mvT hZ (hw _ (List.mem_of_getElem? (i := 7) rfl)))) (mvT hZ (hw _ (List.mem_of_getElem? (i := 7) rfl))) (mvT hZ (hw _ (List.mem_of_getElem? (i := 6) rfl))) (by decide) (backOf (W := 0) (own_rm3F_0 l Z a0 hw [] ia ib ic aF b53 k53 h53 n0 (Nat.le_trans Z0 KP.1) OL SF V_b53 E_b53) hZ (hw _ (List.mem_of_getElem? (i := 8) rfl)) (hw _ (List.mem_of_getElem? (i := 1) rfl)) (by decide) (by decide)) q54a q54c (g := (mkF m 103 #[iv p0, iv p1, iv ia, iv ib, iv ic, iv 1, rv aF, iv 0, rv b53, .unset, .unset] [(.ref b53), (.ref aF)])) rfl (by rw [hml]; rfl) (Steps.refl _) (argsL := [(.ref b53)]) (rest := []) (lenOf own_pd2 rfl) rfl (by show 2 * 0 + _ ≤ _; exact Nat.le_of_eq rfl) (hb hby at_103) (fun _ _ => ⟨rfl, e53, (by decide : 1 + 1 ≤ _), (by decide : 0 + 0 ≤ _)⟩)
      dsimp only [Pt.U, Pt.locs, Pt.cells, Pt.slots] at X54 l54 y54 z54 st54 hQ54
      subst l54 y54 z54
      obtain ⟨b54, kb54, rfl, N54q, K54, ge_b54, sz0_b54, V_b54⟩ := hQ54
      have N54 := Fr.app N0 N54q
      have OL := OL.keep K54 all0
      have KP := KP.trans K54 all0
      have E_b53 := E_b53.keep K54
      have V_b53 := V_b53.keep K54 nin0
      have EE := EE.keep K54
      have sz_b54 : h0.size ≤ b54 := Nat.le_trans KP0.1 sz0_b54
      refine own_via (mkF m 106 #[iv p0, iv p1, iv ia, iv ib, iv ic, iv 1, rv aF, iv 0, rv b53, .unset, .unset] [(.ref b54)]) st54 ?_
      refine own_to (T' := T54) (mkF m 108 #[iv p0, iv p1, iv ia, iv ib, iv ic, iv 1, rv aF, iv 0, rv b53, rv b54, .unset] []) (fun _ k => XS.astore X54.here hx rfl (hb hby at_106) rfl rfl (l' := #[iv p0, iv p1, iv ia, iv ib, iv ic, iv 1, rv aF, iv 0, rv b53, rv b54, .unset]) rfl k) ?_
      refine own_to (T' := T54) (mkF m 110 #[iv p0, iv p1, iv ia, iv ib, iv ic, iv 1, rv aF, iv 0, rv b53, rv b54, .unset] [(.ref b54)]) (fun _ k => XS.aload X54.here hx rfl (hb hby at_108) rfl rfl k) ?_
      refine own_to (T' := T54) (mkF m 115 #[iv p0, iv p1, iv ia, iv ib, iv ic, iv 1, rv aF, iv 0, rv b53, rv b54, .unset] []) (fun _ k => XS.ifnonnullYes X54.here hx rfl (pc0 := 110) (pc' := 115) rfl (hb hby at_110) rfl (by decide) (by decide) k) ?_
      refine own_to (T' := T54) (mkF m 117 #[iv p0, iv p1, iv ia, iv ib, iv ic, iv 1, rv aF, iv 0, rv b53, rv b54, .unset] [(.int (1 : Int32))]) (fun _ k => XS.iload X54.here hx rfl (hb hby at_115) rfl k) ?_
      refine own_to (T' := T54) (mkF m 120 #[iv p0, iv p1, iv ia, iv ib, iv ic, iv 1, rv aF, iv 0, rv b53, rv b54, .unset] []) (fun _ k => XS.ifNo X54.here hx rfl (hb hby at_117) rfl ((if0 _ _).trans (feq (by decide : ¬ ((1 : Int32) = (0 : Int32)))).1) k) ?_
      refine own_to (T' := T54) (mkF m 122 #[iv p0, iv p1, iv ia, iv ib, iv ic, iv 1, rv aF, iv 0, rv b53, rv b54, .unset] [(.int (0 : Int32))]) (fun _ k => XS.iload X54.here hx rfl (hb hby at_120) rfl k) ?_
      refine own_to (T' := T54) (mkF m 125 #[iv p0, iv p1, iv ia, iv ib, iv ic, iv 1, rv aF, iv 0, rv b53, rv b54, .unset] []) (fun _ k => XS.ifNo X54.here hx rfl (hb hby at_122) rfl ((if0 _ _).trans (teq (by decide : (0 : Int32) = (0 : Int32))).2) k) ?_
      refine own_to (T' := T54) (mkF m 126 #[iv p0, iv p1, iv ia, iv ib, iv ic, iv 1, rv aF, iv 0, rv b53, rv b54, .unset] [(.int (0 : Int32))]) (fun _ k => XS.iconst X54.here hx rfl (hb hby at_125) k) ?_
      refine own_to (T' := T54) (mkF m 135 #[iv p0, iv p1, iv ia, iv ib, iv ic, iv 1, rv aF, iv 0, rv b53, rv b54, .unset] [(.int (0 : Int32))]) (fun _ k => XS.goto X54.here hx rfl (pc0 := 126) (pc' := 135) rfl (hb hby at_126) (by decide) (by decide) k) ?_
      refine own_to (T' := T54) (mkF m 137 #[iv p0, iv p1, iv ia, iv ib, iv ic, iv 1, rv aF, iv 0, rv b53, rv b54, iv 0] []) (fun _ k => XS.istore X54.here hx rfl (hb hby at_135) rfl (l' := #[iv p0, iv p1, iv ia, iv ib, iv ic, iv 1, rv aF, iv 0, rv b53, rv b54, iv 0]) rfl k) ?_
      refine own_to (T' := T54) (mkF m 139 #[iv p0, iv p1, iv ia, iv ib, iv ic, iv 1, rv aF, iv 0, rv b53, rv b54, iv 0] [(.ref b54)]) (fun _ k => XS.aload X54.here hx rfl (hb hby at_137) rfl rfl k) ?_
      obtain ⟨cl55, Ar55, -, S55, M55, -, -⟩ := id V_b54
      refine own_to (mkF m 140 #[iv p0, iv p1, iv ia, iv ib, iv ic, iv 1, rv aF, iv 0, rv b53, rv b54, iv 0] [(.int (0 : Int32))]) (by have q := X54.arraylength hx Ar55.1 (State.isArrayOf_alike hZ.alike Ar55.2.1) (g := (mkF m 139 #[iv p0, iv p1, iv ia, iv ib, iv ic, iv 1, rv aF, iv 0, rv b53, rv b54, iv 0] [(.ref b54)])) rfl rfl (hb hby at_139); rw [len_of S55 M55] at q; exact q) ?_
      refine own_to (T' := T54) (mkF m 142 #[iv p0, iv p1, iv ia, iv ib, iv ic, iv 1, rv aF, iv 0, rv b53, rv b54, iv 0] [(.int (0 : Int32)), (.int (0 : Int32))]) (fun _ k => XS.iload X54.here hx rfl (hb hby at_140) rfl k) ?_
      refine own_to (T' := T54) (mkF m 147 #[iv p0, iv p1, iv ia, iv ib, iv ic, iv 1, rv aF, iv 0, rv b53, rv b54, iv 0] []) (fun _ k => XS.icmpYes X54.here hx rfl (pc0 := 142) (pc' := 147) rfl (hb hby at_142) rfl (teq (by decide : (0 : Int32) = (0 : Int32))).1 (by decide) (by decide) k) ?_
      refine own_to (T' := T54) (mkF m 149 #[iv p0, iv p1, iv ia, iv ib, iv ic, iv 1, rv aF, iv 0, rv b53, rv b54, iv 0] [(.ref b53)]) (fun _ k => XS.aload X54.here hx rfl (hb hby at_147) rfl rfl k) ?_
      obtain ⟨cl56, Ar56, -, S56, M56, -, -⟩ := id V_b53
      refine own_to (mkF m 150 #[iv p0, iv p1, iv ia, iv ib, iv ic, iv 1, rv aF, iv 0, rv b53, rv b54, iv 0] [(.int (0 : Int32))]) (by have q := X54.arraylength hx Ar56.1 (State.isArrayOf_alike hZ.alike Ar56.2.1) (g := (mkF m 149 #[iv p0, iv p1, iv ia, iv ib, iv ic, iv 1, rv aF, iv 0, rv b53, rv b54, iv 0] [(.ref b53)])) rfl rfl (hb hby at_149); rw [len_of S56 M56] at q; exact q) ?_
      refine own_to (T' := T54) (mkF m 152 #[iv p0, iv p1, iv ia, iv ib, iv ic, iv 1, rv aF, iv 0, rv b53, rv b54, iv 0] [(.int (0 : Int32)), (.int (0 : Int32))]) (fun _ k => XS.iload X54.here hx rfl (hb hby at_150) rfl k) ?_
      refine own_to (T' := T54) (mkF m 155 #[iv p0, iv p1, iv ia, iv ib, iv ic, iv 1, rv aF, iv 0, rv b53, rv b54, iv 0] []) (fun _ k => XS.icmpNo X54.here hx rfl (hb hby at_152) rfl (teq (by decide : (0 : Int32) = (0 : Int32))).2 k) ?_
      refine own_to (T' := T54) (mkF m 157 #[iv p0, iv p1, iv ia, iv ib, iv ic, iv 1, rv aF, iv 0, rv b53, rv b54, iv 0] [(.ref b53)]) (fun _ k => XS.aload X54.here hx rfl (hb hby at_155) rfl rfl k) ?_
      refine own_to (T' := T54) (mkF m 158 #[iv p0, iv p1, iv ia, iv ib, iv ic, iv 1, rv aF, iv 0, rv b53, rv b54, iv 0] [(.int ia), (.ref b53)]) (fun _ k => XS.iloadN X54.here hx rfl (hb hby at_157) rfl k) ?_
      refine own_to (T' := T54) (mkF m 159 #[iv p0, iv p1, iv ia, iv ib, iv ic, iv 1, rv aF, iv 0, rv b53, rv b54, iv 0] [(.int ib), (.int ia), (.ref b53)]) (fun _ k => XS.iloadN X54.here hx rfl (hb hby at_158) rfl k) ?_
      refine own_to (T' := T54) (mkF m 161 #[iv p0, iv p1, iv ia, iv ib, iv ic, iv 1, rv aF, iv 0, rv b53, rv b54, iv 0] [(.int ic), (.int ib), (.int ia), (.ref b53)]) (fun _ k => XS.iload X54.here hx rfl (hb hby at_159) rfl k) ?_
      obtain ⟨_, _, ⟨T57, L57, k57, n57⟩, -, X57, ⟨Lc57, hQ57, l57, y57, z57⟩, st57⟩ := Jvm.LawKit.callS X54 hx (y := (⟨"com/example/steady_expansion/steadyexpansion/SensesOffsetsPinLaw", "prefixMatches", "([IIII)Z"⟩ : MethodName)) hown (mvT hZ (hw _ (List.mem_of_getElem? (i := 11) rfl))) (mvT hZ (hw _ (List.mem_of_getElem? (i := 12) rfl))) (mvT hZ (hw _ (List.mem_of_getElem? (i := 13) rfl))) (mvT hZ (hw _ (List.mem_of_getElem? (i := 14) rfl))) (by decide) (backOf (W := 0) (own_rm4_0 l Z a0 hw [] ia ib ic b53 k53 T54.heap n0 (Nat.le_trans Z0 KP.1) OL V_b53) hZ (hw _ (List.mem_of_getElem? (i := 14) rfl)) (hw _ (List.mem_of_getElem? (i := 13) rfl)) (by decide) (by decide)) (g := (mkF m 161 #[iv p0, iv p1, iv ia, iv ib, iv ic, iv 1, rv aF, iv 0, rv b53, rv b54, iv 0] [(.int ic), (.int ib), (.int ia), (.ref b53)])) rfl (by rw [hml]; rfl) (argsL := [(.ref b53), (.int ia), (.int ib), (.int ic)]) (rest := []) (lenOf own_pd3 rfl) rfl (by show 2 * 0 + _ ≤ _; exact Nat.le_of_eq rfl) (hb hby at_161) (fun _ _ => ⟨rfl, rfl, (by decide : 2 + 0 ≤ _), (by decide : 0 + 0 ≤ _)⟩)
      dsimp only [Pt.U, Pt.locs, Pt.cells, Pt.slots] at X57 l57 y57 z57 st57 hQ57
      subst l57 y57 z57
      obtain ⟨rfl, N57q, e57⟩ := hQ57
      have N57 := Fr.app N54 N57q
      refine own_to (mkF m 164 #[iv p0, iv p1, iv ia, iv ib, iv ic, iv 1, rv aF, iv 0, rv b53, rv b54, iv 0] [(.int (1 : Int32))]) st57 ?_
      refine own_to (T' := T57) (mkF m 169 #[iv p0, iv p1, iv ia, iv ib, iv ic, iv 1, rv aF, iv 0, rv b53, rv b54, iv 0] []) (fun _ k => XS.ifYes X57.here hx rfl (pc0 := 164) (pc' := 169) rfl (hb hby at_164) rfl ((if0 _ _).trans (feq (by decide : ¬ ((1 : Int32) = (0 : Int32)))).2) (by decide) (by decide) k) ?_
      refine own_to (T' := T57) (mkF m 171 #[iv p0, iv p1, iv ia, iv ib, iv ic, iv 1, rv aF, iv 0, rv b53, rv b54, iv 0] [(.ref b54)]) (fun _ k => XS.aload X57.here hx rfl (hb hby at_169) rfl rfl k) ?_
      refine own_to (T' := T57) (mkF m 172 #[iv p0, iv p1, iv ia, iv ib, iv ic, iv 1, rv aF, iv 0, rv b53, rv b54, iv 0] [(.int ia), (.ref b54)]) (fun _ k => XS.iloadN X57.here hx rfl (hb hby at_171) rfl k) ?_
      refine own_to (T' := T57) (mkF m 173 #[iv p0, iv p1, iv ia, iv ib, iv ic, iv 1, rv aF, iv 0, rv b53, rv b54, iv 0] [(.int ib), (.int ia), (.ref b54)]) (fun _ k => XS.iloadN X57.here hx rfl (hb hby at_172) rfl k) ?_
      refine own_to (T' := T57) (mkF m 175 #[iv p0, iv p1, iv ia, iv ib, iv ic, iv 1, rv aF, iv 0, rv b53, rv b54, iv 0] [(.int ic), (.int ib), (.int ia), (.ref b54)]) (fun _ k => XS.iload X57.here hx rfl (hb hby at_173) rfl k) ?_
      obtain ⟨_, _, ⟨T58, L58, k58, n58⟩, -, X58, ⟨Lc58, hQ58, l58, y58, z58⟩, st58⟩ := Jvm.LawKit.callS X57 hx (y := (⟨"com/example/steady_expansion/steadyexpansion/SensesOffsetsPinLaw", "prefixMatches", "([IIII)Z"⟩ : MethodName)) hown (mvT hZ (hw _ (List.mem_of_getElem? (i := 11) rfl))) (mvT hZ (hw _ (List.mem_of_getElem? (i := 12) rfl))) (mvT hZ (hw _ (List.mem_of_getElem? (i := 13) rfl))) (mvT hZ (hw _ (List.mem_of_getElem? (i := 14) rfl))) (by decide) (backOf (W := 0) (own_rm4_0 l Z a0 hw [] ia ib ic b54 kb54 T54.heap n0 (Nat.le_trans Z0 KP.1) OL V_b54) hZ (hw _ (List.mem_of_getElem? (i := 14) rfl)) (hw _ (List.mem_of_getElem? (i := 13) rfl)) (by decide) (by decide)) (g := (mkF m 175 #[iv p0, iv p1, iv ia, iv ib, iv ic, iv 1, rv aF, iv 0, rv b53, rv b54, iv 0] [(.int ic), (.int ib), (.int ia), (.ref b54)])) rfl (by rw [hml]; rfl) (argsL := [(.ref b54), (.int ia), (.int ib), (.int ic)]) (rest := []) (lenOf own_pd3 rfl) rfl (by show 2 * 0 + _ ≤ _; exact Nat.le_of_eq rfl) (hb hby at_175) (fun _ _ => ⟨rfl, e57, (by decide : 2 + 0 ≤ _), (by decide : 0 + 0 ≤ _)⟩)
      dsimp only [Pt.U, Pt.locs, Pt.cells, Pt.slots] at X58 l58 y58 z58 st58 hQ58
      subst l58 y58 z58
      obtain ⟨rfl, N58q, e58⟩ := hQ58
      have N58 := Fr.app N57 N58q
      refine own_to (mkF m 178 #[iv p0, iv p1, iv ia, iv ib, iv ic, iv 1, rv aF, iv 0, rv b53, rv b54, iv 0] [(.int (1 : Int32))]) st58 ?_
      exact own_retN X58 hx (t := .boolean) Bd.returns (by simp) hlk (hb hby at_178) (by decide) (by decide) (by rw [e58]; exact ⟨rfl, N58⟩)
    · subst q
      refine own_to (T' := T52) (mkF m 36 #[iv p0, iv p1, iv ia, iv ib, iv ic, iv 1, rv aF, iv 1, .unset, .unset, .unset] [(.int (1 : Int32))]) (fun _ k => XS.iload X52.here hx rfl (hb hby at_34) rfl k) ?_
      refine own_to (T' := T52) (mkF m 45 #[iv p0, iv p1, iv ia, iv ib, iv ic, iv 1, rv aF, iv 1, .unset, .unset, .unset] []) (fun _ k => XS.ifYes X52.here hx rfl (pc0 := 36) (pc' := 45) rfl (hb hby at_36) rfl ((if0 _ _).trans (feq (by decide : ¬ ((1 : Int32) = (0 : Int32)))).2) (by decide) (by decide) k) ?_
      refine own_to (T' := T52) (mkF m 47 #[iv p0, iv p1, iv ia, iv ib, iv ic, iv 1, rv aF, iv 1, .unset, .unset, .unset] [(.int (1 : Int32))]) (fun _ k => XS.iload X52.here hx rfl (hb hby at_45) rfl k) ?_
      refine own_to (T' := T52) (mkF m 48 #[iv p0, iv p1, iv ia, iv ib, iv ic, iv 1, rv aF, iv 1, .unset, .unset, .unset] [(.int (1 : Int32)), (.int (1 : Int32))]) (fun _ k => XS.iconst X52.here hx rfl (hb hby at_47) k) ?_
      refine own_to (T' := T52) (mkF m 51 #[iv p0, iv p1, iv ia, iv ib, iv ic, iv 1, rv aF, iv 1, .unset, .unset, .unset] []) (fun _ k => XS.icmpNo X52.here hx rfl (hb hby at_48) rfl (teq (by decide : (1 : Int32) = (1 : Int32))).2 k) ?_
      refine own_to (T' := T52) (mkF m 52 #[iv p0, iv p1, iv ia, iv ib, iv ic, iv 1, rv aF, iv 1, .unset, .unset, .unset] [(.int (1 : Int32))]) (fun _ k => XS.iconst X52.here hx rfl (hb hby at_51) k) ?_
      obtain ⟨T59, h59, k59, X59, e59, E59, A59, B59, st59⟩ := newPE X52 hx hZ (hw _ (List.mem_of_getElem? (i := 3) rfl)) e52 (g := (mkF m 52 #[iv p0, iv p1, iv ia, iv ib, iv ic, iv 1, rv aF, iv 1, .unset, .unset, .unset] [(.int (1 : Int32))])) rfl (hb hby at_52) rfl (by decide) (cap := 1) (by decide) (by decide) (by decide) (by decide) (ad := "[I") (by decide)
      obtain ⟨b59, g59⟩ : ∃ z, z = h0.size := ⟨_, rfl⟩
      rw [← g59] at A59 B59 st59
      have sz_b59 : h0.size ≤ b59 := Nat.le_trans KP.1 (Nat.le_of_eq g59.symm)
      have ge_b59 : n0 ≤ b59 := Nat.le_trans Z0 sz_b59
      have OL := OL.ext E59
      have KP := KP.ext E59
      have E_b59 : Exa Z h59 b59 "[I" := B59
      have V_b59 : Arv Z h59 b59 k59 .int (1 : Int32) [(.int (0 : Int32))] (.int (0 : Int32)) := (Arv.new A59 (by decide)).pad (pad_rep [] (.int (0 : Int32)) 1)
      refine own_to (mkF m 54 #[iv p0, iv p1, iv ia, iv ib, iv ic, iv 1, rv aF, iv 1, .unset, .unset, .unset] [(.ref b59)]) st59 ?_
      refine own_to (T' := T59) (mkF m 55 #[iv p0, iv p1, iv ia, iv ib, iv ic, iv 1, rv aF, iv 1, .unset, .unset, .unset] [(.ref b59), (.ref b59)]) (fun _ k => XS.dup X59.here hx rfl (hb hby at_54) rfl rfl k) ?_
      refine own_to (T' := T59) (mkF m 56 #[iv p0, iv p1, iv ia, iv ib, iv ic, iv 1, rv aF, iv 1, .unset, .unset, .unset] [(.int (0 : Int32)), (.ref b59), (.ref b59)]) (fun _ k => XS.iconst X59.here hx rfl (hb hby at_55) k) ?_
      refine own_to (T' := T59) (mkF m 57 #[iv p0, iv p1, iv ia, iv ib, iv ic, iv 1, rv aF, iv 1, .unset, .unset, .unset] [(.int ia), (.int (0 : Int32)), (.ref b59), (.ref b59)]) (fun _ k => XS.iloadN X59.here hx rfl (hb hby at_56) rfl k) ?_
      obtain ⟨cl60, Ar60, q60, S60, M60, H60, G60⟩ := id V_b59
      obtain ⟨T60, h60, X60, e60, W60, st60⟩ := stI X59 hx hZ e59 Ar60 (j := (0 : Int32)) (inb_of S60 ⟨by decide, by decide⟩) (g := (mkF m 57 #[iv p0, iv p1, iv ia, iv ib, iv ic, iv 1, rv aF, iv 1, .unset, .unset, .unset] [(.int ia), (.int (0 : Int32)), (.ref b59), (.ref b59)])) rfl rfl (hb hby at_57)
      refine own_to (mkF m 58 #[iv p0, iv p1, iv ia, iv ib, iv ic, iv 1, rv aF, iv 1, .unset, .unset, .unset] [(.ref b59)]) st60 ?_
      have N60 := Fr.snoc X60 N0 ge_b59
      have tmp60 : Arv Z h60 b59 k59 .int (1 : Int32) [(.int ia)] (.int (0 : Int32)) := Arv.set Ar60 q60 S60 M60 H60 G60 rfl W60 0 rfl (Nat.le_of_ble_eq_true rfl)
      have OL := OL.wr W60 ge_b59
      have KP := KP.wr W60 (Or.inr sz_b59)
      have E_b59 := E_b59.wr W60
      have V_b59 := tmp60
      refine own_to (T' := T60) (mkF m 97 #[iv p0, iv p1, iv ia, iv ib, iv ic, iv 1, rv aF, iv 1, .unset, .unset, .unset] [(.ref b59)]) (fun _ k => XS.goto X60.here hx rfl (pc0 := 58) (pc' := 97) rfl (hb hby at_58) (by decide) (by decide) k) ?_
      refine own_to (T' := T60) (mkF m 99 #[iv p0, iv p1, iv ia, iv ib, iv ic, iv 1, rv aF, iv 1, rv b59, .unset, .unset] []) (fun _ k => XS.astore X60.here hx rfl (hb hby at_97) rfl rfl (l' := #[iv p0, iv p1, iv ia, iv ib, iv ic, iv 1, rv aF, iv 1, rv b59, .unset, .unset]) rfl k) ?_
      refine own_to (T' := T60) (mkF m 101 #[iv p0, iv p1, iv ia, iv ib, iv ic, iv 1, rv aF, iv 1, rv b59, .unset, .unset] [(.ref aF)]) (fun _ k => XS.aload X60.here hx rfl (hb hby at_99) rfl rfl k) ?_
      refine own_to (T' := T60) (mkF m 103 #[iv p0, iv p1, iv ia, iv ib, iv ic, iv 1, rv aF, iv 1, rv b59, .unset, .unset] [(.ref b59), (.ref aF)]) (fun _ k => XS.aload X60.here hx rfl (hb hby at_101) rfl rfl k) ?_
      have EE : Exa Z h60 aF "com/example/steady_expansion/steadyexpansion/WordNet$Senses" := EF.ext OL.2
      have KP0 := KP
      obtain ⟨cq61, kq61, q61a, q61b, q61c⟩ := isOf hZ e60 EE
      obtain ⟨_, _, ⟨T61, L61, k61, n61⟩, -, X61, ⟨Lc61, hQ61, l61, y61, z61⟩, st61⟩ := X60.virtualBack hx (y := (⟨"com/example/steady_expansion/steadyexpansion/WordNet$Senses", "offsets", "([I)[I"⟩ : MethodName)) (z := (⟨"com/example/steady_expansion/steadyexpansion/WordNet$Senses", "offsets", "([I)[I"⟩ : MethodName)) hown (mvT hZ (hw _ (List.mem_of_getElem? (i := 4) rfl))) (mvT hZ (hw _ (List.mem_of_getElem? (i := 5) rfl))) (notFace_of_selects (args := #[]) (mvT hZ (hw _ (List.mem_of_getElem? (i := 7) rfl)))) (mvT hZ (hw _ (List.mem_of_getElem? (i := 7) rfl))) (mvT hZ (hw _ (List.mem_of_getElem? (i := 6) rfl))) (by decide) (backOf (W := 0) (own_rm3F_1 l Z a0 hw [] ia ib ic aF b59 k59 h60 n0 (Nat.le_trans Z0 KP.1) OL SF V_b59 E_b59) hZ (hw _ (List.mem_of_getElem? (i := 8) rfl)) (hw _ (List.mem_of_getElem? (i := 1) rfl)) (by decide) (by decide)) q61a q61c (g := (mkF m 103 #[iv p0, iv p1, iv ia, iv ib, iv ic, iv 1, rv aF, iv 1, rv b59, .unset, .unset] [(.ref b59), (.ref aF)])) rfl (by rw [hml]; rfl) (Steps.refl _) (argsL := [(.ref b59)]) (rest := []) (lenOf own_pd2 rfl) rfl (by show 2 * 0 + _ ≤ _; exact Nat.le_of_eq rfl) (hb hby at_103) (fun _ _ => ⟨rfl, e60, (by decide : 1 + 1 ≤ _), (by decide : 1 + 1 ≤ _)⟩)
      dsimp only [Pt.U, Pt.locs, Pt.cells, Pt.slots] at X61 l61 y61 z61 st61 hQ61
      subst l61 y61 z61
      obtain ⟨b61, kb61, rfl, N61q, K61, ge_b61, sz0_b61, V_b61⟩ := hQ61
      have N61 := Fr.app N60 N61q
      have OL := OL.keep K61 all0
      have KP := KP.trans K61 all0
      have E_b59 := E_b59.keep K61
      have V_b59 := V_b59.keep K61 nin0
      have EE := EE.keep K61
      have sz_b61 : h0.size ≤ b61 := Nat.le_trans KP0.1 sz0_b61
      refine own_via (mkF m 106 #[iv p0, iv p1, iv ia, iv ib, iv ic, iv 1, rv aF, iv 1, rv b59, .unset, .unset] [(.ref b61)]) st61 ?_
      refine own_to (T' := T61) (mkF m 108 #[iv p0, iv p1, iv ia, iv ib, iv ic, iv 1, rv aF, iv 1, rv b59, rv b61, .unset] []) (fun _ k => XS.astore X61.here hx rfl (hb hby at_106) rfl rfl (l' := #[iv p0, iv p1, iv ia, iv ib, iv ic, iv 1, rv aF, iv 1, rv b59, rv b61, .unset]) rfl k) ?_
      refine own_to (T' := T61) (mkF m 110 #[iv p0, iv p1, iv ia, iv ib, iv ic, iv 1, rv aF, iv 1, rv b59, rv b61, .unset] [(.ref b61)]) (fun _ k => XS.aload X61.here hx rfl (hb hby at_108) rfl rfl k) ?_
      refine own_to (T' := T61) (mkF m 115 #[iv p0, iv p1, iv ia, iv ib, iv ic, iv 1, rv aF, iv 1, rv b59, rv b61, .unset] []) (fun _ k => XS.ifnonnullYes X61.here hx rfl (pc0 := 110) (pc' := 115) rfl (hb hby at_110) rfl (by decide) (by decide) k) ?_
      refine own_to (T' := T61) (mkF m 117 #[iv p0, iv p1, iv ia, iv ib, iv ic, iv 1, rv aF, iv 1, rv b59, rv b61, .unset] [(.int (1 : Int32))]) (fun _ k => XS.iload X61.here hx rfl (hb hby at_115) rfl k) ?_
      refine own_to (T' := T61) (mkF m 120 #[iv p0, iv p1, iv ia, iv ib, iv ic, iv 1, rv aF, iv 1, rv b59, rv b61, .unset] []) (fun _ k => XS.ifNo X61.here hx rfl (hb hby at_117) rfl ((if0 _ _).trans (feq (by decide : ¬ ((1 : Int32) = (0 : Int32)))).1) k) ?_
      refine own_to (T' := T61) (mkF m 122 #[iv p0, iv p1, iv ia, iv ib, iv ic, iv 1, rv aF, iv 1, rv b59, rv b61, .unset] [(.int (1 : Int32))]) (fun _ k => XS.iload X61.here hx rfl (hb hby at_120) rfl k) ?_
      refine own_to (T' := T61) (mkF m 129 #[iv p0, iv p1, iv ia, iv ib, iv ic, iv 1, rv aF, iv 1, rv b59, rv b61, .unset] []) (fun _ k => XS.ifYes X61.here hx rfl (pc0 := 122) (pc' := 129) rfl (hb hby at_122) rfl ((if0 _ _).trans (feq (by decide : ¬ ((1 : Int32) = (0 : Int32)))).2) (by decide) (by decide) k) ?_
      refine own_to (T' := T61) (mkF m 130 #[iv p0, iv p1, iv ia, iv ib, iv ic, iv 1, rv aF, iv 1, rv b59, rv b61, .unset] [(.int (1 : Int32))]) (fun _ k => XS.iconst X61.here hx rfl (hb hby at_129) k) ?_
      refine own_to (T' := T61) (mkF m 135 #[iv p0, iv p1, iv ia, iv ib, iv ic, iv 1, rv aF, iv 1, rv b59, rv b61, .unset] [(.int (1 : Int32))]) (fun _ k => XS.goto X61.here hx rfl (pc0 := 130) (pc' := 135) rfl (hb hby at_130) (by decide) (by decide) k) ?_
      refine own_to (T' := T61) (mkF m 137 #[iv p0, iv p1, iv ia, iv ib, iv ic, iv 1, rv aF, iv 1, rv b59, rv b61, iv 1] []) (fun _ k => XS.istore X61.here hx rfl (hb hby at_135) rfl (l' := #[iv p0, iv p1, iv ia, iv ib, iv ic, iv 1, rv aF, iv 1, rv b59, rv b61, iv 1]) rfl k) ?_
      refine own_to (T' := T61) (mkF m 139 #[iv p0, iv p1, iv ia, iv ib, iv ic, iv 1, rv aF, iv 1, rv b59, rv b61, iv 1] [(.ref b61)]) (fun _ k => XS.aload X61.here hx rfl (hb hby at_137) rfl rfl k) ?_
      obtain ⟨cl62, Ar62, -, S62, M62, -, -⟩ := id V_b61
      refine own_to (mkF m 140 #[iv p0, iv p1, iv ia, iv ib, iv ic, iv 1, rv aF, iv 1, rv b59, rv b61, iv 1] [(.int (1 : Int32))]) (by have q := X61.arraylength hx Ar62.1 (State.isArrayOf_alike hZ.alike Ar62.2.1) (g := (mkF m 139 #[iv p0, iv p1, iv ia, iv ib, iv ic, iv 1, rv aF, iv 1, rv b59, rv b61, iv 1] [(.ref b61)])) rfl rfl (hb hby at_139); rw [len_of S62 M62] at q; exact q) ?_
      refine own_to (T' := T61) (mkF m 142 #[iv p0, iv p1, iv ia, iv ib, iv ic, iv 1, rv aF, iv 1, rv b59, rv b61, iv 1] [(.int (1 : Int32)), (.int (1 : Int32))]) (fun _ k => XS.iload X61.here hx rfl (hb hby at_140) rfl k) ?_
      refine own_to (T' := T61) (mkF m 147 #[iv p0, iv p1, iv ia, iv ib, iv ic, iv 1, rv aF, iv 1, rv b59, rv b61, iv 1] []) (fun _ k => XS.icmpYes X61.here hx rfl (pc0 := 142) (pc' := 147) rfl (hb hby at_142) rfl (teq (by decide : (1 : Int32) = (1 : Int32))).1 (by decide) (by decide) k) ?_
      refine own_to (T' := T61) (mkF m 149 #[iv p0, iv p1, iv ia, iv ib, iv ic, iv 1, rv aF, iv 1, rv b59, rv b61, iv 1] [(.ref b59)]) (fun _ k => XS.aload X61.here hx rfl (hb hby at_147) rfl rfl k) ?_
      obtain ⟨cl63, Ar63, -, S63, M63, -, -⟩ := id V_b59
      refine own_to (mkF m 150 #[iv p0, iv p1, iv ia, iv ib, iv ic, iv 1, rv aF, iv 1, rv b59, rv b61, iv 1] [(.int (1 : Int32))]) (by have q := X61.arraylength hx Ar63.1 (State.isArrayOf_alike hZ.alike Ar63.2.1) (g := (mkF m 149 #[iv p0, iv p1, iv ia, iv ib, iv ic, iv 1, rv aF, iv 1, rv b59, rv b61, iv 1] [(.ref b59)])) rfl rfl (hb hby at_149); rw [len_of S63 M63] at q; exact q) ?_
      refine own_to (T' := T61) (mkF m 152 #[iv p0, iv p1, iv ia, iv ib, iv ic, iv 1, rv aF, iv 1, rv b59, rv b61, iv 1] [(.int (1 : Int32)), (.int (1 : Int32))]) (fun _ k => XS.iload X61.here hx rfl (hb hby at_150) rfl k) ?_
      refine own_to (T' := T61) (mkF m 155 #[iv p0, iv p1, iv ia, iv ib, iv ic, iv 1, rv aF, iv 1, rv b59, rv b61, iv 1] []) (fun _ k => XS.icmpNo X61.here hx rfl (hb hby at_152) rfl (teq (by decide : (1 : Int32) = (1 : Int32))).2 k) ?_
      refine own_to (T' := T61) (mkF m 157 #[iv p0, iv p1, iv ia, iv ib, iv ic, iv 1, rv aF, iv 1, rv b59, rv b61, iv 1] [(.ref b59)]) (fun _ k => XS.aload X61.here hx rfl (hb hby at_155) rfl rfl k) ?_
      refine own_to (T' := T61) (mkF m 158 #[iv p0, iv p1, iv ia, iv ib, iv ic, iv 1, rv aF, iv 1, rv b59, rv b61, iv 1] [(.int ia), (.ref b59)]) (fun _ k => XS.iloadN X61.here hx rfl (hb hby at_157) rfl k) ?_
      refine own_to (T' := T61) (mkF m 159 #[iv p0, iv p1, iv ia, iv ib, iv ic, iv 1, rv aF, iv 1, rv b59, rv b61, iv 1] [(.int ib), (.int ia), (.ref b59)]) (fun _ k => XS.iloadN X61.here hx rfl (hb hby at_158) rfl k) ?_
      refine own_to (T' := T61) (mkF m 161 #[iv p0, iv p1, iv ia, iv ib, iv ic, iv 1, rv aF, iv 1, rv b59, rv b61, iv 1] [(.int ic), (.int ib), (.int ia), (.ref b59)]) (fun _ k => XS.iload X61.here hx rfl (hb hby at_159) rfl k) ?_
      obtain ⟨_, _, ⟨T64, L64, k64, n64⟩, -, X64, ⟨Lc64, hQ64, l64, y64, z64⟩, st64⟩ := Jvm.LawKit.callS X61 hx (y := (⟨"com/example/steady_expansion/steadyexpansion/SensesOffsetsPinLaw", "prefixMatches", "([IIII)Z"⟩ : MethodName)) hown (mvT hZ (hw _ (List.mem_of_getElem? (i := 11) rfl))) (mvT hZ (hw _ (List.mem_of_getElem? (i := 12) rfl))) (mvT hZ (hw _ (List.mem_of_getElem? (i := 13) rfl))) (mvT hZ (hw _ (List.mem_of_getElem? (i := 14) rfl))) (by decide) (backOf (W := 0) (own_rm4_1 l Z a0 hw [] ia ib ic b59 k59 T61.heap n0 (Nat.le_trans Z0 KP.1) OL V_b59) hZ (hw _ (List.mem_of_getElem? (i := 14) rfl)) (hw _ (List.mem_of_getElem? (i := 13) rfl)) (by decide) (by decide)) (g := (mkF m 161 #[iv p0, iv p1, iv ia, iv ib, iv ic, iv 1, rv aF, iv 1, rv b59, rv b61, iv 1] [(.int ic), (.int ib), (.int ia), (.ref b59)])) rfl (by rw [hml]; rfl) (argsL := [(.ref b59), (.int ia), (.int ib), (.int ic)]) (rest := []) (lenOf own_pd3 rfl) rfl (by show 2 * 0 + _ ≤ _; exact Nat.le_of_eq rfl) (hb hby at_161) (fun _ _ => ⟨rfl, rfl, (by decide : 2 + 0 ≤ _), (by decide : 2 + 0 ≤ _)⟩)
      dsimp only [Pt.U, Pt.locs, Pt.cells, Pt.slots] at X64 l64 y64 z64 st64 hQ64
      subst l64 y64 z64
      obtain ⟨rfl, N64q, e64⟩ := hQ64
      have N64 := Fr.app N61 N64q
      refine own_to (mkF m 164 #[iv p0, iv p1, iv ia, iv ib, iv ic, iv 1, rv aF, iv 1, rv b59, rv b61, iv 1] [(.int (1 : Int32))]) st64 ?_
      refine own_to (T' := T64) (mkF m 169 #[iv p0, iv p1, iv ia, iv ib, iv ic, iv 1, rv aF, iv 1, rv b59, rv b61, iv 1] []) (fun _ k => XS.ifYes X64.here hx rfl (pc0 := 164) (pc' := 169) rfl (hb hby at_164) rfl ((if0 _ _).trans (feq (by decide : ¬ ((1 : Int32) = (0 : Int32)))).2) (by decide) (by decide) k) ?_
      refine own_to (T' := T64) (mkF m 171 #[iv p0, iv p1, iv ia, iv ib, iv ic, iv 1, rv aF, iv 1, rv b59, rv b61, iv 1] [(.ref b61)]) (fun _ k => XS.aload X64.here hx rfl (hb hby at_169) rfl rfl k) ?_
      refine own_to (T' := T64) (mkF m 172 #[iv p0, iv p1, iv ia, iv ib, iv ic, iv 1, rv aF, iv 1, rv b59, rv b61, iv 1] [(.int ia), (.ref b61)]) (fun _ k => XS.iloadN X64.here hx rfl (hb hby at_171) rfl k) ?_
      refine own_to (T' := T64) (mkF m 173 #[iv p0, iv p1, iv ia, iv ib, iv ic, iv 1, rv aF, iv 1, rv b59, rv b61, iv 1] [(.int ib), (.int ia), (.ref b61)]) (fun _ k => XS.iloadN X64.here hx rfl (hb hby at_172) rfl k) ?_
      refine own_to (T' := T64) (mkF m 175 #[iv p0, iv p1, iv ia, iv ib, iv ic, iv 1, rv aF, iv 1, rv b59, rv b61, iv 1] [(.int ic), (.int ib), (.int ia), (.ref b61)]) (fun _ k => XS.iload X64.here hx rfl (hb hby at_173) rfl k) ?_
      obtain ⟨_, _, ⟨T65, L65, k65, n65⟩, -, X65, ⟨Lc65, hQ65, l65, y65, z65⟩, st65⟩ := Jvm.LawKit.callS X64 hx (y := (⟨"com/example/steady_expansion/steadyexpansion/SensesOffsetsPinLaw", "prefixMatches", "([IIII)Z"⟩ : MethodName)) hown (mvT hZ (hw _ (List.mem_of_getElem? (i := 11) rfl))) (mvT hZ (hw _ (List.mem_of_getElem? (i := 12) rfl))) (mvT hZ (hw _ (List.mem_of_getElem? (i := 13) rfl))) (mvT hZ (hw _ (List.mem_of_getElem? (i := 14) rfl))) (by decide) (backOf (W := 0) (own_rm4_1 l Z a0 hw [] ia ib ic b61 kb61 T61.heap n0 (Nat.le_trans Z0 KP.1) OL V_b61) hZ (hw _ (List.mem_of_getElem? (i := 14) rfl)) (hw _ (List.mem_of_getElem? (i := 13) rfl)) (by decide) (by decide)) (g := (mkF m 175 #[iv p0, iv p1, iv ia, iv ib, iv ic, iv 1, rv aF, iv 1, rv b59, rv b61, iv 1] [(.int ic), (.int ib), (.int ia), (.ref b61)])) rfl (by rw [hml]; rfl) (argsL := [(.ref b61), (.int ia), (.int ib), (.int ic)]) (rest := []) (lenOf own_pd3 rfl) rfl (by show 2 * 0 + _ ≤ _; exact Nat.le_of_eq rfl) (hb hby at_175) (fun _ _ => ⟨rfl, e64, (by decide : 2 + 0 ≤ _), (by decide : 2 + 0 ≤ _)⟩)
      dsimp only [Pt.U, Pt.locs, Pt.cells, Pt.slots] at X65 l65 y65 z65 st65 hQ65
      subst l65 y65 z65
      obtain ⟨rfl, N65q, e65⟩ := hQ65
      have N65 := Fr.app N64 N65q
      refine own_to (mkF m 178 #[iv p0, iv p1, iv ia, iv ib, iv ic, iv 1, rv aF, iv 1, rv b59, rv b61, iv 1] [(.int (1 : Int32))]) st65 ?_
      exact own_retN X65 hx (t := .boolean) Bd.returns (by simp) hlk (hb hby at_178) (by decide) (by decide) (by rw [e65]; exact ⟨rfl, N65⟩)
    · subst q
      refine own_to (T' := T52) (mkF m 36 #[iv p0, iv p1, iv ia, iv ib, iv ic, iv 1, rv aF, iv 2, .unset, .unset, .unset] [(.int (2 : Int32))]) (fun _ k => XS.iload X52.here hx rfl (hb hby at_34) rfl k) ?_
      refine own_to (T' := T52) (mkF m 45 #[iv p0, iv p1, iv ia, iv ib, iv ic, iv 1, rv aF, iv 2, .unset, .unset, .unset] []) (fun _ k => XS.ifYes X52.here hx rfl (pc0 := 36) (pc' := 45) rfl (hb hby at_36) rfl ((if0 _ _).trans (feq (by decide : ¬ ((2 : Int32) = (0 : Int32)))).2) (by decide) (by decide) k) ?_
      refine own_to (T' := T52) (mkF m 47 #[iv p0, iv p1, iv ia, iv ib, iv ic, iv 1, rv aF, iv 2, .unset, .unset, .unset] [(.int (2 : Int32))]) (fun _ k => XS.iload X52.here hx rfl (hb hby at_45) rfl k) ?_
      refine own_to (T' := T52) (mkF m 48 #[iv p0, iv p1, iv ia, iv ib, iv ic, iv 1, rv aF, iv 2, .unset, .unset, .unset] [(.int (1 : Int32)), (.int (2 : Int32))]) (fun _ k => XS.iconst X52.here hx rfl (hb hby at_47) k) ?_
      refine own_to (T' := T52) (mkF m 61 #[iv p0, iv p1, iv ia, iv ib, iv ic, iv 1, rv aF, iv 2, .unset, .unset, .unset] []) (fun _ k => XS.icmpYes X52.here hx rfl (pc0 := 48) (pc' := 61) rfl (hb hby at_48) rfl (feq (by decide : ¬ ((2 : Int32) = (1 : Int32)))).2 (by decide) (by decide) k) ?_
      refine own_to (T' := T52) (mkF m 63 #[iv p0, iv p1, iv ia, iv ib, iv ic, iv 1, rv aF, iv 2, .unset, .unset, .unset] [(.int (2 : Int32))]) (fun _ k => XS.iload X52.here hx rfl (hb hby at_61) rfl k) ?_
      refine own_to (T' := T52) (mkF m 64 #[iv p0, iv p1, iv ia, iv ib, iv ic, iv 1, rv aF, iv 2, .unset, .unset, .unset] [(.int (2 : Int32)), (.int (2 : Int32))]) (fun _ k => XS.iconst X52.here hx rfl (hb hby at_63) k) ?_
      refine own_to (T' := T52) (mkF m 67 #[iv p0, iv p1, iv ia, iv ib, iv ic, iv 1, rv aF, iv 2, .unset, .unset, .unset] []) (fun _ k => XS.icmpNo X52.here hx rfl (hb hby at_64) rfl (teq (by decide : (2 : Int32) = (2 : Int32))).2 k) ?_
      refine own_to (T' := T52) (mkF m 68 #[iv p0, iv p1, iv ia, iv ib, iv ic, iv 1, rv aF, iv 2, .unset, .unset, .unset] [(.int (2 : Int32))]) (fun _ k => XS.iconst X52.here hx rfl (hb hby at_67) k) ?_
      obtain ⟨T66, h66, k66, X66, e66, E66, A66, B66, st66⟩ := newPE X52 hx hZ (hw _ (List.mem_of_getElem? (i := 3) rfl)) e52 (g := (mkF m 68 #[iv p0, iv p1, iv ia, iv ib, iv ic, iv 1, rv aF, iv 2, .unset, .unset, .unset] [(.int (2 : Int32))])) rfl (hb hby at_68) rfl (by decide) (cap := 2) (by decide) (by decide) (by decide) (by decide) (ad := "[I") (by decide)
      obtain ⟨b66, g66⟩ : ∃ z, z = h0.size := ⟨_, rfl⟩
      rw [← g66] at A66 B66 st66
      have sz_b66 : h0.size ≤ b66 := Nat.le_trans KP.1 (Nat.le_of_eq g66.symm)
      have ge_b66 : n0 ≤ b66 := Nat.le_trans Z0 sz_b66
      have OL := OL.ext E66
      have KP := KP.ext E66
      have E_b66 : Exa Z h66 b66 "[I" := B66
      have V_b66 : Arv Z h66 b66 k66 .int (2 : Int32) [(.int (0 : Int32)), (.int (0 : Int32))] (.int (0 : Int32)) := (Arv.new A66 (by decide)).pad (pad_rep [] (.int (0 : Int32)) 2)
      refine own_to (mkF m 70 #[iv p0, iv p1, iv ia, iv ib, iv ic, iv 1, rv aF, iv 2, .unset, .unset, .unset] [(.ref b66)]) st66 ?_
      refine own_to (T' := T66) (mkF m 71 #[iv p0, iv p1, iv ia, iv ib, iv ic, iv 1, rv aF, iv 2, .unset, .unset, .unset] [(.ref b66), (.ref b66)]) (fun _ k => XS.dup X66.here hx rfl (hb hby at_70) rfl rfl k) ?_
      refine own_to (T' := T66) (mkF m 72 #[iv p0, iv p1, iv ia, iv ib, iv ic, iv 1, rv aF, iv 2, .unset, .unset, .unset] [(.int (0 : Int32)), (.ref b66), (.ref b66)]) (fun _ k => XS.iconst X66.here hx rfl (hb hby at_71) k) ?_
      refine own_to (T' := T66) (mkF m 73 #[iv p0, iv p1, iv ia, iv ib, iv ic, iv 1, rv aF, iv 2, .unset, .unset, .unset] [(.int ia), (.int (0 : Int32)), (.ref b66), (.ref b66)]) (fun _ k => XS.iloadN X66.here hx rfl (hb hby at_72) rfl k) ?_
      obtain ⟨cl67, Ar67, q67, S67, M67, H67, G67⟩ := id V_b66
      obtain ⟨T67, h67, X67, e67, W67, st67⟩ := stI X66 hx hZ e66 Ar67 (j := (0 : Int32)) (inb_of S67 ⟨by decide, by decide⟩) (g := (mkF m 73 #[iv p0, iv p1, iv ia, iv ib, iv ic, iv 1, rv aF, iv 2, .unset, .unset, .unset] [(.int ia), (.int (0 : Int32)), (.ref b66), (.ref b66)])) rfl rfl (hb hby at_73)
      refine own_to (mkF m 74 #[iv p0, iv p1, iv ia, iv ib, iv ic, iv 1, rv aF, iv 2, .unset, .unset, .unset] [(.ref b66)]) st67 ?_
      have N67 := Fr.snoc X67 N0 ge_b66
      have tmp67 : Arv Z h67 b66 k66 .int (2 : Int32) [(.int ia), (.int (0 : Int32))] (.int (0 : Int32)) := Arv.set Ar67 q67 S67 M67 H67 G67 rfl W67 0 rfl (Nat.le_of_ble_eq_true rfl)
      have OL := OL.wr W67 ge_b66
      have KP := KP.wr W67 (Or.inr sz_b66)
      have E_b66 := E_b66.wr W67
      have V_b66 := tmp67
      refine own_to (T' := T67) (mkF m 75 #[iv p0, iv p1, iv ia, iv ib, iv ic, iv 1, rv aF, iv 2, .unset, .unset, .unset] [(.ref b66), (.ref b66)]) (fun _ k => XS.dup X67.here hx rfl (hb hby at_74) rfl rfl k) ?_
      refine own_to (T' := T67) (mkF m 76 #[iv p0, iv p1, iv ia, iv ib, iv ic, iv 1, rv aF, iv 2, .unset, .unset, .unset] [(.int (1 : Int32)), (.ref b66), (.ref b66)]) (fun _ k => XS.iconst X67.here hx rfl (hb hby at_75) k) ?_
      refine own_to (T' := T67) (mkF m 77 #[iv p0, iv p1, iv ia, iv ib, iv ic, iv 1, rv aF, iv 2, .unset, .unset, .unset] [(.int ib), (.int (1 : Int32)), (.ref b66), (.ref b66)]) (fun _ k => XS.iloadN X67.here hx rfl (hb hby at_76) rfl k) ?_
      obtain ⟨cl68, Ar68, q68, S68, M68, H68, G68⟩ := id V_b66
      obtain ⟨T68, h68, X68, e68, W68, st68⟩ := stI X67 hx hZ e67 Ar68 (j := (1 : Int32)) (inb_of S68 ⟨by decide, by decide⟩) (g := (mkF m 77 #[iv p0, iv p1, iv ia, iv ib, iv ic, iv 1, rv aF, iv 2, .unset, .unset, .unset] [(.int ib), (.int (1 : Int32)), (.ref b66), (.ref b66)])) rfl rfl (hb hby at_77)
      refine own_to (mkF m 78 #[iv p0, iv p1, iv ia, iv ib, iv ic, iv 1, rv aF, iv 2, .unset, .unset, .unset] [(.ref b66)]) st68 ?_
      have N68 := Fr.snoc X68 N67 ge_b66
      have tmp68 : Arv Z h68 b66 k66 .int (2 : Int32) [(.int ia), (.int ib)] (.int (0 : Int32)) := Arv.set Ar68 q68 S68 M68 H68 G68 rfl W68 1 rfl (Nat.le_of_ble_eq_true rfl)
      have OL := OL.wr W68 ge_b66
      have KP := KP.wr W68 (Or.inr sz_b66)
      have E_b66 := E_b66.wr W68
      have V_b66 := tmp68
      refine own_to (T' := T68) (mkF m 97 #[iv p0, iv p1, iv ia, iv ib, iv ic, iv 1, rv aF, iv 2, .unset, .unset, .unset] [(.ref b66)]) (fun _ k => XS.goto X68.here hx rfl (pc0 := 78) (pc' := 97) rfl (hb hby at_78) (by decide) (by decide) k) ?_
      refine own_to (T' := T68) (mkF m 99 #[iv p0, iv p1, iv ia, iv ib, iv ic, iv 1, rv aF, iv 2, rv b66, .unset, .unset] []) (fun _ k => XS.astore X68.here hx rfl (hb hby at_97) rfl rfl (l' := #[iv p0, iv p1, iv ia, iv ib, iv ic, iv 1, rv aF, iv 2, rv b66, .unset, .unset]) rfl k) ?_
      refine own_to (T' := T68) (mkF m 101 #[iv p0, iv p1, iv ia, iv ib, iv ic, iv 1, rv aF, iv 2, rv b66, .unset, .unset] [(.ref aF)]) (fun _ k => XS.aload X68.here hx rfl (hb hby at_99) rfl rfl k) ?_
      refine own_to (T' := T68) (mkF m 103 #[iv p0, iv p1, iv ia, iv ib, iv ic, iv 1, rv aF, iv 2, rv b66, .unset, .unset] [(.ref b66), (.ref aF)]) (fun _ k => XS.aload X68.here hx rfl (hb hby at_101) rfl rfl k) ?_
      have EE : Exa Z h68 aF "com/example/steady_expansion/steadyexpansion/WordNet$Senses" := EF.ext OL.2
      have KP0 := KP
      obtain ⟨cq69, kq69, q69a, q69b, q69c⟩ := isOf hZ e68 EE
      obtain ⟨_, _, ⟨T69, L69, k69, n69⟩, -, X69, ⟨Lc69, hQ69, l69, y69, z69⟩, st69⟩ := X68.virtualBack hx (y := (⟨"com/example/steady_expansion/steadyexpansion/WordNet$Senses", "offsets", "([I)[I"⟩ : MethodName)) (z := (⟨"com/example/steady_expansion/steadyexpansion/WordNet$Senses", "offsets", "([I)[I"⟩ : MethodName)) hown (mvT hZ (hw _ (List.mem_of_getElem? (i := 4) rfl))) (mvT hZ (hw _ (List.mem_of_getElem? (i := 5) rfl))) (notFace_of_selects (args := #[]) (mvT hZ (hw _ (List.mem_of_getElem? (i := 7) rfl)))) (mvT hZ (hw _ (List.mem_of_getElem? (i := 7) rfl))) (mvT hZ (hw _ (List.mem_of_getElem? (i := 6) rfl))) (by decide) (backOf (W := 0) (own_rm3F_2 l Z a0 hw [] ia ib ic aF b66 k66 h68 n0 (Nat.le_trans Z0 KP.1) OL SF V_b66 E_b66) hZ (hw _ (List.mem_of_getElem? (i := 8) rfl)) (hw _ (List.mem_of_getElem? (i := 1) rfl)) (by decide) (by decide)) q69a q69c (g := (mkF m 103 #[iv p0, iv p1, iv ia, iv ib, iv ic, iv 1, rv aF, iv 2, rv b66, .unset, .unset] [(.ref b66), (.ref aF)])) rfl (by rw [hml]; rfl) (Steps.refl _) (argsL := [(.ref b66)]) (rest := []) (lenOf own_pd2 rfl) rfl (by show 2 * 0 + _ ≤ _; exact Nat.le_of_eq rfl) (hb hby at_103) (fun _ _ => ⟨rfl, e68, (by decide : 1 + 1 ≤ _), (by decide : 2 + 1 ≤ _)⟩)
      dsimp only [Pt.U, Pt.locs, Pt.cells, Pt.slots] at X69 l69 y69 z69 st69 hQ69
      subst l69 y69 z69
      obtain ⟨b69, kb69, rfl, N69q, K69, ge_b69, sz0_b69, V_b69⟩ := hQ69
      have N69 := Fr.app N68 N69q
      have OL := OL.keep K69 all0
      have KP := KP.trans K69 all0
      have E_b66 := E_b66.keep K69
      have V_b66 := V_b66.keep K69 nin0
      have EE := EE.keep K69
      have sz_b69 : h0.size ≤ b69 := Nat.le_trans KP0.1 sz0_b69
      refine own_via (mkF m 106 #[iv p0, iv p1, iv ia, iv ib, iv ic, iv 1, rv aF, iv 2, rv b66, .unset, .unset] [(.ref b69)]) st69 ?_
      refine own_to (T' := T69) (mkF m 108 #[iv p0, iv p1, iv ia, iv ib, iv ic, iv 1, rv aF, iv 2, rv b66, rv b69, .unset] []) (fun _ k => XS.astore X69.here hx rfl (hb hby at_106) rfl rfl (l' := #[iv p0, iv p1, iv ia, iv ib, iv ic, iv 1, rv aF, iv 2, rv b66, rv b69, .unset]) rfl k) ?_
      refine own_to (T' := T69) (mkF m 110 #[iv p0, iv p1, iv ia, iv ib, iv ic, iv 1, rv aF, iv 2, rv b66, rv b69, .unset] [(.ref b69)]) (fun _ k => XS.aload X69.here hx rfl (hb hby at_108) rfl rfl k) ?_
      refine own_to (T' := T69) (mkF m 115 #[iv p0, iv p1, iv ia, iv ib, iv ic, iv 1, rv aF, iv 2, rv b66, rv b69, .unset] []) (fun _ k => XS.ifnonnullYes X69.here hx rfl (pc0 := 110) (pc' := 115) rfl (hb hby at_110) rfl (by decide) (by decide) k) ?_
      refine own_to (T' := T69) (mkF m 117 #[iv p0, iv p1, iv ia, iv ib, iv ic, iv 1, rv aF, iv 2, rv b66, rv b69, .unset] [(.int (1 : Int32))]) (fun _ k => XS.iload X69.here hx rfl (hb hby at_115) rfl k) ?_
      refine own_to (T' := T69) (mkF m 120 #[iv p0, iv p1, iv ia, iv ib, iv ic, iv 1, rv aF, iv 2, rv b66, rv b69, .unset] []) (fun _ k => XS.ifNo X69.here hx rfl (hb hby at_117) rfl ((if0 _ _).trans (feq (by decide : ¬ ((1 : Int32) = (0 : Int32)))).1) k) ?_
      refine own_to (T' := T69) (mkF m 122 #[iv p0, iv p1, iv ia, iv ib, iv ic, iv 1, rv aF, iv 2, rv b66, rv b69, .unset] [(.int (2 : Int32))]) (fun _ k => XS.iload X69.here hx rfl (hb hby at_120) rfl k) ?_
      refine own_to (T' := T69) (mkF m 129 #[iv p0, iv p1, iv ia, iv ib, iv ic, iv 1, rv aF, iv 2, rv b66, rv b69, .unset] []) (fun _ k => XS.ifYes X69.here hx rfl (pc0 := 122) (pc' := 129) rfl (hb hby at_122) rfl ((if0 _ _).trans (feq (by decide : ¬ ((2 : Int32) = (0 : Int32)))).2) (by decide) (by decide) k) ?_
      refine own_to (T' := T69) (mkF m 130 #[iv p0, iv p1, iv ia, iv ib, iv ic, iv 1, rv aF, iv 2, rv b66, rv b69, .unset] [(.int (1 : Int32))]) (fun _ k => XS.iconst X69.here hx rfl (hb hby at_129) k) ?_
      refine own_to (T' := T69) (mkF m 135 #[iv p0, iv p1, iv ia, iv ib, iv ic, iv 1, rv aF, iv 2, rv b66, rv b69, .unset] [(.int (1 : Int32))]) (fun _ k => XS.goto X69.here hx rfl (pc0 := 130) (pc' := 135) rfl (hb hby at_130) (by decide) (by decide) k) ?_
      refine own_to (T' := T69) (mkF m 137 #[iv p0, iv p1, iv ia, iv ib, iv ic, iv 1, rv aF, iv 2, rv b66, rv b69, iv 1] []) (fun _ k => XS.istore X69.here hx rfl (hb hby at_135) rfl (l' := #[iv p0, iv p1, iv ia, iv ib, iv ic, iv 1, rv aF, iv 2, rv b66, rv b69, iv 1]) rfl k) ?_
      refine own_to (T' := T69) (mkF m 139 #[iv p0, iv p1, iv ia, iv ib, iv ic, iv 1, rv aF, iv 2, rv b66, rv b69, iv 1] [(.ref b69)]) (fun _ k => XS.aload X69.here hx rfl (hb hby at_137) rfl rfl k) ?_
      obtain ⟨cl70, Ar70, -, S70, M70, -, -⟩ := id V_b69
      refine own_to (mkF m 140 #[iv p0, iv p1, iv ia, iv ib, iv ic, iv 1, rv aF, iv 2, rv b66, rv b69, iv 1] [(.int (1 : Int32))]) (by have q := X69.arraylength hx Ar70.1 (State.isArrayOf_alike hZ.alike Ar70.2.1) (g := (mkF m 139 #[iv p0, iv p1, iv ia, iv ib, iv ic, iv 1, rv aF, iv 2, rv b66, rv b69, iv 1] [(.ref b69)])) rfl rfl (hb hby at_139); rw [len_of S70 M70] at q; exact q) ?_
      refine own_to (T' := T69) (mkF m 142 #[iv p0, iv p1, iv ia, iv ib, iv ic, iv 1, rv aF, iv 2, rv b66, rv b69, iv 1] [(.int (1 : Int32)), (.int (1 : Int32))]) (fun _ k => XS.iload X69.here hx rfl (hb hby at_140) rfl k) ?_
      refine own_to (T' := T69) (mkF m 147 #[iv p0, iv p1, iv ia, iv ib, iv ic, iv 1, rv aF, iv 2, rv b66, rv b69, iv 1] []) (fun _ k => XS.icmpYes X69.here hx rfl (pc0 := 142) (pc' := 147) rfl (hb hby at_142) rfl (teq (by decide : (1 : Int32) = (1 : Int32))).1 (by decide) (by decide) k) ?_
      refine own_to (T' := T69) (mkF m 149 #[iv p0, iv p1, iv ia, iv ib, iv ic, iv 1, rv aF, iv 2, rv b66, rv b69, iv 1] [(.ref b66)]) (fun _ k => XS.aload X69.here hx rfl (hb hby at_147) rfl rfl k) ?_
      obtain ⟨cl71, Ar71, -, S71, M71, -, -⟩ := id V_b66
      refine own_to (mkF m 150 #[iv p0, iv p1, iv ia, iv ib, iv ic, iv 1, rv aF, iv 2, rv b66, rv b69, iv 1] [(.int (2 : Int32))]) (by have q := X69.arraylength hx Ar71.1 (State.isArrayOf_alike hZ.alike Ar71.2.1) (g := (mkF m 149 #[iv p0, iv p1, iv ia, iv ib, iv ic, iv 1, rv aF, iv 2, rv b66, rv b69, iv 1] [(.ref b66)])) rfl rfl (hb hby at_149); rw [len_of S71 M71] at q; exact q) ?_
      refine own_to (T' := T69) (mkF m 152 #[iv p0, iv p1, iv ia, iv ib, iv ic, iv 1, rv aF, iv 2, rv b66, rv b69, iv 1] [(.int (2 : Int32)), (.int (2 : Int32))]) (fun _ k => XS.iload X69.here hx rfl (hb hby at_150) rfl k) ?_
      refine own_to (T' := T69) (mkF m 155 #[iv p0, iv p1, iv ia, iv ib, iv ic, iv 1, rv aF, iv 2, rv b66, rv b69, iv 1] []) (fun _ k => XS.icmpNo X69.here hx rfl (hb hby at_152) rfl (teq (by decide : (2 : Int32) = (2 : Int32))).2 k) ?_
      refine own_to (T' := T69) (mkF m 157 #[iv p0, iv p1, iv ia, iv ib, iv ic, iv 1, rv aF, iv 2, rv b66, rv b69, iv 1] [(.ref b66)]) (fun _ k => XS.aload X69.here hx rfl (hb hby at_155) rfl rfl k) ?_
      refine own_to (T' := T69) (mkF m 158 #[iv p0, iv p1, iv ia, iv ib, iv ic, iv 1, rv aF, iv 2, rv b66, rv b69, iv 1] [(.int ia), (.ref b66)]) (fun _ k => XS.iloadN X69.here hx rfl (hb hby at_157) rfl k) ?_
      refine own_to (T' := T69) (mkF m 159 #[iv p0, iv p1, iv ia, iv ib, iv ic, iv 1, rv aF, iv 2, rv b66, rv b69, iv 1] [(.int ib), (.int ia), (.ref b66)]) (fun _ k => XS.iloadN X69.here hx rfl (hb hby at_158) rfl k) ?_
      refine own_to (T' := T69) (mkF m 161 #[iv p0, iv p1, iv ia, iv ib, iv ic, iv 1, rv aF, iv 2, rv b66, rv b69, iv 1] [(.int ic), (.int ib), (.int ia), (.ref b66)]) (fun _ k => XS.iload X69.here hx rfl (hb hby at_159) rfl k) ?_
      obtain ⟨_, _, ⟨T72, L72, k72, n72⟩, -, X72, ⟨Lc72, hQ72, l72, y72, z72⟩, st72⟩ := Jvm.LawKit.callS X69 hx (y := (⟨"com/example/steady_expansion/steadyexpansion/SensesOffsetsPinLaw", "prefixMatches", "([IIII)Z"⟩ : MethodName)) hown (mvT hZ (hw _ (List.mem_of_getElem? (i := 11) rfl))) (mvT hZ (hw _ (List.mem_of_getElem? (i := 12) rfl))) (mvT hZ (hw _ (List.mem_of_getElem? (i := 13) rfl))) (mvT hZ (hw _ (List.mem_of_getElem? (i := 14) rfl))) (by decide) (backOf (W := 0) (own_rm4_2 l Z a0 hw [] ia ib ic b66 k66 T69.heap n0 (Nat.le_trans Z0 KP.1) OL V_b66) hZ (hw _ (List.mem_of_getElem? (i := 14) rfl)) (hw _ (List.mem_of_getElem? (i := 13) rfl)) (by decide) (by decide)) (g := (mkF m 161 #[iv p0, iv p1, iv ia, iv ib, iv ic, iv 1, rv aF, iv 2, rv b66, rv b69, iv 1] [(.int ic), (.int ib), (.int ia), (.ref b66)])) rfl (by rw [hml]; rfl) (argsL := [(.ref b66), (.int ia), (.int ib), (.int ic)]) (rest := []) (lenOf own_pd3 rfl) rfl (by show 2 * 0 + _ ≤ _; exact Nat.le_of_eq rfl) (hb hby at_161) (fun _ _ => ⟨rfl, rfl, (by decide : 2 + 0 ≤ _), (by decide : 3 + 0 ≤ _)⟩)
      dsimp only [Pt.U, Pt.locs, Pt.cells, Pt.slots] at X72 l72 y72 z72 st72 hQ72
      subst l72 y72 z72
      obtain ⟨rfl, N72q, e72⟩ := hQ72
      have N72 := Fr.app N69 N72q
      refine own_to (mkF m 164 #[iv p0, iv p1, iv ia, iv ib, iv ic, iv 1, rv aF, iv 2, rv b66, rv b69, iv 1] [(.int (1 : Int32))]) st72 ?_
      refine own_to (T' := T72) (mkF m 169 #[iv p0, iv p1, iv ia, iv ib, iv ic, iv 1, rv aF, iv 2, rv b66, rv b69, iv 1] []) (fun _ k => XS.ifYes X72.here hx rfl (pc0 := 164) (pc' := 169) rfl (hb hby at_164) rfl ((if0 _ _).trans (feq (by decide : ¬ ((1 : Int32) = (0 : Int32)))).2) (by decide) (by decide) k) ?_
      refine own_to (T' := T72) (mkF m 171 #[iv p0, iv p1, iv ia, iv ib, iv ic, iv 1, rv aF, iv 2, rv b66, rv b69, iv 1] [(.ref b69)]) (fun _ k => XS.aload X72.here hx rfl (hb hby at_169) rfl rfl k) ?_
      refine own_to (T' := T72) (mkF m 172 #[iv p0, iv p1, iv ia, iv ib, iv ic, iv 1, rv aF, iv 2, rv b66, rv b69, iv 1] [(.int ia), (.ref b69)]) (fun _ k => XS.iloadN X72.here hx rfl (hb hby at_171) rfl k) ?_
      refine own_to (T' := T72) (mkF m 173 #[iv p0, iv p1, iv ia, iv ib, iv ic, iv 1, rv aF, iv 2, rv b66, rv b69, iv 1] [(.int ib), (.int ia), (.ref b69)]) (fun _ k => XS.iloadN X72.here hx rfl (hb hby at_172) rfl k) ?_
      refine own_to (T' := T72) (mkF m 175 #[iv p0, iv p1, iv ia, iv ib, iv ic, iv 1, rv aF, iv 2, rv b66, rv b69, iv 1] [(.int ic), (.int ib), (.int ia), (.ref b69)]) (fun _ k => XS.iload X72.here hx rfl (hb hby at_173) rfl k) ?_
      obtain ⟨_, _, ⟨T73, L73, k73, n73⟩, -, X73, ⟨Lc73, hQ73, l73, y73, z73⟩, st73⟩ := Jvm.LawKit.callS X72 hx (y := (⟨"com/example/steady_expansion/steadyexpansion/SensesOffsetsPinLaw", "prefixMatches", "([IIII)Z"⟩ : MethodName)) hown (mvT hZ (hw _ (List.mem_of_getElem? (i := 11) rfl))) (mvT hZ (hw _ (List.mem_of_getElem? (i := 12) rfl))) (mvT hZ (hw _ (List.mem_of_getElem? (i := 13) rfl))) (mvT hZ (hw _ (List.mem_of_getElem? (i := 14) rfl))) (by decide) (backOf (W := 0) (own_rm4_1 l Z a0 hw [] ia ib ic b69 kb69 T69.heap n0 (Nat.le_trans Z0 KP.1) OL V_b69) hZ (hw _ (List.mem_of_getElem? (i := 14) rfl)) (hw _ (List.mem_of_getElem? (i := 13) rfl)) (by decide) (by decide)) (g := (mkF m 175 #[iv p0, iv p1, iv ia, iv ib, iv ic, iv 1, rv aF, iv 2, rv b66, rv b69, iv 1] [(.int ic), (.int ib), (.int ia), (.ref b69)])) rfl (by rw [hml]; rfl) (argsL := [(.ref b69), (.int ia), (.int ib), (.int ic)]) (rest := []) (lenOf own_pd3 rfl) rfl (by show 2 * 0 + _ ≤ _; exact Nat.le_of_eq rfl) (hb hby at_175) (fun _ _ => ⟨rfl, e72, (by decide : 2 + 0 ≤ _), (by decide : 3 + 0 ≤ _)⟩)
      dsimp only [Pt.U, Pt.locs, Pt.cells, Pt.slots] at X73 l73 y73 z73 st73 hQ73
      subst l73 y73 z73
      obtain ⟨rfl, N73q, e73⟩ := hQ73
      have N73 := Fr.app N72 N73q
      refine own_to (mkF m 178 #[iv p0, iv p1, iv ia, iv ib, iv ic, iv 1, rv aF, iv 2, rv b66, rv b69, iv 1] [(.int (1 : Int32))]) st73 ?_
      exact own_retN X73 hx (t := .boolean) Bd.returns (by simp) hlk (hb hby at_178) (by decide) (by decide) (by rw [e73]; exact ⟨rfl, N73⟩)
    · subst q
      refine own_to (T' := T52) (mkF m 36 #[iv p0, iv p1, iv ia, iv ib, iv ic, iv 1, rv aF, iv 3, .unset, .unset, .unset] [(.int (3 : Int32))]) (fun _ k => XS.iload X52.here hx rfl (hb hby at_34) rfl k) ?_
      refine own_to (T' := T52) (mkF m 45 #[iv p0, iv p1, iv ia, iv ib, iv ic, iv 1, rv aF, iv 3, .unset, .unset, .unset] []) (fun _ k => XS.ifYes X52.here hx rfl (pc0 := 36) (pc' := 45) rfl (hb hby at_36) rfl ((if0 _ _).trans (feq (by decide : ¬ ((3 : Int32) = (0 : Int32)))).2) (by decide) (by decide) k) ?_
      refine own_to (T' := T52) (mkF m 47 #[iv p0, iv p1, iv ia, iv ib, iv ic, iv 1, rv aF, iv 3, .unset, .unset, .unset] [(.int (3 : Int32))]) (fun _ k => XS.iload X52.here hx rfl (hb hby at_45) rfl k) ?_
      refine own_to (T' := T52) (mkF m 48 #[iv p0, iv p1, iv ia, iv ib, iv ic, iv 1, rv aF, iv 3, .unset, .unset, .unset] [(.int (1 : Int32)), (.int (3 : Int32))]) (fun _ k => XS.iconst X52.here hx rfl (hb hby at_47) k) ?_
      refine own_to (T' := T52) (mkF m 61 #[iv p0, iv p1, iv ia, iv ib, iv ic, iv 1, rv aF, iv 3, .unset, .unset, .unset] []) (fun _ k => XS.icmpYes X52.here hx rfl (pc0 := 48) (pc' := 61) rfl (hb hby at_48) rfl (feq (by decide : ¬ ((3 : Int32) = (1 : Int32)))).2 (by decide) (by decide) k) ?_
      refine own_to (T' := T52) (mkF m 63 #[iv p0, iv p1, iv ia, iv ib, iv ic, iv 1, rv aF, iv 3, .unset, .unset, .unset] [(.int (3 : Int32))]) (fun _ k => XS.iload X52.here hx rfl (hb hby at_61) rfl k) ?_
      refine own_to (T' := T52) (mkF m 64 #[iv p0, iv p1, iv ia, iv ib, iv ic, iv 1, rv aF, iv 3, .unset, .unset, .unset] [(.int (2 : Int32)), (.int (3 : Int32))]) (fun _ k => XS.iconst X52.here hx rfl (hb hby at_63) k) ?_
      refine own_to (T' := T52) (mkF m 81 #[iv p0, iv p1, iv ia, iv ib, iv ic, iv 1, rv aF, iv 3, .unset, .unset, .unset] []) (fun _ k => XS.icmpYes X52.here hx rfl (pc0 := 64) (pc' := 81) rfl (hb hby at_64) rfl (feq (by decide : ¬ ((3 : Int32) = (2 : Int32)))).2 (by decide) (by decide) k) ?_
      refine own_to (T' := T52) (mkF m 82 #[iv p0, iv p1, iv ia, iv ib, iv ic, iv 1, rv aF, iv 3, .unset, .unset, .unset] [(.int (3 : Int32))]) (fun _ k => XS.iconst X52.here hx rfl (hb hby at_81) k) ?_
      obtain ⟨T74, h74, k74, X74, e74, E74, A74, B74, st74⟩ := newPE X52 hx hZ (hw _ (List.mem_of_getElem? (i := 3) rfl)) e52 (g := (mkF m 82 #[iv p0, iv p1, iv ia, iv ib, iv ic, iv 1, rv aF, iv 3, .unset, .unset, .unset] [(.int (3 : Int32))])) rfl (hb hby at_82) rfl (by decide) (cap := 3) (by decide) (by decide) (by decide) (by decide) (ad := "[I") (by decide)
      obtain ⟨b74, g74⟩ : ∃ z, z = h0.size := ⟨_, rfl⟩
      rw [← g74] at A74 B74 st74
      have sz_b74 : h0.size ≤ b74 := Nat.le_trans KP.1 (Nat.le_of_eq g74.symm)
      have ge_b74 : n0 ≤ b74 := Nat.le_trans Z0 sz_b74
      have OL := OL.ext E74
      have KP := KP.ext E74
      have E_b74 : Exa Z h74 b74 "[I" := B74
      have V_b74 : Arv Z h74 b74 k74 .int (3 : Int32) [(.int (0 : Int32)), (.int (0 : Int32)), (.int (0 : Int32))] (.int (0 : Int32)) := (Arv.new A74 (by decide)).pad (pad_rep [] (.int (0 : Int32)) 3)
      refine own_to (mkF m 84 #[iv p0, iv p1, iv ia, iv ib, iv ic, iv 1, rv aF, iv 3, .unset, .unset, .unset] [(.ref b74)]) st74 ?_
      refine own_to (T' := T74) (mkF m 85 #[iv p0, iv p1, iv ia, iv ib, iv ic, iv 1, rv aF, iv 3, .unset, .unset, .unset] [(.ref b74), (.ref b74)]) (fun _ k => XS.dup X74.here hx rfl (hb hby at_84) rfl rfl k) ?_
      refine own_to (T' := T74) (mkF m 86 #[iv p0, iv p1, iv ia, iv ib, iv ic, iv 1, rv aF, iv 3, .unset, .unset, .unset] [(.int (0 : Int32)), (.ref b74), (.ref b74)]) (fun _ k => XS.iconst X74.here hx rfl (hb hby at_85) k) ?_
      refine own_to (T' := T74) (mkF m 87 #[iv p0, iv p1, iv ia, iv ib, iv ic, iv 1, rv aF, iv 3, .unset, .unset, .unset] [(.int ia), (.int (0 : Int32)), (.ref b74), (.ref b74)]) (fun _ k => XS.iloadN X74.here hx rfl (hb hby at_86) rfl k) ?_
      obtain ⟨cl75, Ar75, q75, S75, M75, H75, G75⟩ := id V_b74
      obtain ⟨T75, h75, X75, e75, W75, st75⟩ := stI X74 hx hZ e74 Ar75 (j := (0 : Int32)) (inb_of S75 ⟨by decide, by decide⟩) (g := (mkF m 87 #[iv p0, iv p1, iv ia, iv ib, iv ic, iv 1, rv aF, iv 3, .unset, .unset, .unset] [(.int ia), (.int (0 : Int32)), (.ref b74), (.ref b74)])) rfl rfl (hb hby at_87)
      refine own_to (mkF m 88 #[iv p0, iv p1, iv ia, iv ib, iv ic, iv 1, rv aF, iv 3, .unset, .unset, .unset] [(.ref b74)]) st75 ?_
      have N75 := Fr.snoc X75 N0 ge_b74
      have tmp75 : Arv Z h75 b74 k74 .int (3 : Int32) [(.int ia), (.int (0 : Int32)), (.int (0 : Int32))] (.int (0 : Int32)) := Arv.set Ar75 q75 S75 M75 H75 G75 rfl W75 0 rfl (Nat.le_of_ble_eq_true rfl)
      have OL := OL.wr W75 ge_b74
      have KP := KP.wr W75 (Or.inr sz_b74)
      have E_b74 := E_b74.wr W75
      have V_b74 := tmp75
      refine own_to (T' := T75) (mkF m 89 #[iv p0, iv p1, iv ia, iv ib, iv ic, iv 1, rv aF, iv 3, .unset, .unset, .unset] [(.ref b74), (.ref b74)]) (fun _ k => XS.dup X75.here hx rfl (hb hby at_88) rfl rfl k) ?_
      refine own_to (T' := T75) (mkF m 90 #[iv p0, iv p1, iv ia, iv ib, iv ic, iv 1, rv aF, iv 3, .unset, .unset, .unset] [(.int (1 : Int32)), (.ref b74), (.ref b74)]) (fun _ k => XS.iconst X75.here hx rfl (hb hby at_89) k) ?_
      refine own_to (T' := T75) (mkF m 91 #[iv p0, iv p1, iv ia, iv ib, iv ic, iv 1, rv aF, iv 3, .unset, .unset, .unset] [(.int ib), (.int (1 : Int32)), (.ref b74), (.ref b74)]) (fun _ k => XS.iloadN X75.here hx rfl (hb hby at_90) rfl k) ?_
      obtain ⟨cl76, Ar76, q76, S76, M76, H76, G76⟩ := id V_b74
      obtain ⟨T76, h76, X76, e76, W76, st76⟩ := stI X75 hx hZ e75 Ar76 (j := (1 : Int32)) (inb_of S76 ⟨by decide, by decide⟩) (g := (mkF m 91 #[iv p0, iv p1, iv ia, iv ib, iv ic, iv 1, rv aF, iv 3, .unset, .unset, .unset] [(.int ib), (.int (1 : Int32)), (.ref b74), (.ref b74)])) rfl rfl (hb hby at_91)
      refine own_to (mkF m 92 #[iv p0, iv p1, iv ia, iv ib, iv ic, iv 1, rv aF, iv 3, .unset, .unset, .unset] [(.ref b74)]) st76 ?_
      have N76 := Fr.snoc X76 N75 ge_b74
      have tmp76 : Arv Z h76 b74 k74 .int (3 : Int32) [(.int ia), (.int ib), (.int (0 : Int32))] (.int (0 : Int32)) := Arv.set Ar76 q76 S76 M76 H76 G76 rfl W76 1 rfl (Nat.le_of_ble_eq_true rfl)
      have OL := OL.wr W76 ge_b74
      have KP := KP.wr W76 (Or.inr sz_b74)
      have E_b74 := E_b74.wr W76
      have V_b74 := tmp76
      refine own_to (T' := T76) (mkF m 93 #[iv p0, iv p1, iv ia, iv ib, iv ic, iv 1, rv aF, iv 3, .unset, .unset, .unset] [(.ref b74), (.ref b74)]) (fun _ k => XS.dup X76.here hx rfl (hb hby at_92) rfl rfl k) ?_
      refine own_to (T' := T76) (mkF m 94 #[iv p0, iv p1, iv ia, iv ib, iv ic, iv 1, rv aF, iv 3, .unset, .unset, .unset] [(.int (2 : Int32)), (.ref b74), (.ref b74)]) (fun _ k => XS.iconst X76.here hx rfl (hb hby at_93) k) ?_
      refine own_to (T' := T76) (mkF m 96 #[iv p0, iv p1, iv ia, iv ib, iv ic, iv 1, rv aF, iv 3, .unset, .unset, .unset] [(.int ic), (.int (2 : Int32)), (.ref b74), (.ref b74)]) (fun _ k => XS.iload X76.here hx rfl (hb hby at_94) rfl k) ?_
      obtain ⟨cl77, Ar77, q77, S77, M77, H77, G77⟩ := id V_b74
      obtain ⟨T77, h77, X77, e77, W77, st77⟩ := stI X76 hx hZ e76 Ar77 (j := (2 : Int32)) (inb_of S77 ⟨by decide, by decide⟩) (g := (mkF m 96 #[iv p0, iv p1, iv ia, iv ib, iv ic, iv 1, rv aF, iv 3, .unset, .unset, .unset] [(.int ic), (.int (2 : Int32)), (.ref b74), (.ref b74)])) rfl rfl (hb hby at_96)
      refine own_to (mkF m 97 #[iv p0, iv p1, iv ia, iv ib, iv ic, iv 1, rv aF, iv 3, .unset, .unset, .unset] [(.ref b74)]) st77 ?_
      have N77 := Fr.snoc X77 N76 ge_b74
      have tmp77 : Arv Z h77 b74 k74 .int (3 : Int32) [(.int ia), (.int ib), (.int ic)] (.int (0 : Int32)) := Arv.set Ar77 q77 S77 M77 H77 G77 rfl W77 2 rfl (Nat.le_of_ble_eq_true rfl)
      have OL := OL.wr W77 ge_b74
      have KP := KP.wr W77 (Or.inr sz_b74)
      have E_b74 := E_b74.wr W77
      have V_b74 := tmp77
      refine own_to (T' := T77) (mkF m 99 #[iv p0, iv p1, iv ia, iv ib, iv ic, iv 1, rv aF, iv 3, rv b74, .unset, .unset] []) (fun _ k => XS.astore X77.here hx rfl (hb hby at_97) rfl rfl (l' := #[iv p0, iv p1, iv ia, iv ib, iv ic, iv 1, rv aF, iv 3, rv b74, .unset, .unset]) rfl k) ?_
      refine own_to (T' := T77) (mkF m 101 #[iv p0, iv p1, iv ia, iv ib, iv ic, iv 1, rv aF, iv 3, rv b74, .unset, .unset] [(.ref aF)]) (fun _ k => XS.aload X77.here hx rfl (hb hby at_99) rfl rfl k) ?_
      refine own_to (T' := T77) (mkF m 103 #[iv p0, iv p1, iv ia, iv ib, iv ic, iv 1, rv aF, iv 3, rv b74, .unset, .unset] [(.ref b74), (.ref aF)]) (fun _ k => XS.aload X77.here hx rfl (hb hby at_101) rfl rfl k) ?_
      have EE : Exa Z h77 aF "com/example/steady_expansion/steadyexpansion/WordNet$Senses" := EF.ext OL.2
      have KP0 := KP
      obtain ⟨cq78, kq78, q78a, q78b, q78c⟩ := isOf hZ e77 EE
      obtain ⟨_, _, ⟨T78, L78, k78, n78⟩, -, X78, ⟨Lc78, hQ78, l78, y78, z78⟩, st78⟩ := X77.virtualBack hx (y := (⟨"com/example/steady_expansion/steadyexpansion/WordNet$Senses", "offsets", "([I)[I"⟩ : MethodName)) (z := (⟨"com/example/steady_expansion/steadyexpansion/WordNet$Senses", "offsets", "([I)[I"⟩ : MethodName)) hown (mvT hZ (hw _ (List.mem_of_getElem? (i := 4) rfl))) (mvT hZ (hw _ (List.mem_of_getElem? (i := 5) rfl))) (notFace_of_selects (args := #[]) (mvT hZ (hw _ (List.mem_of_getElem? (i := 7) rfl)))) (mvT hZ (hw _ (List.mem_of_getElem? (i := 7) rfl))) (mvT hZ (hw _ (List.mem_of_getElem? (i := 6) rfl))) (by decide) (backOf (W := 0) (own_rm3F_3 l Z a0 hw [] ia ib ic aF b74 k74 h77 n0 (Nat.le_trans Z0 KP.1) OL SF V_b74 E_b74) hZ (hw _ (List.mem_of_getElem? (i := 8) rfl)) (hw _ (List.mem_of_getElem? (i := 1) rfl)) (by decide) (by decide)) q78a q78c (g := (mkF m 103 #[iv p0, iv p1, iv ia, iv ib, iv ic, iv 1, rv aF, iv 3, rv b74, .unset, .unset] [(.ref b74), (.ref aF)])) rfl (by rw [hml]; rfl) (Steps.refl _) (argsL := [(.ref b74)]) (rest := []) (lenOf own_pd2 rfl) rfl (by show 2 * 0 + _ ≤ _; exact Nat.le_of_eq rfl) (hb hby at_103) (fun _ _ => ⟨rfl, e77, (by decide : 1 + 1 ≤ _), (by decide : 3 + 1 ≤ _)⟩)
      dsimp only [Pt.U, Pt.locs, Pt.cells, Pt.slots] at X78 l78 y78 z78 st78 hQ78
      subst l78 y78 z78
      obtain ⟨b78, kb78, rfl, N78q, K78, ge_b78, sz0_b78, V_b78⟩ := hQ78
      have N78 := Fr.app N77 N78q
      have OL := OL.keep K78 all0
      have KP := KP.trans K78 all0
      have E_b74 := E_b74.keep K78
      have V_b74 := V_b74.keep K78 nin0
      have EE := EE.keep K78
      have sz_b78 : h0.size ≤ b78 := Nat.le_trans KP0.1 sz0_b78
      refine own_via (mkF m 106 #[iv p0, iv p1, iv ia, iv ib, iv ic, iv 1, rv aF, iv 3, rv b74, .unset, .unset] [(.ref b78)]) st78 ?_
      refine own_to (T' := T78) (mkF m 108 #[iv p0, iv p1, iv ia, iv ib, iv ic, iv 1, rv aF, iv 3, rv b74, rv b78, .unset] []) (fun _ k => XS.astore X78.here hx rfl (hb hby at_106) rfl rfl (l' := #[iv p0, iv p1, iv ia, iv ib, iv ic, iv 1, rv aF, iv 3, rv b74, rv b78, .unset]) rfl k) ?_
      refine own_to (T' := T78) (mkF m 110 #[iv p0, iv p1, iv ia, iv ib, iv ic, iv 1, rv aF, iv 3, rv b74, rv b78, .unset] [(.ref b78)]) (fun _ k => XS.aload X78.here hx rfl (hb hby at_108) rfl rfl k) ?_
      refine own_to (T' := T78) (mkF m 115 #[iv p0, iv p1, iv ia, iv ib, iv ic, iv 1, rv aF, iv 3, rv b74, rv b78, .unset] []) (fun _ k => XS.ifnonnullYes X78.here hx rfl (pc0 := 110) (pc' := 115) rfl (hb hby at_110) rfl (by decide) (by decide) k) ?_
      refine own_to (T' := T78) (mkF m 117 #[iv p0, iv p1, iv ia, iv ib, iv ic, iv 1, rv aF, iv 3, rv b74, rv b78, .unset] [(.int (1 : Int32))]) (fun _ k => XS.iload X78.here hx rfl (hb hby at_115) rfl k) ?_
      refine own_to (T' := T78) (mkF m 120 #[iv p0, iv p1, iv ia, iv ib, iv ic, iv 1, rv aF, iv 3, rv b74, rv b78, .unset] []) (fun _ k => XS.ifNo X78.here hx rfl (hb hby at_117) rfl ((if0 _ _).trans (feq (by decide : ¬ ((1 : Int32) = (0 : Int32)))).1) k) ?_
      refine own_to (T' := T78) (mkF m 122 #[iv p0, iv p1, iv ia, iv ib, iv ic, iv 1, rv aF, iv 3, rv b74, rv b78, .unset] [(.int (3 : Int32))]) (fun _ k => XS.iload X78.here hx rfl (hb hby at_120) rfl k) ?_
      refine own_to (T' := T78) (mkF m 129 #[iv p0, iv p1, iv ia, iv ib, iv ic, iv 1, rv aF, iv 3, rv b74, rv b78, .unset] []) (fun _ k => XS.ifYes X78.here hx rfl (pc0 := 122) (pc' := 129) rfl (hb hby at_122) rfl ((if0 _ _).trans (feq (by decide : ¬ ((3 : Int32) = (0 : Int32)))).2) (by decide) (by decide) k) ?_
      refine own_to (T' := T78) (mkF m 130 #[iv p0, iv p1, iv ia, iv ib, iv ic, iv 1, rv aF, iv 3, rv b74, rv b78, .unset] [(.int (1 : Int32))]) (fun _ k => XS.iconst X78.here hx rfl (hb hby at_129) k) ?_
      refine own_to (T' := T78) (mkF m 135 #[iv p0, iv p1, iv ia, iv ib, iv ic, iv 1, rv aF, iv 3, rv b74, rv b78, .unset] [(.int (1 : Int32))]) (fun _ k => XS.goto X78.here hx rfl (pc0 := 130) (pc' := 135) rfl (hb hby at_130) (by decide) (by decide) k) ?_
      refine own_to (T' := T78) (mkF m 137 #[iv p0, iv p1, iv ia, iv ib, iv ic, iv 1, rv aF, iv 3, rv b74, rv b78, iv 1] []) (fun _ k => XS.istore X78.here hx rfl (hb hby at_135) rfl (l' := #[iv p0, iv p1, iv ia, iv ib, iv ic, iv 1, rv aF, iv 3, rv b74, rv b78, iv 1]) rfl k) ?_
      refine own_to (T' := T78) (mkF m 139 #[iv p0, iv p1, iv ia, iv ib, iv ic, iv 1, rv aF, iv 3, rv b74, rv b78, iv 1] [(.ref b78)]) (fun _ k => XS.aload X78.here hx rfl (hb hby at_137) rfl rfl k) ?_
      obtain ⟨cl79, Ar79, -, S79, M79, -, -⟩ := id V_b78
      refine own_to (mkF m 140 #[iv p0, iv p1, iv ia, iv ib, iv ic, iv 1, rv aF, iv 3, rv b74, rv b78, iv 1] [(.int (1 : Int32))]) (by have q := X78.arraylength hx Ar79.1 (State.isArrayOf_alike hZ.alike Ar79.2.1) (g := (mkF m 139 #[iv p0, iv p1, iv ia, iv ib, iv ic, iv 1, rv aF, iv 3, rv b74, rv b78, iv 1] [(.ref b78)])) rfl rfl (hb hby at_139); rw [len_of S79 M79] at q; exact q) ?_
      refine own_to (T' := T78) (mkF m 142 #[iv p0, iv p1, iv ia, iv ib, iv ic, iv 1, rv aF, iv 3, rv b74, rv b78, iv 1] [(.int (1 : Int32)), (.int (1 : Int32))]) (fun _ k => XS.iload X78.here hx rfl (hb hby at_140) rfl k) ?_
      refine own_to (T' := T78) (mkF m 147 #[iv p0, iv p1, iv ia, iv ib, iv ic, iv 1, rv aF, iv 3, rv b74, rv b78, iv 1] []) (fun _ k => XS.icmpYes X78.here hx rfl (pc0 := 142) (pc' := 147) rfl (hb hby at_142) rfl (teq (by decide : (1 : Int32) = (1 : Int32))).1 (by decide) (by decide) k) ?_
      refine own_to (T' := T78) (mkF m 149 #[iv p0, iv p1, iv ia, iv ib, iv ic, iv 1, rv aF, iv 3, rv b74, rv b78, iv 1] [(.ref b74)]) (fun _ k => XS.aload X78.here hx rfl (hb hby at_147) rfl rfl k) ?_
      obtain ⟨cl80, Ar80, -, S80, M80, -, -⟩ := id V_b74
      refine own_to (mkF m 150 #[iv p0, iv p1, iv ia, iv ib, iv ic, iv 1, rv aF, iv 3, rv b74, rv b78, iv 1] [(.int (3 : Int32))]) (by have q := X78.arraylength hx Ar80.1 (State.isArrayOf_alike hZ.alike Ar80.2.1) (g := (mkF m 149 #[iv p0, iv p1, iv ia, iv ib, iv ic, iv 1, rv aF, iv 3, rv b74, rv b78, iv 1] [(.ref b74)])) rfl rfl (hb hby at_149); rw [len_of S80 M80] at q; exact q) ?_
      refine own_to (T' := T78) (mkF m 152 #[iv p0, iv p1, iv ia, iv ib, iv ic, iv 1, rv aF, iv 3, rv b74, rv b78, iv 1] [(.int (3 : Int32)), (.int (3 : Int32))]) (fun _ k => XS.iload X78.here hx rfl (hb hby at_150) rfl k) ?_
      refine own_to (T' := T78) (mkF m 155 #[iv p0, iv p1, iv ia, iv ib, iv ic, iv 1, rv aF, iv 3, rv b74, rv b78, iv 1] []) (fun _ k => XS.icmpNo X78.here hx rfl (hb hby at_152) rfl (teq (by decide : (3 : Int32) = (3 : Int32))).2 k) ?_
      refine own_to (T' := T78) (mkF m 157 #[iv p0, iv p1, iv ia, iv ib, iv ic, iv 1, rv aF, iv 3, rv b74, rv b78, iv 1] [(.ref b74)]) (fun _ k => XS.aload X78.here hx rfl (hb hby at_155) rfl rfl k) ?_
      refine own_to (T' := T78) (mkF m 158 #[iv p0, iv p1, iv ia, iv ib, iv ic, iv 1, rv aF, iv 3, rv b74, rv b78, iv 1] [(.int ia), (.ref b74)]) (fun _ k => XS.iloadN X78.here hx rfl (hb hby at_157) rfl k) ?_
      refine own_to (T' := T78) (mkF m 159 #[iv p0, iv p1, iv ia, iv ib, iv ic, iv 1, rv aF, iv 3, rv b74, rv b78, iv 1] [(.int ib), (.int ia), (.ref b74)]) (fun _ k => XS.iloadN X78.here hx rfl (hb hby at_158) rfl k) ?_
      refine own_to (T' := T78) (mkF m 161 #[iv p0, iv p1, iv ia, iv ib, iv ic, iv 1, rv aF, iv 3, rv b74, rv b78, iv 1] [(.int ic), (.int ib), (.int ia), (.ref b74)]) (fun _ k => XS.iload X78.here hx rfl (hb hby at_159) rfl k) ?_
      obtain ⟨_, _, ⟨T81, L81, k81, n81⟩, -, X81, ⟨Lc81, hQ81, l81, y81, z81⟩, st81⟩ := Jvm.LawKit.callS X78 hx (y := (⟨"com/example/steady_expansion/steadyexpansion/SensesOffsetsPinLaw", "prefixMatches", "([IIII)Z"⟩ : MethodName)) hown (mvT hZ (hw _ (List.mem_of_getElem? (i := 11) rfl))) (mvT hZ (hw _ (List.mem_of_getElem? (i := 12) rfl))) (mvT hZ (hw _ (List.mem_of_getElem? (i := 13) rfl))) (mvT hZ (hw _ (List.mem_of_getElem? (i := 14) rfl))) (by decide) (backOf (W := 0) (own_rm4_3 l Z a0 hw [] ia ib ic b74 k74 T78.heap n0 (Nat.le_trans Z0 KP.1) OL V_b74) hZ (hw _ (List.mem_of_getElem? (i := 14) rfl)) (hw _ (List.mem_of_getElem? (i := 13) rfl)) (by decide) (by decide)) (g := (mkF m 161 #[iv p0, iv p1, iv ia, iv ib, iv ic, iv 1, rv aF, iv 3, rv b74, rv b78, iv 1] [(.int ic), (.int ib), (.int ia), (.ref b74)])) rfl (by rw [hml]; rfl) (argsL := [(.ref b74), (.int ia), (.int ib), (.int ic)]) (rest := []) (lenOf own_pd3 rfl) rfl (by show 2 * 0 + _ ≤ _; exact Nat.le_of_eq rfl) (hb hby at_161) (fun _ _ => ⟨rfl, rfl, (by decide : 2 + 0 ≤ _), (by decide : 4 + 0 ≤ _)⟩)
      dsimp only [Pt.U, Pt.locs, Pt.cells, Pt.slots] at X81 l81 y81 z81 st81 hQ81
      subst l81 y81 z81
      obtain ⟨rfl, N81q, e81⟩ := hQ81
      have N81 := Fr.app N78 N81q
      refine own_to (mkF m 164 #[iv p0, iv p1, iv ia, iv ib, iv ic, iv 1, rv aF, iv 3, rv b74, rv b78, iv 1] [(.int (1 : Int32))]) st81 ?_
      refine own_to (T' := T81) (mkF m 169 #[iv p0, iv p1, iv ia, iv ib, iv ic, iv 1, rv aF, iv 3, rv b74, rv b78, iv 1] []) (fun _ k => XS.ifYes X81.here hx rfl (pc0 := 164) (pc' := 169) rfl (hb hby at_164) rfl ((if0 _ _).trans (feq (by decide : ¬ ((1 : Int32) = (0 : Int32)))).2) (by decide) (by decide) k) ?_
      refine own_to (T' := T81) (mkF m 171 #[iv p0, iv p1, iv ia, iv ib, iv ic, iv 1, rv aF, iv 3, rv b74, rv b78, iv 1] [(.ref b78)]) (fun _ k => XS.aload X81.here hx rfl (hb hby at_169) rfl rfl k) ?_
      refine own_to (T' := T81) (mkF m 172 #[iv p0, iv p1, iv ia, iv ib, iv ic, iv 1, rv aF, iv 3, rv b74, rv b78, iv 1] [(.int ia), (.ref b78)]) (fun _ k => XS.iloadN X81.here hx rfl (hb hby at_171) rfl k) ?_
      refine own_to (T' := T81) (mkF m 173 #[iv p0, iv p1, iv ia, iv ib, iv ic, iv 1, rv aF, iv 3, rv b74, rv b78, iv 1] [(.int ib), (.int ia), (.ref b78)]) (fun _ k => XS.iloadN X81.here hx rfl (hb hby at_172) rfl k) ?_
      refine own_to (T' := T81) (mkF m 175 #[iv p0, iv p1, iv ia, iv ib, iv ic, iv 1, rv aF, iv 3, rv b74, rv b78, iv 1] [(.int ic), (.int ib), (.int ia), (.ref b78)]) (fun _ k => XS.iload X81.here hx rfl (hb hby at_173) rfl k) ?_
      obtain ⟨_, _, ⟨T82, L82, k82, n82⟩, -, X82, ⟨Lc82, hQ82, l82, y82, z82⟩, st82⟩ := Jvm.LawKit.callS X81 hx (y := (⟨"com/example/steady_expansion/steadyexpansion/SensesOffsetsPinLaw", "prefixMatches", "([IIII)Z"⟩ : MethodName)) hown (mvT hZ (hw _ (List.mem_of_getElem? (i := 11) rfl))) (mvT hZ (hw _ (List.mem_of_getElem? (i := 12) rfl))) (mvT hZ (hw _ (List.mem_of_getElem? (i := 13) rfl))) (mvT hZ (hw _ (List.mem_of_getElem? (i := 14) rfl))) (by decide) (backOf (W := 0) (own_rm4_1 l Z a0 hw [] ia ib ic b78 kb78 T78.heap n0 (Nat.le_trans Z0 KP.1) OL V_b78) hZ (hw _ (List.mem_of_getElem? (i := 14) rfl)) (hw _ (List.mem_of_getElem? (i := 13) rfl)) (by decide) (by decide)) (g := (mkF m 175 #[iv p0, iv p1, iv ia, iv ib, iv ic, iv 1, rv aF, iv 3, rv b74, rv b78, iv 1] [(.int ic), (.int ib), (.int ia), (.ref b78)])) rfl (by rw [hml]; rfl) (argsL := [(.ref b78), (.int ia), (.int ib), (.int ic)]) (rest := []) (lenOf own_pd3 rfl) rfl (by show 2 * 0 + _ ≤ _; exact Nat.le_of_eq rfl) (hb hby at_175) (fun _ _ => ⟨rfl, e81, (by decide : 2 + 0 ≤ _), (by decide : 4 + 0 ≤ _)⟩)
      dsimp only [Pt.U, Pt.locs, Pt.cells, Pt.slots] at X82 l82 y82 z82 st82 hQ82
      subst l82 y82 z82
      obtain ⟨rfl, N82q, e82⟩ := hQ82
      have N82 := Fr.app N81 N82q
      refine own_to (mkF m 178 #[iv p0, iv p1, iv ia, iv ib, iv ic, iv 1, rv aF, iv 3, rv b74, rv b78, iv 1] [(.int (1 : Int32))]) st82 ?_
      exact own_retN X82 hx (t := .boolean) Bd.returns (by simp) hlk (hb hby at_178) (by decide) (by decide) (by rw [e82]; exact ⟨rfl, N82⟩)
set_option maxRecDepth 65536 in
set_option maxHeartbeats 40000000 in
theorem own_comes {Post : Tables → Env → Array Value → State → Outcome → State → Prop} (hpost : ∀ tb e args s v u, (limb_1_1.after args s (.returned v) u = true ∧ limb_1_2.after args s (.returned v) u = true ∧ True) → FrameEnd s (.returned v) u (Jvm.fieldLocs frame_1_writes args s ++ Jvm.arrayLocs frame_1_arrays args s ++ Jvm.staticLocs frame_1_statics s) 16 128 → Post tb e args s (.returned v) u) :
    ArmFor flags0 classFile x code maxLocals ret World_1 tables_1 room_1 Calls_1 rest_1 Pre_1 Post := by
  intro l hfl _ _ p e ha hc hk s m args below hf hA hF happ hP
  obtain ⟨hcalls, hrest, hpre⟩ := hP
  obtain ⟨-, -, -, hnamed, -, -, -, hat⟩ := (Spec.applies_iff hf).mp happ
  obtain ⟨hg, hn⟩ := and_e (Cond.before_iff.mp (show (Jvm.Cond.and given_1 narrow_1).before args s = true from hpre))
  obtain ⟨hg0, hgr0⟩ := and_e hg
  obtain ⟨hg1, hgr1⟩ := and_e hgr0
  obtain ⟨hg2, hgr2⟩ := and_e hgr1
  obtain ⟨hg3, hgr3⟩ := and_e hgr2
  obtain ⟨hg4, hgr4⟩ := and_e hgr3
  obtain ⟨w0, w1, w2, w3, w4, rfl⟩ : ∃ w0 w1 w2 w3 w4 : Value, args = #[w0, w1, w2, w3, w4] := by
    have hs : args.size = 5 := by simpa [Cond.value, given_1] using hg0
    obtain ⟨L⟩ := args
    match L, hs with
    | [w0, w1, w2, w3, w4], _ => exact ⟨w0, w1, w2, w3, w4, rfl⟩
  have hw := fun d (hd : d ∈ tables_1) => atoms_spec (ws := Jvm.Cond.code x code maxLocals ret :: tables_1) hat d (List.mem_cons_of_mem _ hd)
  have hfit : Fit s := fun {y c} hc i hi => by
    obtain ⟨ha, rfl⟩ := Array.getElem?_eq_some_iff.mp hc
    have q := List.all_eq_true.mp ((Array.all_eq_true_iff_forall_mem.mp hF) _ (Array.getElem_mem ha)) i (List.mem_range.mpr hi)
    simpa [Array.getElem?_eq_getElem hi] using q
  obtain ⟨i0, ei0⟩ := is_v hg1
  obtain rfl : w0 = (.int i0) := Option.some.inj ei0
  obtain ⟨i1, ei1⟩ := is_v hg2
  obtain rfl : w1 = (.int i1) := Option.some.inj ei1
  obtain ⟨i2, ei2⟩ := is_v hg3
  obtain rfl : w2 = (.int i2) := Option.some.inj ei2
  obtain ⟨i3, ei3⟩ := is_v hg4
  obtain rfl : w3 = (.int i3) := Option.some.inj ei3
  obtain ⟨i4, ei4⟩ := is_v hgr4
  obtain rfl : w4 = (.int i4) := Option.some.inj ei4
  obtain ⟨hxA, hr0⟩ := and_e hn
  obtain ⟨hxF, hr1⟩ := and_e hr0
  obtain ⟨hoA, hoF⟩ := and_e hr1
  obtain ⟨aA, eA⟩ := exa_v hxA
  have SA : Sta s s.heap "com/example/steady_expansion/steadyexpansion/WordNet$Senses" "ALL" "Lcom/example/steady_expansion/steadyexpansion/WordNet$Senses;" (.ref aA) := Sta.start eA (Or.inr ⟨(hw _ (List.mem_of_getElem? (i := 1) rfl)), (hw _ (List.mem_of_getElem? (i := 2) rfl))⟩)
  have EA := Exa.start eA hxA
  have OA := own_fldI eA hoA
  obtain ⟨aF, eF⟩ := exa_v hxF
  have SF : Sta s s.heap "com/example/steady_expansion/steadyexpansion/WordNet$Senses" "FIRST" "Lcom/example/steady_expansion/steadyexpansion/WordNet$Senses;" (.ref aF) := Sta.start eF (Or.inr ⟨(hw _ (List.mem_of_getElem? (i := 1) rfl)), (hw _ (List.mem_of_getElem? (i := 10) rfl))⟩)
  have EF := Exa.start eF hxF
  have OF := own_fldI eF hoF
  have ne_aA_aF : aA ≠ aF := Fld.ne OA OF (by decide)
  obtain ⟨n, o, h1, h2, h3, _, L, rfl, ⟨rfl, N⟩, hq⟩ := own_rm0 l s _ hw tables_1 i0 i1 i2 i3 i4 aF aA s.heap s.heap.size (Nat.le_refl _) (Old.start s) SF SA EF EA ne_aA_aF p e ha hc hk s m _ below hf ((Spec.applies_iff_loose hf).mp happ).1 ⟨rfl, State.Warmed39.refl s, rfl⟩ trivial
  refine ⟨n, _, h1, h2, h3, hpost _ _ _ _ _ _ ⟨Cond.after_iff.mpr rfl, Cond.after_iff.mpr (eq_i res_at (Term.int_eval (1)) rfl), trivial⟩ ⟨hq.1, hq.2.1, (hq.2.2.sift fun y hy => Or.inr (N y hy)).mono (by decide) (by decide)⟩⟩
theorem main_1_1 : Claimed_1_1 := own_comes fun _ _ _ _ _ _ h hF => ⟨h.1, hF⟩
theorem main_1_2 : Claimed_1_2 := own_comes fun _ _ _ _ _ _ h hF => ⟨h.2.1, hF⟩
end Jvm.Pilot.@@N@@
namespace Jvm.Pilot.@@N@@
open Jvm Jvm.ClassFile Sem Op Lib Jvm.Free Jvm.Stand Jvm.Pilot.@@N@@.Jvm.D
/-! MADE BY PROGRAM (witnessworld.py) out of the Statement's table words and the real class files: 15 classes; the members and pool entries that the words name. The judged class is class 1, her method 1. -/
namespace start1
open Jvm.ClassFile
def u (s : String) : CpInfo := .utf8 (stringToUtf16 s)
/-- a pool by its gaps: so many unusable entries, then the entry; so many at the end -/
def gap : Nat → List CpInfo → List CpInfo
  | 0, r => r
  | n + 1, r => .unusable :: gap n r
def poolList (es : List (Nat × CpInfo)) (last : Nat) : List CpInfo := es.foldr (fun e r => gap e.1 (e.2 :: r)) (gap last [])
def pool (es : List (Nat × CpInfo)) (last : Nat) : Array CpInfo := ⟨poolList es last⟩
def fileOf (pool : Array CpInfo) (this : Nat) (attrs : Array Attribute := #[]) (ms : Array MethodInfo := #[]) (fl : Nat := 33) (sup : Nat := 0) (ifs : Array Nat := #[]) (fds : Array FieldInfo := #[]) : ClassFile where
  minorVersion := 0
  majorVersion := 65
  constantPool := pool
  accessFlags := fl
  thisClass := this
  superClass := sup
  interfaces := ifs
  fields := fds
  methods := ms
  attributes := attrs
def plain (name : String) (sup : Option ClassId) : Class where
  name := name
  kind := .ordinary
  loader := none
  accessFlags := 33
  super := sup
  interfaces := #[]
  cf := none
  fields := #[]
  methods := #[]
  instanceTypes := #[]
  staticTypes := #[]
  resolved := #[]
  callSites := []
  init := .initialized
  statics := none
  mirror := none

def pool0 : Array CpInfo := pool [(5, u "<init>"), (0, u "()V"), (1, .class_ 10), (1, u "java/lang/Object"), (85, u "clone"), (0, u "()Ljava/lang/Object;")] 26

def k0m0 : Method := { name := "<init>", desc := "()V", sig := { parameters := [], returnType := none }, accessFlags := 1, code := none }
def k0m1 : Method := { name := "clone", desc := "()Ljava/lang/Object;", sig := { parameters := [], returnType := some (.object "java/lang/Object") }, accessFlags := 260, code := none }
/-- java/lang/Object -/
def k0 : Class := { plain "java/lang/Object" none with
  accessFlags := 33
  interfaces := #[]
  cf := some (fileOf pool0 8 #[] #[{ accessFlags := 1, nameIndex := 5, descriptorIndex := 6, attributes := #[] }, { accessFlags := 260, nameIndex := 96, descriptorIndex := 97, attributes := #[] }] 33 0 #[] #[])
  fields := #[]
  methods := #[k0m0, k0m1]
  instanceTypes := #[]
  staticTypes := #[]
  resolved := Array.replicate 124 none
  statics := none }

def pool1 : Array CpInfo := pool [(2, .class_ 4), (1, u "java/lang/Object"), (0, u "<init>"), (0, u "()V"), (0, .fieldref 8 9), (0, .class_ 10), (0, .nameAndType 11 12), (0, u "com/example/steady_expansion/steadyexpansion/WordNet$Senses"), (0, u "FIRST"), (0, u "Lcom/example/steady_expansion/steadyexpansion/WordNet$Senses;"), (0, .fieldref 8 14), (0, .nameAndType 15 12), (0, u "ALL"), (0, .methodref 8 17), (0, .nameAndType 18 19), (0, u "offsets"), (0, u "([I)[I"), (0, .methodref 21 22), (0, .class_ 23), (0, .nameAndType 24 25), (0, u "com/example/steady_expansion/steadyexpansion/SensesOffsetsPinLaw"), (0, u "prefixMatches"), (0, u "([IIII)Z"), (2, u "law"), (0, u "(IIIII)Z")] 9

def k1m0 : Method := { name := "<init>", desc := "()V", sig := { parameters := [], returnType := none }, accessFlags := 2, code := none }
def k1c1 : Code := { maxStack := 4, maxLocals := 11, code := code, exceptionTable := #[], attributes := #[] }
def k1m1 : Method := { name := "law", desc := "(IIIII)Z", sig := { parameters := [.int, .int, .int, .int, .int], returnType := some .boolean }, accessFlags := 9, code := some k1c1 }
def k1c2 : Code := { maxStack := 2, maxLocals := 4, code := method_3_code, exceptionTable := #[], attributes := #[] }
def k1m2 : Method := { name := "prefixMatches", desc := "([IIII)Z", sig := { parameters := [(.array .int), .int, .int, .int], returnType := some .boolean }, accessFlags := 10, code := some k1c2 }
/-- com/example/steady_expansion/steadyexpansion/SensesOffsetsPinLaw -/
def k1 : Class := { plain "com/example/steady_expansion/steadyexpansion/SensesOffsetsPinLaw" (some 0) with
  accessFlags := 49
  interfaces := #[]
  cf := some (fileOf pool1 21 #[] #[{ accessFlags := 2, nameIndex := 5, descriptorIndex := 6, attributes := #[] }, { accessFlags := 9, nameIndex := 28, descriptorIndex := 29, attributes := #[] }, { accessFlags := 10, nameIndex := 24, descriptorIndex := 25, attributes := #[] }] 49 2 #[] #[])
  fields := #[]
  methods := #[k1m0, k1m1, k1m2]
  instanceTypes := #[]
  staticTypes := #[]
  resolved := Array.replicate 39 none
  statics := none }

def pool2 : Array CpInfo := pool [(1, .class_ 2), (0, u "java/lang/constant/Constable"), (0, .class_ 4), (0, u "java/lang/Object")] 6

/-- java/lang/constant/Constable -/
def k2 : Class := { plain "java/lang/constant/Constable" (some 0) with
  accessFlags := 1537
  interfaces := #[]
  cf := some (fileOf pool2 1 #[] #[] 1537 3 #[] #[])
  fields := #[]
  methods := #[]
  instanceTypes := #[]
  staticTypes := #[]
  resolved := Array.replicate 11 none
  statics := none }

def pool3 : Array CpInfo := pool [(1, .class_ 2), (0, u "java/lang/Comparable"), (0, .class_ 4), (0, u "java/lang/Object")] 7

/-- java/lang/Comparable -/
def k3 : Class := { plain "java/lang/Comparable" (some 0) with
  accessFlags := 1537
  interfaces := #[]
  cf := some (fileOf pool3 1 #[] #[] 1537 3 #[] #[])
  fields := #[]
  methods := #[]
  instanceTypes := #[]
  staticTypes := #[]
  resolved := Array.replicate 12 none
  statics := none }

def pool4 : Array CpInfo := pool [(1, .class_ 2), (0, u "java/io/Serializable"), (0, .class_ 4), (0, u "java/lang/Object")] 2

/-- java/io/Serializable -/
def k4 : Class := { plain "java/io/Serializable" (some 0) with
  accessFlags := 1537
  interfaces := #[]
  cf := some (fileOf pool4 1 #[] #[] 1537 3 #[] #[])
  fields := #[]
  methods := #[]
  instanceTypes := #[]
  staticTypes := #[]
  resolved := Array.replicate 7 none
  statics := none }

def pool5 : Array CpInfo := pool [(2, .class_ 4), (1, u "java/lang/Enum"), (0, u "name"), (0, u "Ljava/lang/String;"), (2, u "ordinal"), (0, u "I"), (1, .class_ 14), (1, u "java/lang/Object"), (4, u "hash"), (86, .class_ 108), (1, u "java/lang/Enum$EnumDesc"), (2, .class_ 112), (0, u "java/lang/constant/Constable"), (0, .class_ 114), (0, u "java/lang/Comparable"), (0, .class_ 116), (0, u "java/io/Serializable")] 87

/-- java/lang/Enum -/
def k5 : Class := { plain "java/lang/Enum" (some 0) with
  accessFlags := 1057
  interfaces := #[2, 3, 4]
  cf := some (fileOf pool5 2 #[.nestMembers #[106]] #[] 1057 12 #[111, 113, 115] #[{ accessFlags := 18, nameIndex := 5, descriptorIndex := 6, attributes := #[] }, { accessFlags := 18, nameIndex := 9, descriptorIndex := 10, attributes := #[] }, { accessFlags := 2, nameIndex := 19, descriptorIndex := 10, attributes := #[] }])
  fields := #[{ name := "name", type := (.object "java/lang/String"), accessFlags := 18, slot := 0, constantValue := 0 }, { name := "ordinal", type := .int, accessFlags := 18, slot := 1, constantValue := 0 }, { name := "hash", type := .int, accessFlags := 2, slot := 2, constantValue := 0 }]
  methods := #[]
  instanceTypes := #[(.object "java/lang/String"), .int, .int]
  staticTypes := #[]
  resolved := Array.replicate 204 none
  statics := none }

def pool6 : Array CpInfo := pool [(1, .class_ 2), (0, u "com/example/steady_expansion/steadyexpansion/WordNet$Senses"), (2, u "ALL"), (0, u "Lcom/example/steady_expansion/steadyexpansion/WordNet$Senses;"), (0, .fieldref 1 8), (0, .nameAndType 9 6), (0, u "FIRST"), (2, u "$VALUES"), (0, u "[Lcom/example/steady_expansion/steadyexpansion/WordNet$Senses;"), (6, .class_ 22), (1, u "java/lang/Enum"), (22, .methodref 46 47), (0, .class_ 48), (0, .nameAndType 49 50), (0, u "java/lang/Math"), (0, u "min"), (0, u "(II)I"), (0, .methodref 52 53), (0, .class_ 54), (0, .nameAndType 55 56), (0, u "java/util/Arrays"), (0, u "copyOf"), (0, u "([II)[I"), (15, u "offsets"), (0, u "([I)[I"), (8, .class_ 83), (0, u "com/example/steady_expansion/steadyexpansion/WordNet")] 2

def k6c0 : Code := { maxStack := 3, maxLocals := 2, code := prog_36_method_5_code, exceptionTable := #[], attributes := #[] }
def k6m0 : Method := { name := "offsets", desc := "([I)[I", sig := { parameters := [(.array .int)], returnType := some (.array .int) }, accessFlags := 0, code := some k6c0 }
/-- com/example/steady_expansion/steadyexpansion/WordNet$Senses -/
def k6 : Class := { plain "com/example/steady_expansion/steadyexpansion/WordNet$Senses" (some 5) with
  accessFlags := 16433
  interfaces := #[]
  cf := some (fileOf pool6 1 #[.nestHost 82] #[{ accessFlags := 0, nameIndex := 72, descriptorIndex := 73, attributes := #[] }] 16433 20 #[] #[{ accessFlags := 16409, nameIndex := 5, descriptorIndex := 6, attributes := #[] }, { accessFlags := 16409, nameIndex := 9, descriptorIndex := 6, attributes := #[] }, { accessFlags := 4122, nameIndex := 12, descriptorIndex := 13, attributes := #[] }])
  fields := #[{ name := "ALL", type := (.object "com/example/steady_expansion/steadyexpansion/WordNet$Senses"), accessFlags := 16409, slot := 0, constantValue := 0 }, { name := "FIRST", type := (.object "com/example/steady_expansion/steadyexpansion/WordNet$Senses"), accessFlags := 16409, slot := 1, constantValue := 0 }, { name := "$VALUES", type := (.array (.object "com/example/steady_expansion/steadyexpansion/WordNet$Senses")), accessFlags := 4122, slot := 2, constantValue := 0 }]
  methods := #[k6m0]
  instanceTypes := #[(.object "java/lang/String"), .int, .int]
  staticTypes := #[(.object "com/example/steady_expansion/steadyexpansion/WordNet$Senses"), (.object "com/example/steady_expansion/steadyexpansion/WordNet$Senses"), (.array (.object "com/example/steady_expansion/steadyexpansion/WordNet$Senses"))]
  resolved := Array.replicate 86 none
  statics := some 0 }

def pool7 : Array CpInfo := pool [(1, .class_ 2), (0, u "java/lang/Math"), (1, .class_ 6), (1, u "java/lang/Object"), (0, u "<init>"), (0, u "()V"), (89, .class_ 100), (1, u "java/lang/Math$RandomNumberGeneratorHolder"), (71, u "negativeZeroFloatBits"), (0, u "J"), (2, u "negativeZeroDoubleBits"), (24, u "min"), (43, u "$assertionsDisabled"), (0, u "Z"), (88, u "(II)I"), (2, u "twoToTheDoubleScaleDown"), (0, u "D"), (4, u "twoToTheDoubleScaleUp"), (9, u "E"), (3, u "PI"), (2, u "TAU"), (2, u "DEGREES_TO_RADIANS"), (0, u "RADIANS_TO_DEGREES")] 94

def k7m0 : Method := { name := "<init>", desc := "()V", sig := { parameters := [], returnType := none }, accessFlags := 2, code := none }
def k7c1 : Code := { maxStack := 2, maxLocals := 2, code := jdk_29_method_69_code, exceptionTable := #[], attributes := #[] }
def k7m1 : Method := { name := "min", desc := "(II)I", sig := { parameters := [.int, .int], returnType := some .int }, accessFlags := 9, code := some k7c1 }
/-- java/lang/Math -/
def k7 : Class := { plain "java/lang/Math" (some 0) with
  accessFlags := 49
  interfaces := #[]
  cf := some (fileOf pool7 1 #[.nestMembers #[98]] #[{ accessFlags := 2, nameIndex := 7, descriptorIndex := 8, attributes := #[] }, { accessFlags := 9, nameIndex := 201, descriptorIndex := 335, attributes := #[] }] 49 4 #[] #[{ accessFlags := 25, nameIndex := 354, descriptorIndex := 339, attributes := #[] }, { accessFlags := 25, nameIndex := 358, descriptorIndex := 339, attributes := #[] }, { accessFlags := 25, nameIndex := 361, descriptorIndex := 339, attributes := #[] }, { accessFlags := 26, nameIndex := 364, descriptorIndex := 339, attributes := #[] }, { accessFlags := 26, nameIndex := 365, descriptorIndex := 339, attributes := #[] }, { accessFlags := 26, nameIndex := 172, descriptorIndex := 173, attributes := #[] }, { accessFlags := 26, nameIndex := 176, descriptorIndex := 173, attributes := #[] }, { accessFlags := 8, nameIndex := 344, descriptorIndex := 339, attributes := #[] }, { accessFlags := 8, nameIndex := 338, descriptorIndex := 339, attributes := #[] }, { accessFlags := 4120, nameIndex := 245, descriptorIndex := 246, attributes := #[] }])
  fields := #[{ name := "E", type := .double, accessFlags := 25, slot := 0, constantValue := 0 }, { name := "PI", type := .double, accessFlags := 25, slot := 1, constantValue := 0 }, { name := "TAU", type := .double, accessFlags := 25, slot := 2, constantValue := 0 }, { name := "DEGREES_TO_RADIANS", type := .double, accessFlags := 26, slot := 3, constantValue := 0 }, { name := "RADIANS_TO_DEGREES", type := .double, accessFlags := 26, slot := 4, constantValue := 0 }, { name := "negativeZeroFloatBits", type := .long, accessFlags := 26, slot := 5, constantValue := 0 }, { name := "negativeZeroDoubleBits", type := .long, accessFlags := 26, slot := 6, constantValue := 0 }, { name := "twoToTheDoubleScaleUp", type := .double, accessFlags := 8, slot := 7, constantValue := 0 }, { name := "twoToTheDoubleScaleDown", type := .double, accessFlags := 8, slot := 8, constantValue := 0 }, { name := "$assertionsDisabled", type := .boolean, accessFlags := 4120, slot := 9, constantValue := 0 }]
  methods := #[k7m0, k7m1]
  instanceTypes := #[]
  staticTypes := #[.double, .double, .double, .double, .double, .long, .long, .double, .double, .boolean]
  resolved := Array.replicate 460 none
  statics := none }

def pool8 : Array CpInfo := pool [(2, .class_ 4), (1, u "java/lang/Object"), (0, u "<init>"), (0, u "()V"), (7, .class_ 16), (1, u "java/util/Arrays"), (57, .class_ 76), (1, u "java/util/Arrays$NaturalOrder"), (32, u "()Ljava/lang/Object;"), (3, .class_ 115), (1, u "java/util/Arrays$LegacyMergeSort"), (1, u "Z"), (10, .nameAndType 129 109), (0, u "clone"), (20, .methodref 151 152), (0, .class_ 153), (0, .nameAndType 154 155), (0, u "java/lang/System"), (0, u "arraycopy"), (0, u "(Ljava/lang/Object;ILjava/lang/Object;II)V"), (146, u "copyOf"), (1, .methodref 305 306), (0, .class_ 307), (0, .nameAndType 308 309), (0, u "java/lang/Math"), (0, u "min"), (0, u "(II)I"), (6, .methodref 317 128), (0, .class_ 318), (0, u "[I"), (56, .class_ 376), (0, u "java/util/Arrays$ArrayList"), (68, u "$assertionsDisabled"), (269, u "MIN_ARRAY_SORT_GRAN"), (0, u "I"), (2, u "INSERTIONSORT_THRESHOLD"), (151, u "([II)[I"), (103, .class_ 976), (0, u "java/util/Arrays$ArrayItr")] 52

def k8m0 : Method := { name := "<init>", desc := "()V", sig := { parameters := [], returnType := none }, accessFlags := 2, code := none }
def k8c1 : Code := { maxStack := 6, maxLocals := 3, code := jdk_65_method_123_code, exceptionTable := #[], attributes := #[] }
def k8m1 : Method := { name := "copyOf", desc := "([II)[I", sig := { parameters := [(.array .int), .int], returnType := some (.array .int) }, accessFlags := 9, code := some k8c1 }
/-- java/util/Arrays -/
def k8 : Class := { plain "java/util/Arrays" (some 0) with
  accessFlags := 49
  interfaces := #[]
  cf := some (fileOf pool8 14 #[.nestMembers #[975, 375, 113, 74]] #[{ accessFlags := 2, nameIndex := 5, descriptorIndex := 6, attributes := #[] }, { accessFlags := 9, nameIndex := 302, descriptorIndex := 871, attributes := #[] }] 49 2 #[] #[{ accessFlags := 26, nameIndex := 715, descriptorIndex := 716, attributes := #[] }, { accessFlags := 26, nameIndex := 719, descriptorIndex := 716, attributes := #[] }, { accessFlags := 4120, nameIndex := 445, descriptorIndex := 117, attributes := #[] }])
  fields := #[{ name := "MIN_ARRAY_SORT_GRAN", type := .int, accessFlags := 26, slot := 0, constantValue := 0 }, { name := "INSERTIONSORT_THRESHOLD", type := .int, accessFlags := 26, slot := 1, constantValue := 0 }, { name := "$assertionsDisabled", type := .boolean, accessFlags := 4120, slot := 2, constantValue := 0 }]
  methods := #[k8m0, k8m1]
  instanceTypes := #[]
  staticTypes := #[.int, .int, .boolean]
  resolved := Array.replicate 1029 none
  statics := none }

def pool9 : Array CpInfo := pool [(1, .class_ 2), (0, u "java/lang/Cloneable"), (0, .class_ 4), (0, u "java/lang/Object")] 2

/-- java/lang/Cloneable -/
def k9 : Class := { plain "java/lang/Cloneable" (some 0) with
  accessFlags := 1537
  interfaces := #[]
  cf := some (fileOf pool9 1 #[] #[] 1537 3 #[] #[])
  fields := #[]
  methods := #[]
  instanceTypes := #[]
  staticTypes := #[]
  resolved := Array.replicate 7 none
  statics := none }

def pool10 : Array CpInfo := pool [(2, .class_ 4), (1, u "java/lang/Object"), (0, u "<init>"), (0, u "()V"), (1, .class_ 10), (1, u "java/lang/System"), (0, u "allowSecurityManager"), (0, u "I"), (16, u "cons"), (0, u "Ljava/io/Console;"), (77, .class_ 110), (1, u "java/lang/System$CallersHolder"), (43, u "initialErrStream"), (0, u "Ljava/io/PrintStream;"), (19, u "security"), (0, u "Ljava/lang/SecurityManager;"), (31, .class_ 209), (0, u "java/lang/System$1"), (7, u "props"), (0, u "Ljava/util/Properties;"), (2, u "lineSeparator"), (0, u "Ljava/lang/String;"), (96, .class_ 321), (1, u "java/lang/System$LoggerFinder"), (5, .class_ 328), (0, u "java/lang/System$Logger"), (67, u "err"), (2, u "out"), (91, u "notSupportedJnuEncoding"), (15, u "in"), (17, u "initialIn"), (0, u "Ljava/io/InputStream;"), (35, u "bootLayer"), (0, u "Ljava/lang/ModuleLayer;"), (99, .class_ 664), (0, u "java/lang/System$2"), (9, u "NEVER"), (2, u "MAYBE"), (49, u "arraycopy"), (0, u "(Ljava/lang/Object;ILjava/lang/Object;II)V"), (72, .class_ 802), (0, u "java/lang/System$Logger$Level")] 31

def k10m0 : Method := { name := "<init>", desc := "()V", sig := { parameters := [], returnType := none }, accessFlags := 2, code := none }
def k10m1 : Method := { name := "arraycopy", desc := "(Ljava/lang/Object;ILjava/lang/Object;II)V", sig := { parameters := [(.object "java/lang/Object"), .int, (.object "java/lang/Object"), .int, .int], returnType := none }, accessFlags := 265, code := none }
/-- java/lang/System -/
def k10 : Class := { plain "java/lang/System" (some 0) with
  accessFlags := 49
  interfaces := #[]
  cf := some (fileOf pool10 8 #[.nestMembers #[319, 327, 801, 108, 663, 208]] #[{ accessFlags := 2, nameIndex := 5, descriptorIndex := 6, attributes := #[] }, { accessFlags := 265, nameIndex := 727, descriptorIndex := 728, attributes := #[] }] 49 2 #[] #[{ accessFlags := 25, nameIndex := 507, descriptorIndex := 526, attributes := #[] }, { accessFlags := 25, nameIndex := 399, descriptorIndex := 155, attributes := #[] }, { accessFlags := 25, nameIndex := 396, descriptorIndex := 155, attributes := #[] }, { accessFlags := 10, nameIndex := 525, descriptorIndex := 526, attributes := #[] }, { accessFlags := 26, nameIndex := 674, descriptorIndex := 12, attributes := #[] }, { accessFlags := 26, nameIndex := 677, descriptorIndex := 12, attributes := #[] }, { accessFlags := 10, nameIndex := 11, descriptorIndex := 12, attributes := #[] }, { accessFlags := 74, nameIndex := 175, descriptorIndex := 176, attributes := #[] }, { accessFlags := 10, nameIndex := 491, descriptorIndex := 222, attributes := #[] }, { accessFlags := 74, nameIndex := 29, descriptorIndex := 30, attributes := #[] }, { accessFlags := 74, nameIndex := 154, descriptorIndex := 155, attributes := #[] }, { accessFlags := 10, nameIndex := 217, descriptorIndex := 218, attributes := #[] }, { accessFlags := 10, nameIndex := 221, descriptorIndex := 222, attributes := #[] }, { accessFlags := 8, nameIndex := 562, descriptorIndex := 563, attributes := #[] }])
  fields := #[{ name := "in", type := (.object "java/io/InputStream"), accessFlags := 25, slot := 0, constantValue := 0 }, { name := "out", type := (.object "java/io/PrintStream"), accessFlags := 25, slot := 1, constantValue := 0 }, { name := "err", type := (.object "java/io/PrintStream"), accessFlags := 25, slot := 2, constantValue := 0 }, { name := "initialIn", type := (.object "java/io/InputStream"), accessFlags := 10, slot := 3, constantValue := 0 }, { name := "NEVER", type := .int, accessFlags := 26, slot := 4, constantValue := 0 }, { name := "MAYBE", type := .int, accessFlags := 26, slot := 5, constantValue := 0 }, { name := "allowSecurityManager", type := .int, accessFlags := 10, slot := 6, constantValue := 0 }, { name := "security", type := (.object "java/lang/SecurityManager"), accessFlags := 74, slot := 7, constantValue := 0 }, { name := "notSupportedJnuEncoding", type := (.object "java/lang/String"), accessFlags := 10, slot := 8, constantValue := 0 }, { name := "cons", type := (.object "java/io/Console"), accessFlags := 74, slot := 9, constantValue := 0 }, { name := "initialErrStream", type := (.object "java/io/PrintStream"), accessFlags := 74, slot := 10, constantValue := 0 }, { name := "props", type := (.object "java/util/Properties"), accessFlags := 10, slot := 11, constantValue := 0 }, { name := "lineSeparator", type := (.object "java/lang/String"), accessFlags := 10, slot := 12, constantValue := 0 }, { name := "bootLayer", type := (.object "java/lang/ModuleLayer"), accessFlags := 8, slot := 13, constantValue := 0 }]
  methods := #[k10m0, k10m1]
  instanceTypes := #[]
  staticTypes := #[(.object "java/io/InputStream"), (.object "java/io/PrintStream"), (.object "java/io/PrintStream"), (.object "java/io/InputStream"), .int, .int, .int, (.object "java/lang/SecurityManager"), (.object "java/lang/String"), (.object "java/io/Console"), (.object "java/io/PrintStream"), (.object "java/util/Properties"), (.object "java/lang/String"), (.object "java/lang/ModuleLayer")]
  resolved := Array.replicate 834 none
  statics := none }

/-- the primitive byte -/
def k11 : Class := { plain "byte" none with kind := .primitive 'B', accessFlags := 0x411 }
/-- [B -/
def k12 : Class := { plain "[B" (some 0) with kind := .array 11 .byte, interfaces := #[9, 4], accessFlags := 1041 }

/-- the primitive int -/
def k13 : Class := { plain "int" none with kind := .primitive 'I', accessFlags := 0x411 }
/-- [I -/
def k14 : Class := { plain "[I" (some 0) with kind := .array 13 .int, interfaces := #[9, 4], accessFlags := 1041 }

def heap : Heap := #[{ cls := 6, slots := #[.ref 1, .ref 2, .null], vm := .statics 6 },
  { cls := 6, slots := #[.null, .int 0, .int 0], vm := .none },
  { cls := 6, slots := #[.null, .int 1, .int 0], vm := .none }]
def classes : Array Class := #[k0, k1, k2, k3, k4, k5, k6, k7, k8, k9, k10, k11, k12, k13, k14]
def interned : List (Array UInt16 × Addr) := []
def slotsUsed : Nat := 9
def theMethod : MethodId := ⟨1, 1⟩
def args0 : Array Value := #[.int 5, .int 2, .int 7, .int 8, .int 9]
def aboutOver (below : List Frame) : State where
  vm := { classes := classes, interned := interned.toArray }
  heap := heap
  slotsUsed := slotsUsed
  threads := #[{ frames := .invoking theMethod args0 :: below }]
def below0 : List Frame := [.native { method := ⟨0, 0⟩, args := #[] }]
def about1 : State := aboutOver below0
def p0 : Program := .bare "" "" ""
def e0 : Env := launch0.env 0 0 0
theorem w_frames : about1.frames = Frame.invoking theMethod args0 :: below0 := rfl
set_option maxRecDepth 65536 in
theorem w_args : argsFit about1.vm theMethod args0 = true := by decide +kernel
set_option maxRecDepth 65536 in
theorem w_heap : heapFits about1 = true := by decide +kernel
set_option maxRecDepth 65536 in
theorem w_runnable : about1.curStatus? = some .runnable := by decide +kernel
set_option maxRecDepth 65536 in
theorem w_alone : about1.alone = true := by decide +kernel
set_option maxRecDepth 65536 in
theorem w_named : about1.methodNamed? x = some theMethod := by decide +kernel
set_option maxRecDepth 65536 in
theorem w_hears : about1.hears theMethod below0 = true := by decide +kernel
set_option maxRecDepth 65536 in
theorem w_ripe : about1.ripe theMethod args0 below0 = true := by decide +kernel
theorem w_running : about1.status = .running := rfl
set_option maxRecDepth 65536 in
theorem w_room : about1.hasRoom e0.platform room_1 = true :=
  launch0.hasRoom_least _ room_1 (by decide +kernel) (by decide +kernel) (by decide +kernel) (by decide +kernel) (by decide +kernel) (by decide +kernel)
theorem allAtoms_all (ts : List Jvm.Cond) (a : Array Jvm.Value) (st : Jvm.State) : (allAtoms ts).before a st = ts.all (fun c => c.before a st) := by
  induction ts with
  | nil => rfl
  | cons c t ih =>
    show (Jvm.Cond.and c (allAtoms t)).before a st = _
    rw [Jvm.Cond.before_and, ih, List.all_cons]
def words1 : List Jvm.Cond := Jvm.Cond.code x code maxLocals ret :: tables_1
/-- a 'code' word, met by the world's own term for the bytes: nothing is compared byte by byte -/
theorem code_word {y : MethodName} {bytes : ByteArray} {mx : Nat} {rt : Option FieldType} {a : Array Value} {s : State} {m : MethodId} {meth : Method} {c : Code} (h1 : s.methodNamed? y = some m) (h2 : s.vm.method? m = some meth) (h3 : meth.code = some c) (h4 : c.code = bytes)
    (h5 : (c.maxLocals == mx && c.exceptionTable.isEmpty && decide (c.maxStack ≤ mostOperands) && decide (meth.sig.returnType = rt) && !meth.locks && decide (parseMethodDescriptor y.desc = some meth.sig)) = true) : (Jvm.Cond.code y bytes mx rt).before a s = true := by
  simp only [Bool.and_eq_true, beq_iff_eq, Bool.not_eq_true', decide_eq_true_eq] at h5
  obtain ⟨⟨⟨⟨⟨g1, g2⟩, g3⟩, g4⟩, g5⟩, g6⟩ := h5
  simp [Cond.before, Cond.holds, Cond.value, h1, h2, h3, h4, g1, g2, g3, g4, g5, g6]
def isCode : Jvm.Cond → Bool
  | .code _ _ _ _ => true
  | _ => false
theorem all_split {L : List Jvm.Cond} {P : Jvm.Cond → Bool} (h1 : L.all (fun c => isCode c || P c) = true) (h2 : ∀ c ∈ L.filter isCode, P c = true) : L.all P = true := by
  refine List.all_eq_true.mpr fun c hc => ?_
  have h := List.all_eq_true.mp h1 c hc
  rcases Bool.eq_false_or_eq_true (isCode c) with hi | hi
  · exact h2 c (List.mem_filter.mpr ⟨hc, hi⟩)
  · simpa [hi] using h
set_option maxRecDepth 65536 in
theorem w_c0 : (Jvm.Cond.code x code maxLocals ret).before args0 about1 = true := code_word (m := ⟨1, 1⟩) (meth := k1m1) (c := k1c1) (by decide +kernel) rfl rfl rfl (by decide +kernel)
set_option maxRecDepth 65536 in
theorem w_c1 : (Jvm.Cond.code ({ cls := "com/example/steady_expansion/steadyexpansion/WordNet$Senses", name := "offsets", desc := "([I)[I" } : Jvm.MethodName) prog_36_method_5_code (2 : Nat) (Option.some (Jvm.ClassFile.FieldType.array Jvm.ClassFile.FieldType.int))).before args0 about1 = true := code_word (m := ⟨6, 0⟩) (meth := k6m0) (c := k6c0) (by decide +kernel) rfl rfl rfl (by decide +kernel)
set_option maxRecDepth 65536 in
theorem w_c2 : (Jvm.Cond.code ({ cls := "com/example/steady_expansion/steadyexpansion/SensesOffsetsPinLaw", name := "prefixMatches", desc := "([IIII)Z" } : Jvm.MethodName) method_3_code (4 : Nat) (Option.some Jvm.ClassFile.FieldType.boolean)).before args0 about1 = true := code_word (m := ⟨1, 2⟩) (meth := k1m2) (c := k1c2) (by decide +kernel) rfl rfl rfl (by decide +kernel)
set_option maxRecDepth 65536 in
theorem w_c3 : (Jvm.Cond.code ({ cls := "java/lang/Math", name := "min", desc := "(II)I" } : Jvm.MethodName) jdk_29_method_69_code (2 : Nat) (Option.some Jvm.ClassFile.FieldType.int)).before args0 about1 = true := code_word (m := ⟨7, 1⟩) (meth := k7m1) (c := k7c1) (by decide +kernel) rfl rfl rfl (by decide +kernel)
set_option maxRecDepth 65536 in
theorem w_c4 : (Jvm.Cond.code ({ cls := "java/util/Arrays", name := "copyOf", desc := "([II)[I" } : Jvm.MethodName) jdk_65_method_123_code (3 : Nat) (Option.some (Jvm.ClassFile.FieldType.array Jvm.ClassFile.FieldType.int))).before args0 about1 = true := code_word (m := ⟨8, 1⟩) (meth := k8m1) (c := k8c1) (by decide +kernel) rfl rfl rfl (by decide +kernel)
def codes1 : List Jvm.Cond := [Jvm.Cond.code x code maxLocals ret, Jvm.Cond.code ({ cls := "com/example/steady_expansion/steadyexpansion/WordNet$Senses", name := "offsets", desc := "([I)[I" } : Jvm.MethodName) prog_36_method_5_code (2 : Nat) (Option.some (Jvm.ClassFile.FieldType.array Jvm.ClassFile.FieldType.int)), Jvm.Cond.code ({ cls := "com/example/steady_expansion/steadyexpansion/SensesOffsetsPinLaw", name := "prefixMatches", desc := "([IIII)Z" } : Jvm.MethodName) method_3_code (4 : Nat) (Option.some Jvm.ClassFile.FieldType.boolean), Jvm.Cond.code ({ cls := "java/lang/Math", name := "min", desc := "(II)I" } : Jvm.MethodName) jdk_29_method_69_code (2 : Nat) (Option.some Jvm.ClassFile.FieldType.int), Jvm.Cond.code ({ cls := "java/util/Arrays", name := "copyOf", desc := "([II)[I" } : Jvm.MethodName) jdk_65_method_123_code (3 : Nat) (Option.some (Jvm.ClassFile.FieldType.array Jvm.ClassFile.FieldType.int))]
set_option maxRecDepth 65536 in
theorem codes_eq : words1.filter isCode = codes1 := rfl
theorem w_codes : ∀ c ∈ words1.filter isCode, c.before args0 about1 = true := by
  rw [codes_eq]
  intro c hc
  simp only [codes1, List.mem_cons, List.not_mem_nil, or_false] at hc
  rcases hc with rfl | rfl | rfl | rfl | rfl
  · exact w_c0
  · exact w_c1
  · exact w_c2
  · exact w_c3
  · exact w_c4
set_option maxRecDepth 65536 in
theorem w_t1 : (words1.take 24).all (fun c => isCode c || c.before args0 about1) = true := by decide +kernel
set_option maxRecDepth 65536 in
theorem w_t2 : (words1.drop 24).all (fun c => isCode c || c.before args0 about1) = true := by decide +kernel
theorem w_tables : (allAtoms (Jvm.Cond.code x code maxLocals ret :: tables_1)).before args0 about1 = true := by
  rw [allAtoms_all]
  show words1.all (fun c => c.before args0 about1) = true
  refine all_split ?_ w_codes
  rw [← List.take_append_drop 24 words1, List.all_append, w_t1, w_t2]
  rfl
set_option maxRecDepth 65536 in
theorem w_case : (Jvm.Cond.and given_1 narrow_1).before args0 about1 = true := by decide +kernel
theorem w_applies : (headSpec (Jvm.Cond.code x code maxLocals ret :: tables_1) room_1).applies x e0.platform about1 = true :=
  (Spec.applies_iff w_frames).mpr ⟨w_running, w_runnable, w_alone, w_named, w_hears, w_ripe, w_room, w_tables⟩
theorem atStart : AtStart classFile x code maxLocals ret World_1 tables_1 room_1 Calls_1 rest_1 Pre_1 launch0 p0 e0 about1 theMethod args0 below0 :=
  ⟨lists_1, trivial, launch0.admits_env _ _ _, launch0.least_env, fairChoices_fair.cas, fairChoices_fair.clock, w_frames, w_args, w_heap, w_applies, trivial, trivial, w_case⟩
end start1
theorem witness_1 : WitnessClaimed_1 := ⟨start1.p0, start1.e0, start1.about1, start1.theMethod, start1.args0, start1.below0, start1.atStart⟩
end Jvm.Pilot.@@N@@
