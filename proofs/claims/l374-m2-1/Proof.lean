import JvmDerived
import JvmDerived.Pilot.@@N@@Statement
import JvmDerived.Pilot.@@N@@Code
set_option linter.unusedVariables false
set_option linter.unusedSimpArgs false
namespace Jvm.Pilot.@@N@@
open Jvm Jvm.ClassFile Sem Op Lib Jvm.Free Jvm.Stand Jvm.LawKit Jvm.RoadKit Bundle Jvm.Pilot.@@N@@.Jvm.D
section OwnHead
variable {p : Program} {l : Launch} {e : Env} {R : Room} {s : State} {m : MethodId} {args : Array Value} {below : List Frame} {meth : Method} {c : Code} {T T' : State} {locs : List Loc} {cells slots : Nat} {Q : Option Value → Heap → List Loc → Prop} {k n : Nat} {g : JFrame}
/-- from here (the state T, the frame g on top) the call comes to its end, and the end is as Fin says -/
def own_E (p : Program) (e : Env) (below : List Frame) (Fin : Outcome → State → Prop) (T : State) (g : JFrame) : Prop :=
  ∃ s₂ o, Steps p.tables e below (T.setTop g) s₂ ∧ s₂.status = .running ∧ Ended s₂ below o ∧ Fin o s₂
/-- the end of a body that interns nothing: what it returns, the heap and the places written as Q says, within k cells and n slots -/
def own_Fin (s : State) (Q : Option Value → Heap → List Loc → Prop) (k n : Nat) (o : Outcome) (t : State) : Prop := ∃ v L, o = .returned v ∧ Q v t.heap L ∧ FrameEnd s o t L k n
theorem own_start {Fin : Outcome → State → Prop} (h : own_E p e below Fin T g) : ∃ s₂ o, Steps p.tables e below (T.setTop g) s₂ ∧ s₂.status = .running ∧ Ended s₂ below o ∧ Fin o s₂ := h
theorem own_from {Fin : Outcome → State → Prop} (g' : JFrame) (h : ∀ {t}, Steps p.tables e below (T.setTop g') t → Steps p.tables e below (T.setTop g) t) (w : own_E p e below Fin T g') : own_E p e below Fin T g := by
  obtain ⟨s₂, o, h1, r⟩ := w; exact ⟨s₂, o, h h1, r⟩
theorem own_to {Fin : Outcome → State → Prop} (g' : JFrame) (h : ∀ t, Steps p.tables e below (T'.setTop g') t → Steps p.tables e below (T.setTop g) t) (w : own_E p e below Fin T' g') : own_E p e below Fin T g := by
  obtain ⟨s₂, o, h1, r⟩ := w; exact ⟨s₂, o, h _ h1, r⟩
theorem own_via {Fin : Outcome → State → Prop} (g' : JFrame) (h : Steps p.tables e below (T.setTop g) (T'.setTop g')) (w : own_E p e below Fin T' g') : own_E p e below Fin T g := by
  obtain ⟨s₂, o, h1, r⟩ := w; exact ⟨s₂, o, h.trans h1, r⟩
theorem own_end {v : Option Value} {pc : Nat} {Ls : Array Slot} {st : List Value} (X : Stand p l e R s m args below meth c T locs cells slots) (hv : meth.sig.returnType = none → v = none) (hlk : meth.locks = false) (hk : cells ≤ k) (hn : slots ≤ n) (hQ : Q v T.heap locs)
    (hs : ∀ fs, (∀ (f : JFrame) (acts : List Action), f.method = m → f.locked = none → f.entered = [] → (doReturn e (T.setTop f) acts v).1 = T.setFrames fs) → Steps p.tables e below (T.setTop (mkF m pc Ls st)) (T.setFrames fs)) : own_E p e below (own_Fin s Q k n) T (mkF m pc Ls st) := by
  obtain ⟨fs, hr, hrun, hended, hW, hsame⟩ := X.leave (v := v) hv hlk
  exact ⟨_, _, hs fs hr, hrun, hended, _, _, rfl, hQ, ⟨_, rfl⟩, hW, hsame.mono hk hn⟩
theorem own_retN (X : Stand p l e R s m args below meth c T locs cells slots) (hx : p.tables.exec = Jvm.exec) {pc : Nat} {Ls : Array Slot} {z : Int32} {t : FieldType} {rest : List Value} (hret : meth.sig.returnType = some t) (ht : t = .boolean ∨ t = .byte ∨ t = .char ∨ t = .short) (hlk : meth.locks = false)
    (hd : decode c.code pc = .ok (.ireturn, 1)) (hk : cells ≤ k) (hn : slots ≤ n) (hQ : Q (some (.int (nar t z))) T.heap locs) : own_E p e below (own_Fin s Q k n) T (mkF m pc Ls (.int z :: rest)) :=
  own_end X (fun h => by rw [hret] at h; cases h) hlk hk hn hQ fun _ hr => retN X hx hret ht hd hr
theorem own_retI (X : Stand p l e R s m args below meth c T locs cells slots) (hx : p.tables.exec = Jvm.exec) {pc : Nat} {Ls : Array Slot} {z : Int32} {rest : List Value} (hret : meth.sig.returnType = some .int) (hlk : meth.locks = false)
    (hd : decode c.code pc = .ok (.ireturn, 1)) (hk : cells ≤ k) (hn : slots ≤ n) (hQ : Q (some (.int z)) T.heap locs) : own_E p e below (own_Fin s Q k n) T (mkF m pc Ls (.int z :: rest)) :=
  own_end X (fun h => by rw [hret] at h; cases h) hlk hk hn hQ fun _ hr => retOut X hx hret rfl (Or.inl ⟨rfl, Or.inl rfl, _, rfl⟩) hd hr
theorem own_retJ (X : Stand p l e R s m args below meth c T locs cells slots) (hx : p.tables.exec = Jvm.exec) {pc : Nat} {Ls : Array Slot} {z : Int64} {rest : List Value} (hret : meth.sig.returnType = some .long) (hlk : meth.locks = false)
    (hd : decode c.code pc = .ok (.lreturn, 1)) (hk : cells ≤ k) (hn : slots ≤ n) (hQ : Q (some (.long z)) T.heap locs) : own_E p e below (own_Fin s Q k n) T (mkF m pc Ls (.long z :: rest)) :=
  own_end X (fun h => by rw [hret] at h; cases h) hlk hk hn hQ fun _ hr => retOut X hx hret rfl (Or.inr (Or.inl ⟨rfl, rfl, _, rfl⟩)) hd hr
theorem own_retA (X : Stand p l e R s m args below meth c T locs cells slots) (hx : p.tables.exec = Jvm.exec) {pc : Nat} {Ls : Array Slot} {w : Value} {t : FieldType} {rest : List Value} (hret : meth.sig.returnType = some t) (ht : t.isReference = true) (hlk : meth.locks = false)
    (hd : decode c.code pc = .ok (.areturn, 1)) (hw : w.isRef = true) (hk : cells ≤ k) (hn : slots ≤ n) (hQ : Q (some w) T.heap locs) : own_E p e below (own_Fin s Q k n) T (mkF m pc Ls (w :: rest)) :=
  own_end X (fun h => by rw [hret] at h; cases h) hlk hk hn hQ fun _ hr => retOut X hx hret (by cases t <;> first | rfl | cases ht) (Or.inr (Or.inr (Or.inr (Or.inr ⟨rfl, ht, hw⟩)))) hd hr
theorem own_ret0 (X : Stand p l e R s m args below meth c T locs cells slots) (hx : p.tables.exec = Jvm.exec) {pc : Nat} {Ls : Array Slot} (hret : meth.sig.returnType = none) (hlk : meth.locks = false)
    (hd : decode c.code pc = .ok (.return_, 1)) (hk : cells ≤ k) (hn : slots ≤ n) (hQ : Q none T.heap locs) : own_E p e below (own_Fin s Q k n) T (mkF m pc Ls []) :=
  own_end X (fun _ => rfl) hlk hk hn hQ fun _ hr => X.returnOut hx hret hd hr
theorem own_01 {C : Prop} {d : Int32} (h1 : C → d = (0 : Int32)) (h2 : ¬ C → d = (1 : Int32)) : d = 0 ∨ d = 1 := (Classical.em C).elim (fun q => Or.inl (h1 q)) (fun q => Or.inr (h2 q))
theorem own_irr (x : Int32) : ¬ x < x := Int32.lt_irrefl
end OwnHead
section OwnWords
variable {args : Array Value} {s : State} {t : Term} {C n d : String} {a : Addr}
theorem own_fldI {k : Int32} (ht : t.eval args s none [] s = some (.ref a)) (h : (Jvm.Cond.eq (Term.field t C n d) (Term.int k)).value args s none s [] = some true) : Fld s s.heap a C n d (.int k) := by
  obtain ⟨x, y, e1, e2, -, k2⟩ := cmp_v (Or.inl h)
  have q : y = .int k := Option.some.inj (e2.symm.trans (Term.int_eval k))
  subst q
  obtain ⟨z, rfl⟩ := k2
  have q := gotT (Cond.eq_ints e1 (Term.int_eval k)) h
  subst q
  exact Fld.start ((fld_at ht).symm.trans e1)
theorem own_fldJ {k : Int64} (ht : t.eval args s none [] s = some (.ref a)) (h : (Jvm.Cond.eq (Term.field t C n d) (Term.long k)).value args s none s [] = some true) : Fld s s.heap a C n d (.long k) := by
  obtain ⟨x, y, e1, e2, -, k2⟩ := cmp_v (Or.inl h)
  have q : y = .long k := Option.some.inj (e2.symm.trans (long_at k))
  subst q
  obtain ⟨z, rfl⟩ := k2
  have q := gotT (eq_L e1 (long_at k)) h
  subst q
  exact Fld.start ((fld_at ht).symm.trans e1)
end OwnWords
section OwnWide
variable {p : Program} {l : Launch} {e : Env} {R : Room} {s : State} {m : MethodId} {args : Array Value} {below : List Frame} {meth : Method} {c : Code} {T T' : State} {locs : List Loc} {cells slots : Nat} {Q : Option Value → Heap → List Loc → Prop} {k n : Nat} {g : JFrame} {vm₁ : Vm} {k1 : Nat}
/-- the end of a law that may have interned a String constant -/
def own_FinW (s : State) (Q : Option Value → Heap → List Loc → Prop) (k n : Nat) (o : Outcome) (t : State) : Prop := ∃ v L, o = .returned v ∧ Q v t.heap L ∧ ReturnedEndW s o t L k n
theorem own_endW {v : Option Value} {pc : Nat} {Ls : Array Slot} {st : List Value} (X : Stand p l e R (s.setVm vm₁) m args below meth c T locs cells slots) (hS : s.Since vm₁ k1) (hk1 : k1 ≤ T.heap.size) (hv : meth.sig.returnType = none → v = none) (hlk : meth.locks = false) (hk : cells ≤ k) (hn : slots ≤ n) (hQ : Q v T.heap locs)
    (hs : ∀ fs, (∀ (f : JFrame) (acts : List Action), f.method = m → f.locked = none → f.entered = [] → (doReturn e (T.setTop f) acts v).1 = T.setFrames fs) → Steps p.tables e below (T.setTop (mkF m pc Ls st)) (T.setFrames fs)) : own_E p e below (own_FinW s Q k n) T (mkF m pc Ls st) := by
  obtain ⟨fs, hr, hrun, hended, h1, h2, h3, h4⟩ := X.leaveW hS hk1 (v := v) hv hlk
  exact ⟨_, _, hs fs hr, hrun, hended, _, _, rfl, hQ, h1, h2, h3, h4.mono hk hn⟩
theorem own_retNW (X : Stand p l e R (s.setVm vm₁) m args below meth c T locs cells slots) (hS : s.Since vm₁ k1) (hk1 : k1 ≤ T.heap.size) (hx : p.tables.exec = Jvm.exec) {pc : Nat} {Ls : Array Slot} {z : Int32} {t : FieldType} {rest : List Value} (hret : meth.sig.returnType = some t) (ht : t = .boolean ∨ t = .byte ∨ t = .char ∨ t = .short) (hlk : meth.locks = false)
    (hd : decode c.code pc = .ok (.ireturn, 1)) (hk : cells ≤ k) (hn : slots ≤ n) (hQ : Q (some (.int (nar t z))) T.heap locs) : own_E p e below (own_FinW s Q k n) T (mkF m pc Ls (.int z :: rest)) :=
  own_endW X hS hk1 (fun h => by rw [hret] at h; cases h) hlk hk hn hQ fun _ hr => retN X hx hret ht hd hr
end OwnWide
theorem own_three (x : Int32) {n : Int32} (h : (((x &&& (2147483647 : Int32)) % (3 : Int32)) + (1 : Int32)) = n) : n = 1 ∨ n = 2 ∨ n = 3 := by
  subst h
  have e1 : (x &&& 2147483647).toInt = x.toInt % (2 ^ 31 : Nat) := c_mask x 2147483647 31 (by decide) (by decide)
  have e2 := (c_irem (x &&& 2147483647) 3 3 rfl).1 (by rw [e1]; omega)
  have e3 := c_iadd ((x &&& 2147483647) % 3) 1
  have e4 : (1 : Int32).toInt = 1 := rfl
  have e5 := rng32 ((x &&& 2147483647) % 3 + 1)
  rw [e4, e2] at e3
  rw [← Int32.toInt_inj, ← Int32.toInt_inj, ← Int32.toInt_inj]
  show _ = 1 ∨ _ = 2 ∨ _ = 3
  omega
theorem own_len {args : Array Value} {s : State} {t : Term} {a : Addr} {cl : Cell} {ty : FieldType} {k : Int32} (A : Arr s s.heap a cl ty) (et : t.eval args s none [] s = some (.ref a)) (h : (Jvm.Cond.eq (Term.length t) (Term.int k)).value args s none s [] = some true) : cl.slots.size < 2 ^ 31 ∧ cl.slots.size.toInt32 = k := by
  obtain ⟨x, y, e1, e2, -, k2⟩ := cmp_v (Or.inl h)
  have q : y = .int k := Option.some.inj (e2.symm.trans (Term.int_eval k))
  subst q
  obtain ⟨z, rfl⟩ := k2
  have q := gotT (Cond.eq_ints e1 (Term.int_eval k)) h
  subst q
  have hA : s.arrayAt? a = some cl := A.fin (Vm.Alike.refl _)
  by_cases hl : cl.slots.size < 2 ^ 31
  · exact ⟨hl, by have q := (len_f et hA hl).symm.trans e1; injection q with q; injection q⟩
  · simp [Term.eval, et, hA, hl] at e1
theorem own_elR {args : Array Value} {s : State} {t u : Term} {a b : Addr} {cl : Cell} {ty : FieldType} {k : Int32} (A : Arr s s.heap a cl ty) (et : t.eval args s none [] s = some (.ref a)) (eu : u.eval args s none [] s = some (.ref b)) (h : (Jvm.Cond.eq (Term.elem t (Term.int k)) u).value args s none s [] = some true) : cl.slots[k.toNatClampNeg]? = some (.ref b) := by
  obtain ⟨x, y, e1, e2, -, k2⟩ := cmp_v (Or.inl h)
  cases eu.symm.trans e2
  have q := (elem_in e1 et (Term.int_eval k) A.1).2
  have r : x.isRef = true := k2.2
  have z := gotT (eq_R e1 e2 r rfl) h
  rw [z] at q; exact q
theorem own_arr3 {args : Array Value} {s : State} {t u1 u2 u3 : Term} {a a1 a2 a3 : Addr} {cl : Cell} {ty : FieldType} (hf : Fit s) (A : Arr s s.heap a cl ty) (et : t.eval args s none [] s = some (.ref a)) (hl : (Jvm.Cond.eq (Term.length t) (Term.int 3)).value args s none s [] = some true)
    (h1 : (Jvm.Cond.eq (Term.elem t (Term.int 0)) u1).value args s none s [] = some true) (h2 : (Jvm.Cond.eq (Term.elem t (Term.int 1)) u2).value args s none s [] = some true) (h3 : (Jvm.Cond.eq (Term.elem t (Term.int 2)) u3).value args s none s [] = some true)
    (e1 : u1.eval args s none [] s = some (.ref a1)) (e2 : u2.eval args s none [] s = some (.ref a2)) (e3 : u3.eval args s none [] s = some (.ref a3)) : Arv s s.heap a cl.cls ty 3 [(.ref a1), (.ref a2), (.ref a3)] .null := by
  obtain ⟨q1, q2⟩ := own_len A et hl
  exact Arv.start hf A q1 q2 (by decide) rfl ⟨own_elR A et e1 h1, own_elR A et e2 h2, own_elR A et e3 h3, trivial⟩
theorem own_d_prog_35_method_1_0 : decode prog_35_method_1_code 0 = .ok (.getstatic 13, 3) := by decide +kernel
theorem own_d_prog_35_method_1_3 : decode prog_35_method_1_code 3 = .ok (.invokevirtual 17, 3) := by decide +kernel
theorem own_d_prog_35_method_1_6 : decode prog_35_method_1_code 6 = .ok (.checkcast 18, 3) := by decide +kernel
theorem own_d_prog_35_method_1_9 : decode prog_35_method_1_code 9 = .ok (.areturn, 1) := by decide +kernel
theorem own_d_prog_35_method_4_0 : decode prog_35_method_4_code 0 = .ok (.iload_n 0, 1) := by decide +kernel
theorem own_d_prog_35_method_4_1 : decode prog_35_method_4_code 1 = .ok (.iconst 1, 1) := by decide +kernel
theorem own_d_prog_35_method_4_2 : decode prog_35_method_4_code 2 = .ok (.if_icmp .lt 11, 3) := by decide +kernel
theorem own_d_prog_35_method_4_5 : decode prog_35_method_4_code 5 = .ok (.iload_n 0, 1) := by decide +kernel
theorem own_d_prog_35_method_4_6 : decode prog_35_method_4_code 6 = .ok (.invokestatic 32, 3) := by decide +kernel
theorem own_d_prog_35_method_4_9 : decode prog_35_method_4_code 9 = .ok (.arraylength, 1) := by decide +kernel
theorem own_d_prog_35_method_4_10 : decode prog_35_method_4_code 10 = .ok (.if_icmp .le 20, 3) := by decide +kernel
theorem own_d_prog_35_method_4_30 : decode prog_35_method_4_code 30 = .ok (.invokestatic 32, 3) := by decide +kernel
theorem own_d_prog_35_method_4_33 : decode prog_35_method_4_code 33 = .ok (.iload_n 0, 1) := by decide +kernel
theorem own_d_prog_35_method_4_34 : decode prog_35_method_4_code 34 = .ok (.iconst 1, 1) := by decide +kernel
theorem own_d_prog_35_method_4_35 : decode prog_35_method_4_code 35 = .ok (.isub, 1) := by decide +kernel
theorem own_d_prog_35_method_4_36 : decode prog_35_method_4_code 36 = .ok (.aaload, 1) := by decide +kernel
theorem own_d_prog_35_method_4_37 : decode prog_35_method_4_code 37 = .ok (.areturn, 1) := by decide +kernel
theorem own_pd0 : parseMethodDescriptor "()[Lcom/example/stepgate/stepgate/policy/Level;" = some ⟨[], some (.array (.object "com/example/stepgate/stepgate/policy/Level"))⟩ := by decide +kernel
theorem own_pd1 : parseMethodDescriptor "(I)Lcom/example/stepgate/stepgate/policy/Level;" = some ⟨[.int], some (.object "com/example/stepgate/stepgate/policy/Level")⟩ := by decide +kernel
theorem own_pn0 : plainName "com/example/stepgate/stepgate/policy/Level" = true := by first | (simp [plainName, overriddenIn]; done) | decide +kernel
theorem own_pn1 : plainName "com/example/stepgate/stepgate/policy/LevelOfPinLaw" = true := by first | (simp [plainName, overriddenIn]; done) | decide +kernel
theorem own_ef_1 (m : MethodId)  : entryFrame m #[] 0 = mkF m 0 #[] [] := by first | (simp [entryFrame, mkF, argsToLocals, Value.category]; done) | rfl
theorem own_ef_2_1 (m : MethodId) (x0 : Int32) : entryFrame m #[(.int x0)] 1 = mkF m 0 #[.val (.int x0)] [] := by first | (simp [entryFrame, mkF, argsToLocals, Value.category]; done) | rfl
theorem own_ef_2_2 (m : MethodId) (x0 : Int32) : entryFrame m #[(.int x0)] 1 = mkF m 0 #[.val (.int x0)] [] := by first | (simp [entryFrame, mkF, argsToLocals, Value.category]; done) | rfl
theorem own_ef_2_3 (m : MethodId) (x0 : Int32) : entryFrame m #[(.int x0)] 1 = mkF m 0 #[.val (.int x0)] [] := by first | (simp [entryFrame, mkF, argsToLocals, Value.category]; done) | rfl
theorem own_ef_0 (m : MethodId) (x0 : Int32) : entryFrame m #[(.int x0)] maxLocals = mkF m 0 #[.val (.int x0), .unset, .unset, .unset] [] := by first | (simp [entryFrame, mkF, argsToLocals, Value.category, maxLocals]; done) | rfl
def own_Q1 (Z : State) (a1 a2 a3 aV : Addr) (kV : ClassId) (h0 : Heap) (n0 : Nat) (v : Option Value) (h : Heap) (L : List Loc) : Prop := ∃ (b : Addr) (kb : ClassId), v = some (.ref b) ∧ Fr n0 L ∧ Keep h0 h [] ∧ n0 ≤ b ∧ h0.size ≤ b ∧ Arv Z h b kb (.object "com/example/stepgate/stepgate/policy/Level") (3 : Int32) [(.ref a1), (.ref a2), (.ref a3)] .null
set_option maxRecDepth 65536 in
set_option maxHeartbeats 40000000 in
theorem own_rm1 (l : Launch) (Z : State) (a0 : Array Value) (hw : ∀ d ∈ tables_1, d.before a0 Z = true) (ws : List Jvm.Cond) (a1 a2 a3 aV : Addr) (kV : ClassId) (h0 : Heap) (n0 : Nat) (Z0 : n0 ≤ h0.size) (OL : Old Z n0 h0) (SV : Sta Z Z.heap "com/example/stepgate/stepgate/policy/Level" "$VALUES" "[Lcom/example/stepgate/stepgate/policy/Level;" (.ref aV)) (EV : Exa Z Z.heap aV "[Lcom/example/stepgate/stepgate/policy/Level;") (VV : Arv Z Z.heap aV kV (.object "com/example/stepgate/stepgate/policy/Level") (3 : Int32) [(.ref a1), (.ref a2), (.ref a3)] .null) :
    MetFree l (⟨"com/example/stepgate/stepgate/policy/Level", "values", "()[Lcom/example/stepgate/stepgate/policy/Level;"⟩ : MethodName) (head1 (Jvm.Cond.code (⟨"com/example/stepgate/stepgate/policy/Level", "values", "()[Lcom/example/stepgate/stepgate/policy/Level;"⟩ : MethodName) prog_35_method_1_code 0 (some (.array (.object "com/example/stepgate/stepgate/policy/Level"))) :: ws) ({ frames := 1, cells := 1, slots := 3, locals := 14 } : Room)) (fun aa_ U => aa_ = #[] ∧ Z.Warmed39 U.vm ∧ U.heap = h0) (fun _ _ _ _ _ => True) (fun _ U o U' => ∃ v L, o = .returned v ∧ own_Q1 Z a1 a2 a3 aV kV h0 n0 v U'.heap L ∧ FrameEnd U o U' L ({ frames := 1, cells := 1, slots := 3, locals := 14 } : Room).cells ({ frames := 1, cells := 1, slots := 3, locals := 14 } : Room).slots) := by
  refine MetFree.of_bodySF (plainFor_of_name own_pn0) hisR ?_
  intro p e s m args below meth c s₁ Bd hml0 hP hK
  obtain ⟨rfl, hZ, hh⟩ := hP
  have hx := Bd.exec
  have hby := Bd.bytes
  have hlk : meth.locks = false := BodyLoose.notSynchronized Bd
  have hml : c.maxLocals = 0 := hml0
  have hown : s.vm.findClass "com/example/stepgate/stepgate/policy/Level" = some m.cls := findClass_of_methodNamed Bd.named
  have hnm := (name_of_methodNamed Bd.named Bd.method).1
  have X0 : Stand p l e ({ frames := 1, cells := 1, slots := 3, locals := 14 } : Room) s m #[] below meth c s₁ [] 0 0 := Stand.of_body Bd
  have e0 : s₁.heap = h0 := by rw [← hh, Bd.state]; rfl
  have N0 := Fr.nil n0
  have KP : Keep h0 h0 [] := Keep.refl _ _
  refine own_start (Fin := (own_Fin s (own_Q1 Z a1 a2 a3 aV kV h0 n0) ({ frames := 1, cells := 1, slots := 3, locals := 14 } : Room).cells ({ frames := 1, cells := 1, slots := 3, locals := 14 } : Room).slots)) (own_from (mkF m 0 #[] []) (castTop (own_ef_1 m )) ?_)
  obtain ⟨T1, X1, e1, st1⟩ := getS2 X0 hx hZ hown (host := "") (Or.inl (hw _ (List.mem_of_getElem? (i := 10) rfl))) Via.refl e0 (SV.ext OL.2) (g := (mkF m 0 #[] [])) rfl (hb hby own_d_prog_35_method_1_0)
  refine own_to (mkF m 3 #[] [(.ref aV)]) st1 ?_
  have V_aV : Arv Z h0 aV kV (.object "com/example/stepgate/stepgate/policy/Level") (3 : Int32) [(.ref a1), (.ref a2), (.ref a3)] .null := VV.ext OL.2
  have E_aV : Exa Z h0 aV "[Lcom/example/stepgate/stepgate/policy/Level;" := EV.ext OL.2
  obtain ⟨T2, h2, X2, e2, E2, A2, B2, st2⟩ := cloneH X1 hx hZ hown (hw _ (List.mem_of_getElem? (i := 12) rfl)) (hw _ (List.mem_of_getElem? (i := 13) rfl)) (hw _ (List.mem_of_getElem? (i := 17) rfl)) (hw _ (List.mem_of_getElem? (i := 15) rfl)) (hw _ (List.mem_of_getElem? (i := 16) rfl)) (hw _ (List.mem_of_getElem? (i := 18) rfl)) e1 (Arv.arh V_aV) E_aV (g := (mkF m 3 #[] [(.ref aV)])) rfl (by rw [hml]; rfl) rfl (hb hby own_d_prog_35_method_1_3) (by decide) (W := 0) (by show 2 * 0 + _ ≤ _; exact Nat.le_of_eq rfl) (by decide) (cap := 3) (by decide) (by decide) (by decide)
  obtain ⟨b2, g2⟩ : ∃ z, z = h0.size := ⟨_, rfl⟩
  rw [← g2] at A2 B2 st2
  have sz_b2 : h0.size ≤ b2 := Nat.le_trans KP.1 (Nat.le_of_eq g2.symm)
  have ge_b2 : n0 ≤ b2 := Nat.le_trans Z0 sz_b2
  have ne_aV_b2 : aV ≠ b2 := Nat.ne_of_lt (Nat.lt_of_lt_of_le V_aV.lt (Nat.le_of_eq g2.symm))
  have OL := OL.ext E2
  have KP := KP.ext E2
  have V_aV := V_aV.ext E2
  have E_aV := E_aV.ext E2
  have V_b2 : Arv Z h2 b2 kV (.object "com/example/stepgate/stepgate/policy/Level") (3 : Int32) [(.ref a1), (.ref a2), (.ref a3)] .null := A2
  have E_b2 : Exa Z h2 b2 "[Lcom/example/stepgate/stepgate/policy/Level;" := B2
  refine own_to (mkF m 6 #[] [(.ref b2)]) st2 ?_
  obtain ⟨T3, X3, e3, st3⟩ := castY X2 hx hZ hown (hw _ (List.mem_of_getElem? (i := 22) rfl)) e2 (Ins.self E_b2) (g := (mkF m 6 #[] [(.ref b2)])) rfl rfl (hb hby own_d_prog_35_method_1_6)
  refine own_to (mkF m 9 #[] [(.ref b2)]) st3 ?_
  exact own_retA X3 hx Bd.returns rfl hlk (hb hby own_d_prog_35_method_1_9) rfl (by decide) (by decide) (by rw [e3]; exact ⟨b2, kV, rfl, N0, KP, ge_b2, sz_b2, V_b2⟩)
def own_Q2_1 (Z : State) (a1 a2 a3 aV : Addr) (kV : ClassId) (h0 : Heap) (n0 : Nat) (v : Option Value) (h : Heap) (L : List Loc) : Prop := v = some (.ref a1) ∧ Fr n0 L ∧ Keep h0 h []
set_option maxRecDepth 65536 in
set_option maxHeartbeats 40000000 in
theorem own_rm2_1 (l : Launch) (Z : State) (a0 : Array Value) (hw : ∀ d ∈ tables_1, d.before a0 Z = true) (ws : List Jvm.Cond) (a1 a2 a3 aV : Addr) (kV : ClassId) (h0 : Heap) (n0 : Nat) (Z0 : n0 ≤ h0.size) (OL : Old Z n0 h0) (SV : Sta Z Z.heap "com/example/stepgate/stepgate/policy/Level" "$VALUES" "[Lcom/example/stepgate/stepgate/policy/Level;" (.ref aV)) (EV : Exa Z Z.heap aV "[Lcom/example/stepgate/stepgate/policy/Level;") (VV : Arv Z Z.heap aV kV (.object "com/example/stepgate/stepgate/policy/Level") (3 : Int32) [(.ref a1), (.ref a2), (.ref a3)] .null) :
    MetFree l (⟨"com/example/stepgate/stepgate/policy/Level", "of", "(I)Lcom/example/stepgate/stepgate/policy/Level;"⟩ : MethodName) (head1 (Jvm.Cond.code (⟨"com/example/stepgate/stepgate/policy/Level", "of", "(I)Lcom/example/stepgate/stepgate/policy/Level;"⟩ : MethodName) prog_35_method_4_code 1 (some (.object "com/example/stepgate/stepgate/policy/Level")) :: ws) ({ frames := 2, cells := 2, slots := 6, locals := 40 } : Room)) (fun aa_ U => aa_ = #[(.int (1 : Int32))] ∧ Z.Warmed39 U.vm ∧ U.heap = h0) (fun _ _ _ _ _ => True) (fun _ U o U' => ∃ v L, o = .returned v ∧ own_Q2_1 Z a1 a2 a3 aV kV h0 n0 v U'.heap L ∧ FrameEnd U o U' L ({ frames := 2, cells := 2, slots := 6, locals := 40 } : Room).cells ({ frames := 2, cells := 2, slots := 6, locals := 40 } : Room).slots) := by
  refine MetFree.of_bodySF (plainFor_of_name own_pn0) hisR ?_
  intro p e s m args below meth c s₁ Bd hml0 hP hK
  obtain ⟨rfl, hZ, hh⟩ := hP
  have hx := Bd.exec
  have hby := Bd.bytes
  have hlk : meth.locks = false := BodyLoose.notSynchronized Bd
  have hml : c.maxLocals = 1 := hml0
  have hown : s.vm.findClass "com/example/stepgate/stepgate/policy/Level" = some m.cls := findClass_of_methodNamed Bd.named
  have hnm := (name_of_methodNamed Bd.named Bd.method).1
  have X0 : Stand p l e ({ frames := 2, cells := 2, slots := 6, locals := 40 } : Room) s m #[(.int (1 : Int32))] below meth c s₁ [] 0 0 := Stand.of_body Bd
  have e0 : s₁.heap = h0 := by rw [← hh, Bd.state]; rfl
  have N0 := Fr.nil n0
  have KP : Keep h0 h0 [] := Keep.refl _ _
  refine own_start (Fin := (own_Fin s (own_Q2_1 Z a1 a2 a3 aV kV h0 n0) ({ frames := 2, cells := 2, slots := 6, locals := 40 } : Room).cells ({ frames := 2, cells := 2, slots := 6, locals := 40 } : Room).slots)) (own_from (mkF m 0 #[iv 1] []) (castTop (own_ef_2_1 m (1 : Int32))) ?_)
  refine own_to (T' := s₁) (mkF m 1 #[iv 1] [(.int (1 : Int32))]) (fun _ k => XS.iloadN X0.here hx rfl (hb hby own_d_prog_35_method_4_0) rfl k) ?_
  refine own_to (T' := s₁) (mkF m 2 #[iv 1] [(.int (1 : Int32)), (.int (1 : Int32))]) (fun _ k => XS.iconst X0.here hx rfl (hb hby own_d_prog_35_method_4_1) k) ?_
  refine own_to (T' := s₁) (mkF m 5 #[iv 1] []) (fun _ k => XS.icmpNo X0.here hx rfl (hb hby own_d_prog_35_method_4_2) rfl (flt (by decide : ¬ ((1 : Int32) < (1 : Int32)))).1 k) ?_
  refine own_to (T' := s₁) (mkF m 6 #[iv 1] [(.int (1 : Int32))]) (fun _ k => XS.iloadN X0.here hx rfl (hb hby own_d_prog_35_method_4_5) rfl k) ?_
  have KP0 := KP
  obtain ⟨_, _, ⟨T4, L4, k4, n4⟩, -, X4, ⟨Lc4, hQ4, l4, y4, z4⟩, st4⟩ := Jvm.LawKit.callS X0 hx (y := (⟨"com/example/stepgate/stepgate/policy/Level", "values", "()[Lcom/example/stepgate/stepgate/policy/Level;"⟩ : MethodName)) hown (mvT hZ (hw _ (List.mem_of_getElem? (i := 7) rfl))) (mvT hZ (hw _ (List.mem_of_getElem? (i := 8) rfl))) (mvT hZ (hw _ (List.mem_of_getElem? (i := 2) rfl))) (mvT hZ (hw _ (List.mem_of_getElem? (i := 9) rfl))) (by decide) (backOf (W := 1) (own_rm1 l Z a0 hw [] a1 a2 a3 aV kV h0 n0 (Nat.le_trans Z0 KP.1) OL SV EV VV) hZ (hw _ (List.mem_of_getElem? (i := 9) rfl)) (hw _ (List.mem_of_getElem? (i := 2) rfl)) (by decide) (by decide)) (g := (mkF m 6 #[iv 1] [(.int (1 : Int32))])) rfl (by rw [hml]; rfl) (argsL := []) (rest := [(.int (1 : Int32))]) (lenOf own_pd0 rfl) rfl (by show 2 * 0 + _ ≤ _; exact Nat.le_of_eq rfl) (hb hby own_d_prog_35_method_4_6) (fun _ _ => ⟨rfl, e0, (by decide : 0 + 1 ≤ _), (by decide : 0 + 3 ≤ _)⟩)
  dsimp only [Pt.U, Pt.locs, Pt.cells, Pt.slots] at X4 l4 y4 z4 st4 hQ4
  subst l4 y4 z4
  obtain ⟨b4, kb4, rfl, N4q, K4, ge_b4, sz0_b4, V0_b4⟩ := hQ4
  have N4 := Fr.app N0 N4q
  have OL := OL.keep K4 all0
  have KP := KP.trans K4 all0
  have sz_b4 : h0.size ≤ b4 := Nat.le_trans KP0.1 sz0_b4
  refine own_to (mkF m 9 #[iv 1] [(.ref b4), (.int (1 : Int32))]) st4 ?_
  obtain ⟨cl5, Ar5, -, S5, M5, -, -⟩ := id V0_b4
  refine own_to (mkF m 10 #[iv 1] [(.int (3 : Int32)), (.int (1 : Int32))]) (by have q := X4.arraylength hx Ar5.1 (State.isArrayOf_alike hZ.alike Ar5.2.1) (g := (mkF m 9 #[iv 1] [(.ref b4), (.int (1 : Int32))])) rfl rfl (hb hby own_d_prog_35_method_4_9); rw [len_of S5 M5] at q; exact q) ?_
  refine own_to (T' := T4) (mkF m 30 #[iv 1] []) (fun _ k => XS.icmpYes X4.here hx rfl (pc0 := 10) (pc' := 30) rfl (hb hby own_d_prog_35_method_4_10) rfl (flt (by decide : ¬ ((3 : Int32) < (1 : Int32)))).2.2.2 (by decide) (by decide) k) ?_
  have KP0 := KP
  obtain ⟨_, _, ⟨T6, L6, k6, n6⟩, -, X6, ⟨Lc6, hQ6, l6, y6, z6⟩, st6⟩ := Jvm.LawKit.callS X4 hx (y := (⟨"com/example/stepgate/stepgate/policy/Level", "values", "()[Lcom/example/stepgate/stepgate/policy/Level;"⟩ : MethodName)) hown (mvT hZ (hw _ (List.mem_of_getElem? (i := 7) rfl))) (mvT hZ (hw _ (List.mem_of_getElem? (i := 8) rfl))) (mvT hZ (hw _ (List.mem_of_getElem? (i := 2) rfl))) (mvT hZ (hw _ (List.mem_of_getElem? (i := 9) rfl))) (by decide) (backOf (W := 0) (own_rm1 l Z a0 hw [] a1 a2 a3 aV kV T4.heap n0 (Nat.le_trans Z0 KP.1) OL SV EV VV) hZ (hw _ (List.mem_of_getElem? (i := 9) rfl)) (hw _ (List.mem_of_getElem? (i := 2) rfl)) (by decide) (by decide)) (g := (mkF m 30 #[iv 1] [])) rfl (by rw [hml]; rfl) (argsL := []) (rest := []) (lenOf own_pd0 rfl) rfl (by show 2 * 0 + _ ≤ _; exact Nat.le_of_eq rfl) (hb hby own_d_prog_35_method_4_30) (fun _ _ => ⟨rfl, rfl, (by decide : 1 + 1 ≤ _), (by decide : 3 + 3 ≤ _)⟩)
  dsimp only [Pt.U, Pt.locs, Pt.cells, Pt.slots] at X6 l6 y6 z6 st6 hQ6
  subst l6 y6 z6
  obtain ⟨b6, kb6, rfl, N6q, K6, ge_b6, sz0_b6, V0_b6⟩ := hQ6
  have N6 := Fr.app N4 N6q
  have OL := OL.keep K6 all0
  have KP := KP.trans K6 all0
  have V0_b4 := V0_b4.keep K6 nin0
  have sz_b6 : h0.size ≤ b6 := Nat.le_trans KP0.1 sz0_b6
  refine own_to (mkF m 33 #[iv 1] [(.ref b6)]) st6 ?_
  refine own_to (T' := T6) (mkF m 34 #[iv 1] [(.int (1 : Int32)), (.ref b6)]) (fun _ k => XS.iloadN X6.here hx rfl (hb hby own_d_prog_35_method_4_33) rfl k) ?_
  refine own_to (T' := T6) (mkF m 35 #[iv 1] [(.int (1 : Int32)), (.int (1 : Int32)), (.ref b6)]) (fun _ k => XS.iconst X6.here hx rfl (hb hby own_d_prog_35_method_4_34) k) ?_
  refine own_to (T' := T6) (mkF m 36 #[iv 1] [(.int (0 : Int32)), (.ref b6)]) (fun _ k => XS.isub X6.here hx rfl (hb hby own_d_prog_35_method_4_35) rfl k) ?_
  obtain ⟨cl7, Ar7, -, S7, -, H7, -⟩ := id V0_b6
  refine own_to (mkF m 37 #[iv 1] [(.ref a1)]) (X6.aaload hx (j := (0 : Int32)) (v := (.ref a1)) Ar7.1 (State.isArrayOf_alike hZ.alike Ar7.2.1) rfl Ar7.2.2 (inb_of S7 ⟨by decide, by decide⟩) (H7.at (inb_of S7 ⟨by decide, by decide⟩) rfl) (g := (mkF m 36 #[iv 1] [(.int (0 : Int32)), (.ref b6)])) rfl rfl (hb hby own_d_prog_35_method_4_36)) ?_
  exact own_retA X6 hx Bd.returns rfl hlk (hb hby own_d_prog_35_method_4_37) rfl (by decide) (by decide) (by exact ⟨rfl, N6, KP⟩)
def own_Q2_2 (Z : State) (a1 a2 a3 aV : Addr) (kV : ClassId) (h0 : Heap) (n0 : Nat) (v : Option Value) (h : Heap) (L : List Loc) : Prop := v = some (.ref a2) ∧ Fr n0 L ∧ Keep h0 h []
set_option maxRecDepth 65536 in
set_option maxHeartbeats 40000000 in
theorem own_rm2_2 (l : Launch) (Z : State) (a0 : Array Value) (hw : ∀ d ∈ tables_1, d.before a0 Z = true) (ws : List Jvm.Cond) (a1 a2 a3 aV : Addr) (kV : ClassId) (h0 : Heap) (n0 : Nat) (Z0 : n0 ≤ h0.size) (OL : Old Z n0 h0) (SV : Sta Z Z.heap "com/example/stepgate/stepgate/policy/Level" "$VALUES" "[Lcom/example/stepgate/stepgate/policy/Level;" (.ref aV)) (EV : Exa Z Z.heap aV "[Lcom/example/stepgate/stepgate/policy/Level;") (VV : Arv Z Z.heap aV kV (.object "com/example/stepgate/stepgate/policy/Level") (3 : Int32) [(.ref a1), (.ref a2), (.ref a3)] .null) :
    MetFree l (⟨"com/example/stepgate/stepgate/policy/Level", "of", "(I)Lcom/example/stepgate/stepgate/policy/Level;"⟩ : MethodName) (head1 (Jvm.Cond.code (⟨"com/example/stepgate/stepgate/policy/Level", "of", "(I)Lcom/example/stepgate/stepgate/policy/Level;"⟩ : MethodName) prog_35_method_4_code 1 (some (.object "com/example/stepgate/stepgate/policy/Level")) :: ws) ({ frames := 2, cells := 2, slots := 6, locals := 40 } : Room)) (fun aa_ U => aa_ = #[(.int (2 : Int32))] ∧ Z.Warmed39 U.vm ∧ U.heap = h0) (fun _ _ _ _ _ => True) (fun _ U o U' => ∃ v L, o = .returned v ∧ own_Q2_2 Z a1 a2 a3 aV kV h0 n0 v U'.heap L ∧ FrameEnd U o U' L ({ frames := 2, cells := 2, slots := 6, locals := 40 } : Room).cells ({ frames := 2, cells := 2, slots := 6, locals := 40 } : Room).slots) := by
  refine MetFree.of_bodySF (plainFor_of_name own_pn0) hisR ?_
  intro p e s m args below meth c s₁ Bd hml0 hP hK
  obtain ⟨rfl, hZ, hh⟩ := hP
  have hx := Bd.exec
  have hby := Bd.bytes
  have hlk : meth.locks = false := BodyLoose.notSynchronized Bd
  have hml : c.maxLocals = 1 := hml0
  have hown : s.vm.findClass "com/example/stepgate/stepgate/policy/Level" = some m.cls := findClass_of_methodNamed Bd.named
  have hnm := (name_of_methodNamed Bd.named Bd.method).1
  have X0 : Stand p l e ({ frames := 2, cells := 2, slots := 6, locals := 40 } : Room) s m #[(.int (2 : Int32))] below meth c s₁ [] 0 0 := Stand.of_body Bd
  have e0 : s₁.heap = h0 := by rw [← hh, Bd.state]; rfl
  have N0 := Fr.nil n0
  have KP : Keep h0 h0 [] := Keep.refl _ _
  refine own_start (Fin := (own_Fin s (own_Q2_2 Z a1 a2 a3 aV kV h0 n0) ({ frames := 2, cells := 2, slots := 6, locals := 40 } : Room).cells ({ frames := 2, cells := 2, slots := 6, locals := 40 } : Room).slots)) (own_from (mkF m 0 #[iv 2] []) (castTop (own_ef_2_2 m (2 : Int32))) ?_)
  refine own_to (T' := s₁) (mkF m 1 #[iv 2] [(.int (2 : Int32))]) (fun _ k => XS.iloadN X0.here hx rfl (hb hby own_d_prog_35_method_4_0) rfl k) ?_
  refine own_to (T' := s₁) (mkF m 2 #[iv 2] [(.int (1 : Int32)), (.int (2 : Int32))]) (fun _ k => XS.iconst X0.here hx rfl (hb hby own_d_prog_35_method_4_1) k) ?_
  refine own_to (T' := s₁) (mkF m 5 #[iv 2] []) (fun _ k => XS.icmpNo X0.here hx rfl (hb hby own_d_prog_35_method_4_2) rfl (flt (by decide : ¬ ((2 : Int32) < (1 : Int32)))).1 k) ?_
  refine own_to (T' := s₁) (mkF m 6 #[iv 2] [(.int (2 : Int32))]) (fun _ k => XS.iloadN X0.here hx rfl (hb hby own_d_prog_35_method_4_5) rfl k) ?_
  have KP0 := KP
  obtain ⟨_, _, ⟨T8, L8, k8, n8⟩, -, X8, ⟨Lc8, hQ8, l8, y8, z8⟩, st8⟩ := Jvm.LawKit.callS X0 hx (y := (⟨"com/example/stepgate/stepgate/policy/Level", "values", "()[Lcom/example/stepgate/stepgate/policy/Level;"⟩ : MethodName)) hown (mvT hZ (hw _ (List.mem_of_getElem? (i := 7) rfl))) (mvT hZ (hw _ (List.mem_of_getElem? (i := 8) rfl))) (mvT hZ (hw _ (List.mem_of_getElem? (i := 2) rfl))) (mvT hZ (hw _ (List.mem_of_getElem? (i := 9) rfl))) (by decide) (backOf (W := 1) (own_rm1 l Z a0 hw [] a1 a2 a3 aV kV h0 n0 (Nat.le_trans Z0 KP.1) OL SV EV VV) hZ (hw _ (List.mem_of_getElem? (i := 9) rfl)) (hw _ (List.mem_of_getElem? (i := 2) rfl)) (by decide) (by decide)) (g := (mkF m 6 #[iv 2] [(.int (2 : Int32))])) rfl (by rw [hml]; rfl) (argsL := []) (rest := [(.int (2 : Int32))]) (lenOf own_pd0 rfl) rfl (by show 2 * 0 + _ ≤ _; exact Nat.le_of_eq rfl) (hb hby own_d_prog_35_method_4_6) (fun _ _ => ⟨rfl, e0, (by decide : 0 + 1 ≤ _), (by decide : 0 + 3 ≤ _)⟩)
  dsimp only [Pt.U, Pt.locs, Pt.cells, Pt.slots] at X8 l8 y8 z8 st8 hQ8
  subst l8 y8 z8
  obtain ⟨b8, kb8, rfl, N8q, K8, ge_b8, sz0_b8, V0_b8⟩ := hQ8
  have N8 := Fr.app N0 N8q
  have OL := OL.keep K8 all0
  have KP := KP.trans K8 all0
  have sz_b8 : h0.size ≤ b8 := Nat.le_trans KP0.1 sz0_b8
  refine own_to (mkF m 9 #[iv 2] [(.ref b8), (.int (2 : Int32))]) st8 ?_
  obtain ⟨cl9, Ar9, -, S9, M9, -, -⟩ := id V0_b8
  refine own_to (mkF m 10 #[iv 2] [(.int (3 : Int32)), (.int (2 : Int32))]) (by have q := X8.arraylength hx Ar9.1 (State.isArrayOf_alike hZ.alike Ar9.2.1) (g := (mkF m 9 #[iv 2] [(.ref b8), (.int (2 : Int32))])) rfl rfl (hb hby own_d_prog_35_method_4_9); rw [len_of S9 M9] at q; exact q) ?_
  refine own_to (T' := T8) (mkF m 30 #[iv 2] []) (fun _ k => XS.icmpYes X8.here hx rfl (pc0 := 10) (pc' := 30) rfl (hb hby own_d_prog_35_method_4_10) rfl (flt (by decide : ¬ ((3 : Int32) < (2 : Int32)))).2.2.2 (by decide) (by decide) k) ?_
  have KP0 := KP
  obtain ⟨_, _, ⟨T10, L10, k10, n10⟩, -, X10, ⟨Lc10, hQ10, l10, y10, z10⟩, st10⟩ := Jvm.LawKit.callS X8 hx (y := (⟨"com/example/stepgate/stepgate/policy/Level", "values", "()[Lcom/example/stepgate/stepgate/policy/Level;"⟩ : MethodName)) hown (mvT hZ (hw _ (List.mem_of_getElem? (i := 7) rfl))) (mvT hZ (hw _ (List.mem_of_getElem? (i := 8) rfl))) (mvT hZ (hw _ (List.mem_of_getElem? (i := 2) rfl))) (mvT hZ (hw _ (List.mem_of_getElem? (i := 9) rfl))) (by decide) (backOf (W := 0) (own_rm1 l Z a0 hw [] a1 a2 a3 aV kV T8.heap n0 (Nat.le_trans Z0 KP.1) OL SV EV VV) hZ (hw _ (List.mem_of_getElem? (i := 9) rfl)) (hw _ (List.mem_of_getElem? (i := 2) rfl)) (by decide) (by decide)) (g := (mkF m 30 #[iv 2] [])) rfl (by rw [hml]; rfl) (argsL := []) (rest := []) (lenOf own_pd0 rfl) rfl (by show 2 * 0 + _ ≤ _; exact Nat.le_of_eq rfl) (hb hby own_d_prog_35_method_4_30) (fun _ _ => ⟨rfl, rfl, (by decide : 1 + 1 ≤ _), (by decide : 3 + 3 ≤ _)⟩)
  dsimp only [Pt.U, Pt.locs, Pt.cells, Pt.slots] at X10 l10 y10 z10 st10 hQ10
  subst l10 y10 z10
  obtain ⟨b10, kb10, rfl, N10q, K10, ge_b10, sz0_b10, V0_b10⟩ := hQ10
  have N10 := Fr.app N8 N10q
  have OL := OL.keep K10 all0
  have KP := KP.trans K10 all0
  have V0_b8 := V0_b8.keep K10 nin0
  have sz_b10 : h0.size ≤ b10 := Nat.le_trans KP0.1 sz0_b10
  refine own_to (mkF m 33 #[iv 2] [(.ref b10)]) st10 ?_
  refine own_to (T' := T10) (mkF m 34 #[iv 2] [(.int (2 : Int32)), (.ref b10)]) (fun _ k => XS.iloadN X10.here hx rfl (hb hby own_d_prog_35_method_4_33) rfl k) ?_
  refine own_to (T' := T10) (mkF m 35 #[iv 2] [(.int (1 : Int32)), (.int (2 : Int32)), (.ref b10)]) (fun _ k => XS.iconst X10.here hx rfl (hb hby own_d_prog_35_method_4_34) k) ?_
  refine own_to (T' := T10) (mkF m 36 #[iv 2] [(.int (1 : Int32)), (.ref b10)]) (fun _ k => XS.isub X10.here hx rfl (hb hby own_d_prog_35_method_4_35) rfl k) ?_
  obtain ⟨cl11, Ar11, -, S11, -, H11, -⟩ := id V0_b10
  refine own_to (mkF m 37 #[iv 2] [(.ref a2)]) (X10.aaload hx (j := (1 : Int32)) (v := (.ref a2)) Ar11.1 (State.isArrayOf_alike hZ.alike Ar11.2.1) rfl Ar11.2.2 (inb_of S11 ⟨by decide, by decide⟩) (H11.at (inb_of S11 ⟨by decide, by decide⟩) rfl) (g := (mkF m 36 #[iv 2] [(.int (1 : Int32)), (.ref b10)])) rfl rfl (hb hby own_d_prog_35_method_4_36)) ?_
  exact own_retA X10 hx Bd.returns rfl hlk (hb hby own_d_prog_35_method_4_37) rfl (by decide) (by decide) (by exact ⟨rfl, N10, KP⟩)
def own_Q2_3 (Z : State) (a1 a2 a3 aV : Addr) (kV : ClassId) (h0 : Heap) (n0 : Nat) (v : Option Value) (h : Heap) (L : List Loc) : Prop := v = some (.ref a3) ∧ Fr n0 L ∧ Keep h0 h []
set_option maxRecDepth 65536 in
set_option maxHeartbeats 40000000 in
theorem own_rm2_3 (l : Launch) (Z : State) (a0 : Array Value) (hw : ∀ d ∈ tables_1, d.before a0 Z = true) (ws : List Jvm.Cond) (a1 a2 a3 aV : Addr) (kV : ClassId) (h0 : Heap) (n0 : Nat) (Z0 : n0 ≤ h0.size) (OL : Old Z n0 h0) (SV : Sta Z Z.heap "com/example/stepgate/stepgate/policy/Level" "$VALUES" "[Lcom/example/stepgate/stepgate/policy/Level;" (.ref aV)) (EV : Exa Z Z.heap aV "[Lcom/example/stepgate/stepgate/policy/Level;") (VV : Arv Z Z.heap aV kV (.object "com/example/stepgate/stepgate/policy/Level") (3 : Int32) [(.ref a1), (.ref a2), (.ref a3)] .null) :
    MetFree l (⟨"com/example/stepgate/stepgate/policy/Level", "of", "(I)Lcom/example/stepgate/stepgate/policy/Level;"⟩ : MethodName) (head1 (Jvm.Cond.code (⟨"com/example/stepgate/stepgate/policy/Level", "of", "(I)Lcom/example/stepgate/stepgate/policy/Level;"⟩ : MethodName) prog_35_method_4_code 1 (some (.object "com/example/stepgate/stepgate/policy/Level")) :: ws) ({ frames := 2, cells := 2, slots := 6, locals := 40 } : Room)) (fun aa_ U => aa_ = #[(.int (3 : Int32))] ∧ Z.Warmed39 U.vm ∧ U.heap = h0) (fun _ _ _ _ _ => True) (fun _ U o U' => ∃ v L, o = .returned v ∧ own_Q2_3 Z a1 a2 a3 aV kV h0 n0 v U'.heap L ∧ FrameEnd U o U' L ({ frames := 2, cells := 2, slots := 6, locals := 40 } : Room).cells ({ frames := 2, cells := 2, slots := 6, locals := 40 } : Room).slots) := by
  refine MetFree.of_bodySF (plainFor_of_name own_pn0) hisR ?_
  intro p e s m args below meth c s₁ Bd hml0 hP hK
  obtain ⟨rfl, hZ, hh⟩ := hP
  have hx := Bd.exec
  have hby := Bd.bytes
  have hlk : meth.locks = false := BodyLoose.notSynchronized Bd
  have hml : c.maxLocals = 1 := hml0
  have hown : s.vm.findClass "com/example/stepgate/stepgate/policy/Level" = some m.cls := findClass_of_methodNamed Bd.named
  have hnm := (name_of_methodNamed Bd.named Bd.method).1
  have X0 : Stand p l e ({ frames := 2, cells := 2, slots := 6, locals := 40 } : Room) s m #[(.int (3 : Int32))] below meth c s₁ [] 0 0 := Stand.of_body Bd
  have e0 : s₁.heap = h0 := by rw [← hh, Bd.state]; rfl
  have N0 := Fr.nil n0
  have KP : Keep h0 h0 [] := Keep.refl _ _
  refine own_start (Fin := (own_Fin s (own_Q2_3 Z a1 a2 a3 aV kV h0 n0) ({ frames := 2, cells := 2, slots := 6, locals := 40 } : Room).cells ({ frames := 2, cells := 2, slots := 6, locals := 40 } : Room).slots)) (own_from (mkF m 0 #[iv 3] []) (castTop (own_ef_2_3 m (3 : Int32))) ?_)
  refine own_to (T' := s₁) (mkF m 1 #[iv 3] [(.int (3 : Int32))]) (fun _ k => XS.iloadN X0.here hx rfl (hb hby own_d_prog_35_method_4_0) rfl k) ?_
  refine own_to (T' := s₁) (mkF m 2 #[iv 3] [(.int (1 : Int32)), (.int (3 : Int32))]) (fun _ k => XS.iconst X0.here hx rfl (hb hby own_d_prog_35_method_4_1) k) ?_
  refine own_to (T' := s₁) (mkF m 5 #[iv 3] []) (fun _ k => XS.icmpNo X0.here hx rfl (hb hby own_d_prog_35_method_4_2) rfl (flt (by decide : ¬ ((3 : Int32) < (1 : Int32)))).1 k) ?_
  refine own_to (T' := s₁) (mkF m 6 #[iv 3] [(.int (3 : Int32))]) (fun _ k => XS.iloadN X0.here hx rfl (hb hby own_d_prog_35_method_4_5) rfl k) ?_
  have KP0 := KP
  obtain ⟨_, _, ⟨T12, L12, k12, n12⟩, -, X12, ⟨Lc12, hQ12, l12, y12, z12⟩, st12⟩ := Jvm.LawKit.callS X0 hx (y := (⟨"com/example/stepgate/stepgate/policy/Level", "values", "()[Lcom/example/stepgate/stepgate/policy/Level;"⟩ : MethodName)) hown (mvT hZ (hw _ (List.mem_of_getElem? (i := 7) rfl))) (mvT hZ (hw _ (List.mem_of_getElem? (i := 8) rfl))) (mvT hZ (hw _ (List.mem_of_getElem? (i := 2) rfl))) (mvT hZ (hw _ (List.mem_of_getElem? (i := 9) rfl))) (by decide) (backOf (W := 1) (own_rm1 l Z a0 hw [] a1 a2 a3 aV kV h0 n0 (Nat.le_trans Z0 KP.1) OL SV EV VV) hZ (hw _ (List.mem_of_getElem? (i := 9) rfl)) (hw _ (List.mem_of_getElem? (i := 2) rfl)) (by decide) (by decide)) (g := (mkF m 6 #[iv 3] [(.int (3 : Int32))])) rfl (by rw [hml]; rfl) (argsL := []) (rest := [(.int (3 : Int32))]) (lenOf own_pd0 rfl) rfl (by show 2 * 0 + _ ≤ _; exact Nat.le_of_eq rfl) (hb hby own_d_prog_35_method_4_6) (fun _ _ => ⟨rfl, e0, (by decide : 0 + 1 ≤ _), (by decide : 0 + 3 ≤ _)⟩)
  dsimp only [Pt.U, Pt.locs, Pt.cells, Pt.slots] at X12 l12 y12 z12 st12 hQ12
  subst l12 y12 z12
  obtain ⟨b12, kb12, rfl, N12q, K12, ge_b12, sz0_b12, V0_b12⟩ := hQ12
  have N12 := Fr.app N0 N12q
  have OL := OL.keep K12 all0
  have KP := KP.trans K12 all0
  have sz_b12 : h0.size ≤ b12 := Nat.le_trans KP0.1 sz0_b12
  refine own_to (mkF m 9 #[iv 3] [(.ref b12), (.int (3 : Int32))]) st12 ?_
  obtain ⟨cl13, Ar13, -, S13, M13, -, -⟩ := id V0_b12
  refine own_to (mkF m 10 #[iv 3] [(.int (3 : Int32)), (.int (3 : Int32))]) (by have q := X12.arraylength hx Ar13.1 (State.isArrayOf_alike hZ.alike Ar13.2.1) (g := (mkF m 9 #[iv 3] [(.ref b12), (.int (3 : Int32))])) rfl rfl (hb hby own_d_prog_35_method_4_9); rw [len_of S13 M13] at q; exact q) ?_
  refine own_to (T' := T12) (mkF m 30 #[iv 3] []) (fun _ k => XS.icmpYes X12.here hx rfl (pc0 := 10) (pc' := 30) rfl (hb hby own_d_prog_35_method_4_10) rfl (flt (by decide : ¬ ((3 : Int32) < (3 : Int32)))).2.2.2 (by decide) (by decide) k) ?_
  have KP0 := KP
  obtain ⟨_, _, ⟨T14, L14, k14, n14⟩, -, X14, ⟨Lc14, hQ14, l14, y14, z14⟩, st14⟩ := Jvm.LawKit.callS X12 hx (y := (⟨"com/example/stepgate/stepgate/policy/Level", "values", "()[Lcom/example/stepgate/stepgate/policy/Level;"⟩ : MethodName)) hown (mvT hZ (hw _ (List.mem_of_getElem? (i := 7) rfl))) (mvT hZ (hw _ (List.mem_of_getElem? (i := 8) rfl))) (mvT hZ (hw _ (List.mem_of_getElem? (i := 2) rfl))) (mvT hZ (hw _ (List.mem_of_getElem? (i := 9) rfl))) (by decide) (backOf (W := 0) (own_rm1 l Z a0 hw [] a1 a2 a3 aV kV T12.heap n0 (Nat.le_trans Z0 KP.1) OL SV EV VV) hZ (hw _ (List.mem_of_getElem? (i := 9) rfl)) (hw _ (List.mem_of_getElem? (i := 2) rfl)) (by decide) (by decide)) (g := (mkF m 30 #[iv 3] [])) rfl (by rw [hml]; rfl) (argsL := []) (rest := []) (lenOf own_pd0 rfl) rfl (by show 2 * 0 + _ ≤ _; exact Nat.le_of_eq rfl) (hb hby own_d_prog_35_method_4_30) (fun _ _ => ⟨rfl, rfl, (by decide : 1 + 1 ≤ _), (by decide : 3 + 3 ≤ _)⟩)
  dsimp only [Pt.U, Pt.locs, Pt.cells, Pt.slots] at X14 l14 y14 z14 st14 hQ14
  subst l14 y14 z14
  obtain ⟨b14, kb14, rfl, N14q, K14, ge_b14, sz0_b14, V0_b14⟩ := hQ14
  have N14 := Fr.app N12 N14q
  have OL := OL.keep K14 all0
  have KP := KP.trans K14 all0
  have V0_b12 := V0_b12.keep K14 nin0
  have sz_b14 : h0.size ≤ b14 := Nat.le_trans KP0.1 sz0_b14
  refine own_to (mkF m 33 #[iv 3] [(.ref b14)]) st14 ?_
  refine own_to (T' := T14) (mkF m 34 #[iv 3] [(.int (3 : Int32)), (.ref b14)]) (fun _ k => XS.iloadN X14.here hx rfl (hb hby own_d_prog_35_method_4_33) rfl k) ?_
  refine own_to (T' := T14) (mkF m 35 #[iv 3] [(.int (1 : Int32)), (.int (3 : Int32)), (.ref b14)]) (fun _ k => XS.iconst X14.here hx rfl (hb hby own_d_prog_35_method_4_34) k) ?_
  refine own_to (T' := T14) (mkF m 36 #[iv 3] [(.int (2 : Int32)), (.ref b14)]) (fun _ k => XS.isub X14.here hx rfl (hb hby own_d_prog_35_method_4_35) rfl k) ?_
  obtain ⟨cl15, Ar15, -, S15, -, H15, -⟩ := id V0_b14
  refine own_to (mkF m 37 #[iv 3] [(.ref a3)]) (X14.aaload hx (j := (2 : Int32)) (v := (.ref a3)) Ar15.1 (State.isArrayOf_alike hZ.alike Ar15.2.1) rfl Ar15.2.2 (inb_of S15 ⟨by decide, by decide⟩) (H15.at (inb_of S15 ⟨by decide, by decide⟩) rfl) (g := (mkF m 36 #[iv 3] [(.int (2 : Int32)), (.ref b14)])) rfl rfl (hb hby own_d_prog_35_method_4_36)) ?_
  exact own_retA X14 hx Bd.returns rfl hlk (hb hby own_d_prog_35_method_4_37) rfl (by decide) (by decide) (by exact ⟨rfl, N14, KP⟩)
def own_Q0 (Z : State) (p0 : Int32) (a1 a2 a3 aV : Addr) (kV : ClassId) (h0 : Heap) (n0 : Nat) (v : Option Value) (h : Heap) (L : List Loc) : Prop := v = some (.int 1) ∧ Fr n0 L
set_option maxRecDepth 65536 in
set_option maxHeartbeats 40000000 in
theorem own_rm0 (l : Launch) (Z : State) (a0 : Array Value) (hw : ∀ d ∈ tables_1, d.before a0 Z = true) (ws : List Jvm.Cond) (p0 : Int32) (a1 a2 a3 aV : Addr) (kV : ClassId) (h0 : Heap) (n0 : Nat) (Z0 : n0 ≤ h0.size) (OL : Old Z n0 h0) (S1 : Sta Z Z.heap "com/example/stepgate/stepgate/policy/Level" "ONE" "Lcom/example/stepgate/stepgate/policy/Level;" (.ref a1)) (S2 : Sta Z Z.heap "com/example/stepgate/stepgate/policy/Level" "TWO" "Lcom/example/stepgate/stepgate/policy/Level;" (.ref a2)) (S3 : Sta Z Z.heap "com/example/stepgate/stepgate/policy/Level" "THREE" "Lcom/example/stepgate/stepgate/policy/Level;" (.ref a3)) (SV : Sta Z Z.heap "com/example/stepgate/stepgate/policy/Level" "$VALUES" "[Lcom/example/stepgate/stepgate/policy/Level;" (.ref aV)) (EV : Exa Z Z.heap aV "[Lcom/example/stepgate/stepgate/policy/Level;") (VV : Arv Z Z.heap aV kV (.object "com/example/stepgate/stepgate/policy/Level") (3 : Int32) [(.ref a1), (.ref a2), (.ref a3)] .null) :
    MetFree l x (head1 (Jvm.Cond.code x code maxLocals ret :: ws) room_1) (fun aa_ U => aa_ = #[(.int p0)] ∧ Z.Warmed39 U.vm ∧ U.heap = h0) (fun _ _ _ _ _ => True) (fun _ U o U' => ∃ v L, o = .returned v ∧ own_Q0 Z p0 a1 a2 a3 aV kV h0 n0 v U'.heap L ∧ FrameEnd U o U' L room_1.cells room_1.slots) := by
  refine MetFree.of_bodySF (plainFor_of_name own_pn1) hisR ?_
  intro p e s m args below meth c s₁ Bd hml0 hP hK
  obtain ⟨rfl, hZ, hh⟩ := hP
  have hx := Bd.exec
  have hby := Bd.bytes
  have hlk : meth.locks = false := BodyLoose.notSynchronized Bd
  have hml : c.maxLocals = 4 := hml0
  have hown : s.vm.findClass "com/example/stepgate/stepgate/policy/LevelOfPinLaw" = some m.cls := findClass_of_methodNamed Bd.named
  have hnm := (name_of_methodNamed Bd.named Bd.method).1
  have X0 : Stand p l e room_1 s m #[(.int p0)] below meth c s₁ [] 0 0 := Stand.of_body Bd
  have e0 : s₁.heap = h0 := by rw [← hh, Bd.state]; rfl
  have N0 := Fr.nil n0
  have KP : Keep h0 h0 [] := Keep.refl _ _
  refine own_start (Fin := (own_Fin s (own_Q0 Z p0 a1 a2 a3 aV kV h0 n0) room_1.cells room_1.slots)) (own_from (mkF m 0 #[iv p0, .unset, .unset, .unset] []) (castTop (own_ef_0 m p0)) ?_)
  refine own_to (T' := s₁) (mkF m 1 #[iv p0, .unset, .unset, .unset] [(.int p0)]) (fun _ k => XS.iloadN X0.here hx rfl (hb hby at_0) rfl k) ?_
  refine own_to (mkF m 3 #[iv p0, .unset, .unset, .unset] [(.int (2147483647 : Int32)), (.int p0)]) (X0.ldcInt hx hown (mvT hZ (hw _ (List.mem_of_getElem? (i := 0) rfl))) (g := (mkF m 1 #[iv p0, .unset, .unset, .unset] [(.int p0)])) rfl (hb hby at_1)) ?_
  refine own_to (T' := s₁) (mkF m 4 #[iv p0, .unset, .unset, .unset] [(.int (p0 &&& (2147483647 : Int32)))]) (fun _ k => XS.iand X0.here hx rfl (hb hby at_3) rfl k) ?_
  refine own_to (T' := s₁) (mkF m 5 #[iv p0, .unset, .unset, .unset] [(.int (3 : Int32)), (.int (p0 &&& (2147483647 : Int32)))]) (fun _ k => XS.iconst X0.here hx rfl (hb hby at_4) k) ?_
  refine own_to (T' := s₁) (mkF m 6 #[iv p0, .unset, .unset, .unset] [(.int ((p0 &&& (2147483647 : Int32)) % (3 : Int32)))]) (fun _ k => iremM X0 hx rfl (hb hby at_5) rfl (by decide) k) ?_
  refine own_to (T' := s₁) (mkF m 7 #[iv p0, .unset, .unset, .unset] [(.int (1 : Int32)), (.int ((p0 &&& (2147483647 : Int32)) % (3 : Int32)))]) (fun _ k => XS.iconst X0.here hx rfl (hb hby at_6) k) ?_
  refine own_to (T' := s₁) (mkF m 8 #[iv p0, .unset, .unset, .unset] [(.int (((p0 &&& (2147483647 : Int32)) % (3 : Int32)) + (1 : Int32)))]) (fun _ k => XS.iadd X0.here hx rfl (hb hby at_7) rfl k) ?_
  generalize hnn : (((p0 &&& (2147483647 : Int32)) % (3 : Int32)) + (1 : Int32)) = nn
  rcases own_three p0 hnn with q | q | q
  · subst q
    refine own_to (T' := s₁) (mkF m 9 #[iv p0, iv 1, .unset, .unset] []) (fun _ k => XS.istoreN X0.here hx rfl (hb hby at_8) rfl (l' := #[iv p0, iv 1, .unset, .unset]) rfl k) ?_
    refine own_to (T' := s₁) (mkF m 10 #[iv p0, iv 1, .unset, .unset] [(.int (1 : Int32))]) (fun _ k => XS.iloadN X0.here hx rfl (hb hby at_9) rfl k) ?_
    refine own_to (T' := s₁) (mkF m 11 #[iv p0, iv 1, .unset, .unset] [(.int (1 : Int32)), (.int (1 : Int32))]) (fun _ k => XS.iconst X0.here hx rfl (hb hby at_10) k) ?_
    refine own_to (T' := s₁) (mkF m 14 #[iv p0, iv 1, .unset, .unset] []) (fun _ k => XS.icmpNo X0.here hx rfl (hb hby at_11) rfl (teq (by decide : (1 : Int32) = (1 : Int32))).2 k) ?_
    obtain ⟨T16, X16, e16, st16⟩ := getS2 X0 hx hZ hown (host := "") (Or.inl (hw _ (List.mem_of_getElem? (i := 1) rfl))) Via.refl e0 (S1.ext OL.2) (g := (mkF m 14 #[iv p0, iv 1, .unset, .unset] [])) rfl (hb hby at_14)
    refine own_to (mkF m 17 #[iv p0, iv 1, .unset, .unset] [(.ref a1)]) st16 ?_
    refine own_to (T' := T16) (mkF m 18 #[iv p0, iv 1, rv a1, .unset] []) (fun _ k => XS.astoreN X16.here hx rfl (hb hby at_17) rfl rfl (l' := #[iv p0, iv 1, rv a1, .unset]) rfl k) ?_
    refine own_to (T' := T16) (mkF m 37 #[iv p0, iv 1, rv a1, .unset] []) (fun _ k => XS.goto X16.here hx rfl (pc0 := 18) (pc' := 37) rfl (hb hby at_18) (by decide) (by decide) k) ?_
    refine own_to (T' := T16) (mkF m 38 #[iv p0, iv 1, rv a1, .unset] [(.int (1 : Int32))]) (fun _ k => XS.iloadN X16.here hx rfl (hb hby at_37) rfl k) ?_
    obtain ⟨_, _, ⟨T17, L17, k17, n17⟩, -, X17, ⟨Lc17, hQ17, l17, y17, z17⟩, st17⟩ := Jvm.LawKit.callS X16 hx (y := (⟨"com/example/stepgate/stepgate/policy/Level", "of", "(I)Lcom/example/stepgate/stepgate/policy/Level;"⟩ : MethodName)) hown (mvT hZ (hw _ (List.mem_of_getElem? (i := 4) rfl))) (mvT hZ (hw _ (List.mem_of_getElem? (i := 5) rfl))) (mvT hZ (hw _ (List.mem_of_getElem? (i := 2) rfl))) (mvT hZ (hw _ (List.mem_of_getElem? (i := 6) rfl))) (by decide) (backOf (W := 0) (own_rm2_1 l Z a0 hw [] a1 a2 a3 aV kV h0 n0 (Nat.le_trans Z0 KP.1) OL SV EV VV) hZ (hw _ (List.mem_of_getElem? (i := 6) rfl)) (hw _ (List.mem_of_getElem? (i := 2) rfl)) (by decide) (by decide)) (g := (mkF m 38 #[iv p0, iv 1, rv a1, .unset] [(.int (1 : Int32))])) rfl (by rw [hml]; rfl) (argsL := [(.int (1 : Int32))]) (rest := []) (lenOf own_pd1 rfl) rfl (by show 2 * 0 + _ ≤ _; exact Nat.le_of_eq rfl) (hb hby at_38) (fun _ _ => ⟨rfl, e16, (by decide : 0 + 2 ≤ _), (by decide : 0 + 6 ≤ _)⟩)
    dsimp only [Pt.U, Pt.locs, Pt.cells, Pt.slots] at X17 l17 y17 z17 st17 hQ17
    subst l17 y17 z17
    obtain ⟨rfl, N17q, K17⟩ := hQ17
    have N17 := Fr.app N0 N17q
    have OL := OL.keep K17 all0
    have KP := KP.trans K17 all0
    refine own_to (mkF m 41 #[iv p0, iv 1, rv a1, .unset] [(.ref a1)]) st17 ?_
    refine own_to (T' := T17) (mkF m 42 #[iv p0, iv 1, rv a1, rv a1] []) (fun _ k => XS.astoreN X17.here hx rfl (hb hby at_41) rfl rfl (l' := #[iv p0, iv 1, rv a1, rv a1]) rfl k) ?_
    refine own_to (T' := T17) (mkF m 43 #[iv p0, iv 1, rv a1, rv a1] [(.ref a1)]) (fun _ k => XS.aloadN X17.here hx rfl (hb hby at_42) rfl rfl k) ?_
    refine own_to (T' := T17) (mkF m 44 #[iv p0, iv 1, rv a1, rv a1] [(.ref a1), (.ref a1)]) (fun _ k => XS.aloadN X17.here hx rfl (hb hby at_43) rfl rfl k) ?_
    refine own_to (T' := T17) (mkF m 47 #[iv p0, iv 1, rv a1, rv a1] []) (fun _ k => Jvm.RoadKit.acmp (g := (mkF m 44 #[iv p0, iv 1, rv a1, rv a1] [(.ref a1), (.ref a1)])) X17 hx rfl rfl rfl (pc0 := 44) (pc' := 47) (same := true) rfl (hb hby at_44) rfl (decide_eq_true rfl) (by decide) (by decide) k) ?_
    refine own_to (T' := T17) (mkF m 48 #[iv p0, iv 1, rv a1, rv a1] [(.int (1 : Int32))]) (fun _ k => XS.iconst X17.here hx rfl (hb hby at_47) k) ?_
    refine own_to (T' := T17) (mkF m 52 #[iv p0, iv 1, rv a1, rv a1] [(.int (1 : Int32))]) (fun _ k => XS.goto X17.here hx rfl (pc0 := 48) (pc' := 52) rfl (hb hby at_48) (by decide) (by decide) k) ?_
    exact own_retN X17 hx (t := .boolean) Bd.returns (by simp) hlk (hb hby at_52) (by decide) (by decide) (by exact ⟨rfl, N17⟩)
  · subst q
    refine own_to (T' := s₁) (mkF m 9 #[iv p0, iv 2, .unset, .unset] []) (fun _ k => XS.istoreN X0.here hx rfl (hb hby at_8) rfl (l' := #[iv p0, iv 2, .unset, .unset]) rfl k) ?_
    refine own_to (T' := s₁) (mkF m 10 #[iv p0, iv 2, .unset, .unset] [(.int (2 : Int32))]) (fun _ k => XS.iloadN X0.here hx rfl (hb hby at_9) rfl k) ?_
    refine own_to (T' := s₁) (mkF m 11 #[iv p0, iv 2, .unset, .unset] [(.int (1 : Int32)), (.int (2 : Int32))]) (fun _ k => XS.iconst X0.here hx rfl (hb hby at_10) k) ?_
    refine own_to (T' := s₁) (mkF m 21 #[iv p0, iv 2, .unset, .unset] []) (fun _ k => XS.icmpYes X0.here hx rfl (pc0 := 11) (pc' := 21) rfl (hb hby at_11) rfl (feq (by decide : ¬ ((2 : Int32) = (1 : Int32)))).2 (by decide) (by decide) k) ?_
    refine own_to (T' := s₁) (mkF m 22 #[iv p0, iv 2, .unset, .unset] [(.int (2 : Int32))]) (fun _ k => XS.iloadN X0.here hx rfl (hb hby at_21) rfl k) ?_
    refine own_to (T' := s₁) (mkF m 23 #[iv p0, iv 2, .unset, .unset] [(.int (2 : Int32)), (.int (2 : Int32))]) (fun _ k => XS.iconst X0.here hx rfl (hb hby at_22) k) ?_
    refine own_to (T' := s₁) (mkF m 26 #[iv p0, iv 2, .unset, .unset] []) (fun _ k => XS.icmpNo X0.here hx rfl (hb hby at_23) rfl (teq (by decide : (2 : Int32) = (2 : Int32))).2 k) ?_
    obtain ⟨T18, X18, e18, st18⟩ := getS2 X0 hx hZ hown (host := "") (Or.inl (hw _ (List.mem_of_getElem? (i := 25) rfl))) Via.refl e0 (S2.ext OL.2) (g := (mkF m 26 #[iv p0, iv 2, .unset, .unset] [])) rfl (hb hby at_26)
    refine own_to (mkF m 29 #[iv p0, iv 2, .unset, .unset] [(.ref a2)]) st18 ?_
    refine own_to (T' := T18) (mkF m 30 #[iv p0, iv 2, rv a2, .unset] []) (fun _ k => XS.astoreN X18.here hx rfl (hb hby at_29) rfl rfl (l' := #[iv p0, iv 2, rv a2, .unset]) rfl k) ?_
    refine own_to (T' := T18) (mkF m 37 #[iv p0, iv 2, rv a2, .unset] []) (fun _ k => XS.goto X18.here hx rfl (pc0 := 30) (pc' := 37) rfl (hb hby at_30) (by decide) (by decide) k) ?_
    refine own_to (T' := T18) (mkF m 38 #[iv p0, iv 2, rv a2, .unset] [(.int (2 : Int32))]) (fun _ k => XS.iloadN X18.here hx rfl (hb hby at_37) rfl k) ?_
    obtain ⟨_, _, ⟨T19, L19, k19, n19⟩, -, X19, ⟨Lc19, hQ19, l19, y19, z19⟩, st19⟩ := Jvm.LawKit.callS X18 hx (y := (⟨"com/example/stepgate/stepgate/policy/Level", "of", "(I)Lcom/example/stepgate/stepgate/policy/Level;"⟩ : MethodName)) hown (mvT hZ (hw _ (List.mem_of_getElem? (i := 4) rfl))) (mvT hZ (hw _ (List.mem_of_getElem? (i := 5) rfl))) (mvT hZ (hw _ (List.mem_of_getElem? (i := 2) rfl))) (mvT hZ (hw _ (List.mem_of_getElem? (i := 6) rfl))) (by decide) (backOf (W := 0) (own_rm2_2 l Z a0 hw [] a1 a2 a3 aV kV h0 n0 (Nat.le_trans Z0 KP.1) OL SV EV VV) hZ (hw _ (List.mem_of_getElem? (i := 6) rfl)) (hw _ (List.mem_of_getElem? (i := 2) rfl)) (by decide) (by decide)) (g := (mkF m 38 #[iv p0, iv 2, rv a2, .unset] [(.int (2 : Int32))])) rfl (by rw [hml]; rfl) (argsL := [(.int (2 : Int32))]) (rest := []) (lenOf own_pd1 rfl) rfl (by show 2 * 0 + _ ≤ _; exact Nat.le_of_eq rfl) (hb hby at_38) (fun _ _ => ⟨rfl, e18, (by decide : 0 + 2 ≤ _), (by decide : 0 + 6 ≤ _)⟩)
    dsimp only [Pt.U, Pt.locs, Pt.cells, Pt.slots] at X19 l19 y19 z19 st19 hQ19
    subst l19 y19 z19
    obtain ⟨rfl, N19q, K19⟩ := hQ19
    have N19 := Fr.app N0 N19q
    have OL := OL.keep K19 all0
    have KP := KP.trans K19 all0
    refine own_to (mkF m 41 #[iv p0, iv 2, rv a2, .unset] [(.ref a2)]) st19 ?_
    refine own_to (T' := T19) (mkF m 42 #[iv p0, iv 2, rv a2, rv a2] []) (fun _ k => XS.astoreN X19.here hx rfl (hb hby at_41) rfl rfl (l' := #[iv p0, iv 2, rv a2, rv a2]) rfl k) ?_
    refine own_to (T' := T19) (mkF m 43 #[iv p0, iv 2, rv a2, rv a2] [(.ref a2)]) (fun _ k => XS.aloadN X19.here hx rfl (hb hby at_42) rfl rfl k) ?_
    refine own_to (T' := T19) (mkF m 44 #[iv p0, iv 2, rv a2, rv a2] [(.ref a2), (.ref a2)]) (fun _ k => XS.aloadN X19.here hx rfl (hb hby at_43) rfl rfl k) ?_
    refine own_to (T' := T19) (mkF m 47 #[iv p0, iv 2, rv a2, rv a2] []) (fun _ k => Jvm.RoadKit.acmp (g := (mkF m 44 #[iv p0, iv 2, rv a2, rv a2] [(.ref a2), (.ref a2)])) X19 hx rfl rfl rfl (pc0 := 44) (pc' := 47) (same := true) rfl (hb hby at_44) rfl (decide_eq_true rfl) (by decide) (by decide) k) ?_
    refine own_to (T' := T19) (mkF m 48 #[iv p0, iv 2, rv a2, rv a2] [(.int (1 : Int32))]) (fun _ k => XS.iconst X19.here hx rfl (hb hby at_47) k) ?_
    refine own_to (T' := T19) (mkF m 52 #[iv p0, iv 2, rv a2, rv a2] [(.int (1 : Int32))]) (fun _ k => XS.goto X19.here hx rfl (pc0 := 48) (pc' := 52) rfl (hb hby at_48) (by decide) (by decide) k) ?_
    exact own_retN X19 hx (t := .boolean) Bd.returns (by simp) hlk (hb hby at_52) (by decide) (by decide) (by exact ⟨rfl, N19⟩)
  · subst q
    refine own_to (T' := s₁) (mkF m 9 #[iv p0, iv 3, .unset, .unset] []) (fun _ k => XS.istoreN X0.here hx rfl (hb hby at_8) rfl (l' := #[iv p0, iv 3, .unset, .unset]) rfl k) ?_
    refine own_to (T' := s₁) (mkF m 10 #[iv p0, iv 3, .unset, .unset] [(.int (3 : Int32))]) (fun _ k => XS.iloadN X0.here hx rfl (hb hby at_9) rfl k) ?_
    refine own_to (T' := s₁) (mkF m 11 #[iv p0, iv 3, .unset, .unset] [(.int (1 : Int32)), (.int (3 : Int32))]) (fun _ k => XS.iconst X0.here hx rfl (hb hby at_10) k) ?_
    refine own_to (T' := s₁) (mkF m 21 #[iv p0, iv 3, .unset, .unset] []) (fun _ k => XS.icmpYes X0.here hx rfl (pc0 := 11) (pc' := 21) rfl (hb hby at_11) rfl (feq (by decide : ¬ ((3 : Int32) = (1 : Int32)))).2 (by decide) (by decide) k) ?_
    refine own_to (T' := s₁) (mkF m 22 #[iv p0, iv 3, .unset, .unset] [(.int (3 : Int32))]) (fun _ k => XS.iloadN X0.here hx rfl (hb hby at_21) rfl k) ?_
    refine own_to (T' := s₁) (mkF m 23 #[iv p0, iv 3, .unset, .unset] [(.int (2 : Int32)), (.int (3 : Int32))]) (fun _ k => XS.iconst X0.here hx rfl (hb hby at_22) k) ?_
    refine own_to (T' := s₁) (mkF m 33 #[iv p0, iv 3, .unset, .unset] []) (fun _ k => XS.icmpYes X0.here hx rfl (pc0 := 23) (pc' := 33) rfl (hb hby at_23) rfl (feq (by decide : ¬ ((3 : Int32) = (2 : Int32)))).2 (by decide) (by decide) k) ?_
    obtain ⟨T20, X20, e20, st20⟩ := getS2 X0 hx hZ hown (host := "") (Or.inl (hw _ (List.mem_of_getElem? (i := 24) rfl))) Via.refl e0 (S3.ext OL.2) (g := (mkF m 33 #[iv p0, iv 3, .unset, .unset] [])) rfl (hb hby at_33)
    refine own_to (mkF m 36 #[iv p0, iv 3, .unset, .unset] [(.ref a3)]) st20 ?_
    refine own_to (T' := T20) (mkF m 37 #[iv p0, iv 3, rv a3, .unset] []) (fun _ k => XS.astoreN X20.here hx rfl (hb hby at_36) rfl rfl (l' := #[iv p0, iv 3, rv a3, .unset]) rfl k) ?_
    refine own_to (T' := T20) (mkF m 38 #[iv p0, iv 3, rv a3, .unset] [(.int (3 : Int32))]) (fun _ k => XS.iloadN X20.here hx rfl (hb hby at_37) rfl k) ?_
    obtain ⟨_, _, ⟨T21, L21, k21, n21⟩, -, X21, ⟨Lc21, hQ21, l21, y21, z21⟩, st21⟩ := Jvm.LawKit.callS X20 hx (y := (⟨"com/example/stepgate/stepgate/policy/Level", "of", "(I)Lcom/example/stepgate/stepgate/policy/Level;"⟩ : MethodName)) hown (mvT hZ (hw _ (List.mem_of_getElem? (i := 4) rfl))) (mvT hZ (hw _ (List.mem_of_getElem? (i := 5) rfl))) (mvT hZ (hw _ (List.mem_of_getElem? (i := 2) rfl))) (mvT hZ (hw _ (List.mem_of_getElem? (i := 6) rfl))) (by decide) (backOf (W := 0) (own_rm2_3 l Z a0 hw [] a1 a2 a3 aV kV h0 n0 (Nat.le_trans Z0 KP.1) OL SV EV VV) hZ (hw _ (List.mem_of_getElem? (i := 6) rfl)) (hw _ (List.mem_of_getElem? (i := 2) rfl)) (by decide) (by decide)) (g := (mkF m 38 #[iv p0, iv 3, rv a3, .unset] [(.int (3 : Int32))])) rfl (by rw [hml]; rfl) (argsL := [(.int (3 : Int32))]) (rest := []) (lenOf own_pd1 rfl) rfl (by show 2 * 0 + _ ≤ _; exact Nat.le_of_eq rfl) (hb hby at_38) (fun _ _ => ⟨rfl, e20, (by decide : 0 + 2 ≤ _), (by decide : 0 + 6 ≤ _)⟩)
    dsimp only [Pt.U, Pt.locs, Pt.cells, Pt.slots] at X21 l21 y21 z21 st21 hQ21
    subst l21 y21 z21
    obtain ⟨rfl, N21q, K21⟩ := hQ21
    have N21 := Fr.app N0 N21q
    have OL := OL.keep K21 all0
    have KP := KP.trans K21 all0
    refine own_to (mkF m 41 #[iv p0, iv 3, rv a3, .unset] [(.ref a3)]) st21 ?_
    refine own_to (T' := T21) (mkF m 42 #[iv p0, iv 3, rv a3, rv a3] []) (fun _ k => XS.astoreN X21.here hx rfl (hb hby at_41) rfl rfl (l' := #[iv p0, iv 3, rv a3, rv a3]) rfl k) ?_
    refine own_to (T' := T21) (mkF m 43 #[iv p0, iv 3, rv a3, rv a3] [(.ref a3)]) (fun _ k => XS.aloadN X21.here hx rfl (hb hby at_42) rfl rfl k) ?_
    refine own_to (T' := T21) (mkF m 44 #[iv p0, iv 3, rv a3, rv a3] [(.ref a3), (.ref a3)]) (fun _ k => XS.aloadN X21.here hx rfl (hb hby at_43) rfl rfl k) ?_
    refine own_to (T' := T21) (mkF m 47 #[iv p0, iv 3, rv a3, rv a3] []) (fun _ k => Jvm.RoadKit.acmp (g := (mkF m 44 #[iv p0, iv 3, rv a3, rv a3] [(.ref a3), (.ref a3)])) X21 hx rfl rfl rfl (pc0 := 44) (pc' := 47) (same := true) rfl (hb hby at_44) rfl (decide_eq_true rfl) (by decide) (by decide) k) ?_
    refine own_to (T' := T21) (mkF m 48 #[iv p0, iv 3, rv a3, rv a3] [(.int (1 : Int32))]) (fun _ k => XS.iconst X21.here hx rfl (hb hby at_47) k) ?_
    refine own_to (T' := T21) (mkF m 52 #[iv p0, iv 3, rv a3, rv a3] [(.int (1 : Int32))]) (fun _ k => XS.goto X21.here hx rfl (pc0 := 48) (pc' := 52) rfl (hb hby at_48) (by decide) (by decide) k) ?_
    exact own_retN X21 hx (t := .boolean) Bd.returns (by simp) hlk (hb hby at_52) (by decide) (by decide) (by exact ⟨rfl, N21⟩)
set_option maxRecDepth 65536 in
set_option maxHeartbeats 40000000 in
theorem own_comes {Post : Tables → Env → Array Value → State → Outcome → State → Prop} (hpost : ∀ tb e args s v u, (limb_1_1.after args s (.returned v) u = true ∧ limb_1_2.after args s (.returned v) u = true ∧ True) → FrameEnd s (.returned v) u (Jvm.fieldLocs frame_1_writes args s ++ Jvm.arrayLocs frame_1_arrays args s ++ Jvm.staticLocs frame_1_statics s) 16 128 → Post tb e args s (.returned v) u) :
    ArmFor flags0 classFile x code maxLocals ret World_1 tables_1 room_1 Calls_1 rest_1 Pre_1 Post := by
  intro l hfl _ _ p e ha hc hk s m args below hf hA hF happ hP
  obtain ⟨hcalls, hrest, hpre⟩ := hP
  obtain ⟨-, -, -, hnamed, -, -, -, hat⟩ := (Spec.applies_iff hf).mp happ
  obtain ⟨hg, hn⟩ := and_e (Cond.before_iff.mp (show (Jvm.Cond.and given_1 narrow_1).before args s = true from hpre))
  obtain ⟨hg0, hgr0⟩ := and_e hg
  obtain ⟨w0, rfl⟩ : ∃ w0 : Value, args = #[w0] := by
    have hs : args.size = 1 := by simpa [Cond.value, given_1] using hg0
    obtain ⟨L⟩ := args
    match L, hs with
    | [w0], _ => exact ⟨w0, rfl⟩
  have hw := fun d (hd : d ∈ tables_1) => atoms_spec (ws := Jvm.Cond.code x code maxLocals ret :: tables_1) hat d (List.mem_cons_of_mem _ hd)
  have hfit : Fit s := fun {y c} hc i hi => by
    obtain ⟨ha, rfl⟩ := Array.getElem?_eq_some_iff.mp hc
    have q := List.all_eq_true.mp ((Array.all_eq_true_iff_forall_mem.mp hF) _ (Array.getElem_mem ha)) i (List.mem_range.mpr hi)
    simpa [Array.getElem?_eq_getElem hi] using q
  obtain ⟨i0, ei0⟩ := is_v hgr0
  obtain rfl : w0 = (.int i0) := Option.some.inj ei0
  obtain ⟨h_x1, hr0⟩ := and_e hn
  obtain ⟨h_arr, hr1⟩ := and_e hr0
  obtain ⟨h_xV, hr2⟩ := and_e hr1
  obtain ⟨h_len, hr3⟩ := and_e hr2
  obtain ⟨h_el0, hr4⟩ := and_e hr3
  obtain ⟨h_x2, hr5⟩ := and_e hr4
  obtain ⟨h_el1, hr6⟩ := and_e hr5
  obtain ⟨h_x3, hr7⟩ := and_e hr6
  have h_el2 := hr7
  obtain ⟨a1, ea1⟩ := exa_v h_x1
  have S1 : Sta s s.heap "com/example/stepgate/stepgate/policy/Level" "ONE" "Lcom/example/stepgate/stepgate/policy/Level;" (.ref a1) := Sta.start ea1 (Or.inr ⟨(hw _ (List.mem_of_getElem? (i := 2) rfl)), (hw _ (List.mem_of_getElem? (i := 3) rfl))⟩)
  obtain ⟨a2, ea2⟩ := exa_v h_x2
  have S2 : Sta s s.heap "com/example/stepgate/stepgate/policy/Level" "TWO" "Lcom/example/stepgate/stepgate/policy/Level;" (.ref a2) := Sta.start ea2 (Or.inr ⟨(hw _ (List.mem_of_getElem? (i := 2) rfl)), (hw _ (List.mem_of_getElem? (i := 19) rfl))⟩)
  obtain ⟨a3, ea3⟩ := exa_v h_x3
  have S3 : Sta s s.heap "com/example/stepgate/stepgate/policy/Level" "THREE" "Lcom/example/stepgate/stepgate/policy/Level;" (.ref a3) := Sta.start ea3 (Or.inr ⟨(hw _ (List.mem_of_getElem? (i := 2) rfl)), (hw _ (List.mem_of_getElem? (i := 20) rfl))⟩)
  obtain ⟨aV, eaV⟩ := exa_v h_xV
  have SV : Sta s s.heap "com/example/stepgate/stepgate/policy/Level" "$VALUES" "[Lcom/example/stepgate/stepgate/policy/Level;" (.ref aV) := Sta.start eaV (Or.inr ⟨(hw _ (List.mem_of_getElem? (i := 2) rfl)), (hw _ (List.mem_of_getElem? (i := 11) rfl))⟩)
  have EV := Exa.start eaV h_xV
  obtain ⟨cl, AV⟩ := Arr.start eaV h_arr
  have VV := own_arr3 hfit AV eaV h_len h_el0 h_el1 h_el2 ea1 ea2 ea3
  obtain ⟨n, o, h1, h2, h3, _, L, rfl, ⟨rfl, N⟩, hq⟩ := own_rm0 l s _ hw tables_1 i0 a1 a2 a3 aV cl.cls s.heap s.heap.size (Nat.le_refl _) (Old.start s) S1 S2 S3 SV EV VV p e ha hc hk s m _ below hf ((Spec.applies_iff_loose hf).mp happ).1 ⟨rfl, State.Warmed39.refl s, rfl⟩ trivial
  refine ⟨n, _, h1, h2, h3, hpost _ _ _ _ _ _ ⟨Cond.after_iff.mpr rfl, Cond.after_iff.mpr (eq_i res_at (Term.int_eval (1)) rfl), trivial⟩ ⟨hq.1, hq.2.1, (hq.2.2.sift fun y hy => Or.inr (N y hy)).mono (by decide) (by decide)⟩⟩
theorem main_1_1 : Claimed_1_1 := own_comes fun _ _ _ _ _ _ h hF => ⟨h.1, hF⟩
theorem main_1_2 : Claimed_1_2 := own_comes fun _ _ _ _ _ _ h hF => ⟨h.2.1, hF⟩
end Jvm.Pilot.@@N@@
namespace Jvm.Pilot.@@N@@
open Jvm Jvm.ClassFile Sem Op Lib Jvm.Free Jvm.Stand Jvm.Pilot.@@N@@.Jvm.D
/-! MADE BY PROGRAM (witnessworld.py) out of the Statement's table words and the real class files: 13 classes; the members and pool entries that the words name. The judged class is class 1, her method 1. -/
namespace start1
open Jvm.ClassFile
def u (s : String) : CpInfo := .utf8 (stringToUtf16 s)
/-- a pool by its gaps: so many unusable entries, then the entry; so many at the end -/
def gap : Nat → List CpInfo → List CpInfo
  | 0, r => r
  | n + 1, r => .unusable :: gap n r
def poolList (es : List (Nat × CpInfo)) (last : Nat) : List CpInfo := es.foldr (fun e r => gap e.1 (e.2 :: r)) (gap last [])
def pool (es : List (Nat × CpInfo)) (last : Nat) : Array CpInfo := ⟨poolList es last⟩
def fileOf (pool : Array CpInfo) (this : Nat) (attrs : Array Attribute := #[]) (ms : Array MethodInfo := #[]) (fl : Nat := 33) (sup : Nat := 0) (ifs : Array Nat := #[]) (fds : Array FieldInfo := #[]) : ClassFile where
  minorVersion := 0
  majorVersion := 65
  constantPool := pool
  accessFlags := fl
  thisClass := this
  superClass := sup
  interfaces := ifs
  fields := fds
  methods := ms
  attributes := attrs
def plain (name : String) (sup : Option ClassId) : Class where
  name := name
  kind := .ordinary
  loader := none
  accessFlags := 33
  super := sup
  interfaces := #[]
  cf := none
  fields := #[]
  methods := #[]
  instanceTypes := #[]
  staticTypes := #[]
  resolved := #[]
  callSites := []
  init := .initialized
  statics := none
  mirror := none

def pool0 : Array CpInfo := pool [(5, u "<init>"), (0, u "()V"), (1, .class_ 10), (1, u "java/lang/Object"), (85, u "clone"), (0, u "()Ljava/lang/Object;")] 26

def k0m0 : Method := { name := "<init>", desc := "()V", sig := { parameters := [], returnType := none }, accessFlags := 1, code := none }
def k0m1 : Method := { name := "clone", desc := "()Ljava/lang/Object;", sig := { parameters := [], returnType := some (.object "java/lang/Object") }, accessFlags := 260, code := none }
/-- java/lang/Object -/
def k0 : Class := { plain "java/lang/Object" none with
  accessFlags := 33
  interfaces := #[]
  cf := some (fileOf pool0 8 #[] #[{ accessFlags := 1, nameIndex := 5, descriptorIndex := 6, attributes := #[] }, { accessFlags := 260, nameIndex := 96, descriptorIndex := 97, attributes := #[] }] 33 0 #[] #[])
  fields := #[]
  methods := #[k0m0, k0m1]
  instanceTypes := #[]
  staticTypes := #[]
  resolved := Array.replicate 124 none
  statics := none }

def pool1 : Array CpInfo := pool [(2, .class_ 4), (1, u "java/lang/Object"), (0, u "<init>"), (0, u "()V"), (0, .integer 2147483647), (0, .fieldref 9 10), (0, .class_ 11), (0, .nameAndType 12 13), (0, u "com/example/stepgate/stepgate/policy/Level"), (0, u "ONE"), (0, u "Lcom/example/stepgate/stepgate/policy/Level;"), (0, .fieldref 9 15), (0, .nameAndType 16 13), (0, u "TWO"), (0, .fieldref 9 18), (0, .nameAndType 19 13), (0, u "THREE"), (0, .methodref 9 21), (0, .nameAndType 22 23), (0, u "of"), (0, u "(I)Lcom/example/stepgate/stepgate/policy/Level;"), (0, .class_ 25), (0, u "com/example/stepgate/stepgate/policy/LevelOfPinLaw"), (2, u "law"), (0, u "(I)Z")] 3

def k1m0 : Method := { name := "<init>", desc := "()V", sig := { parameters := [], returnType := none }, accessFlags := 1, code := none }
def k1c1 : Code := { maxStack := 2, maxLocals := 4, code := code, exceptionTable := #[], attributes := #[] }
def k1m1 : Method := { name := "law", desc := "(I)Z", sig := { parameters := [.int], returnType := some .boolean }, accessFlags := 9, code := some k1c1 }
/-- com/example/stepgate/stepgate/policy/LevelOfPinLaw -/
def k1 : Class := { plain "com/example/stepgate/stepgate/policy/LevelOfPinLaw" (some 0) with
  accessFlags := 49
  interfaces := #[]
  cf := some (fileOf pool1 24 #[] #[{ accessFlags := 1, nameIndex := 5, descriptorIndex := 6, attributes := #[] }, { accessFlags := 9, nameIndex := 28, descriptorIndex := 29, attributes := #[] }] 49 2 #[] #[])
  fields := #[]
  methods := #[k1m0, k1m1]
  instanceTypes := #[]
  staticTypes := #[]
  resolved := Array.replicate 33 none
  statics := none }

def pool2 : Array CpInfo := pool [(1, .class_ 2), (0, u "java/lang/constant/Constable"), (0, .class_ 4), (0, u "java/lang/Object")] 6

/-- java/lang/constant/Constable -/
def k2 : Class := { plain "java/lang/constant/Constable" (some 0) with
  accessFlags := 1537
  interfaces := #[]
  cf := some (fileOf pool2 1 #[] #[] 1537 3 #[] #[])
  fields := #[]
  methods := #[]
  instanceTypes := #[]
  staticTypes := #[]
  resolved := Array.replicate 11 none
  statics := none }

def pool3 : Array CpInfo := pool [(1, .class_ 2), (0, u "java/lang/Comparable"), (0, .class_ 4), (0, u "java/lang/Object")] 7

/-- java/lang/Comparable -/
def k3 : Class := { plain "java/lang/Comparable" (some 0) with
  accessFlags := 1537
  interfaces := #[]
  cf := some (fileOf pool3 1 #[] #[] 1537 3 #[] #[])
  fields := #[]
  methods := #[]
  instanceTypes := #[]
  staticTypes := #[]
  resolved := Array.replicate 12 none
  statics := none }

def pool4 : Array CpInfo := pool [(1, .class_ 2), (0, u "java/io/Serializable"), (0, .class_ 4), (0, u "java/lang/Object")] 2

/-- java/io/Serializable -/
def k4 : Class := { plain "java/io/Serializable" (some 0) with
  accessFlags := 1537
  interfaces := #[]
  cf := some (fileOf pool4 1 #[] #[] 1537 3 #[] #[])
  fields := #[]
  methods := #[]
  instanceTypes := #[]
  staticTypes := #[]
  resolved := Array.replicate 7 none
  statics := none }

def pool5 : Array CpInfo := pool [(2, .class_ 4), (1, u "java/lang/Enum"), (0, u "name"), (0, u "Ljava/lang/String;"), (2, u "ordinal"), (0, u "I"), (1, .class_ 14), (1, u "java/lang/Object"), (4, u "hash"), (86, .class_ 108), (1, u "java/lang/Enum$EnumDesc"), (2, .class_ 112), (0, u "java/lang/constant/Constable"), (0, .class_ 114), (0, u "java/lang/Comparable"), (0, .class_ 116), (0, u "java/io/Serializable")] 87

/-- java/lang/Enum -/
def k5 : Class := { plain "java/lang/Enum" (some 0) with
  accessFlags := 1057
  interfaces := #[2, 3, 4]
  cf := some (fileOf pool5 2 #[.nestMembers #[106]] #[] 1057 12 #[111, 113, 115] #[{ accessFlags := 18, nameIndex := 5, descriptorIndex := 6, attributes := #[] }, { accessFlags := 18, nameIndex := 9, descriptorIndex := 10, attributes := #[] }, { accessFlags := 2, nameIndex := 19, descriptorIndex := 10, attributes := #[] }])
  fields := #[{ name := "name", type := (.object "java/lang/String"), accessFlags := 18, slot := 0, constantValue := 0 }, { name := "ordinal", type := .int, accessFlags := 18, slot := 1, constantValue := 0 }, { name := "hash", type := .int, accessFlags := 2, slot := 2, constantValue := 0 }]
  methods := #[]
  instanceTypes := #[(.object "java/lang/String"), .int, .int]
  staticTypes := #[]
  resolved := Array.replicate 204 none
  statics := none }

def pool6 : Array CpInfo := pool [(1, .class_ 2), (0, u "com/example/stepgate/stepgate/policy/Level"), (2, u "ONE"), (0, u "Lcom/example/stepgate/stepgate/policy/Level;"), (2, u "TWO"), (2, u "THREE"), (0, .fieldref 1 14), (0, .nameAndType 15 16), (0, u "$VALUES"), (0, u "[Lcom/example/stepgate/stepgate/policy/Level;"), (0, .methodref 18 19), (0, .class_ 16), (0, .nameAndType 20 21), (0, u "clone"), (0, u "()Ljava/lang/Object;"), (1, .class_ 25), (1, u "java/lang/Enum"), (6, .methodref 1 33), (0, .nameAndType 34 35), (0, u "values"), (0, u "()[Lcom/example/stepgate/stepgate/policy/Level;"), (87, u "of"), (0, u "(I)Lcom/example/stepgate/stepgate/policy/Level;")] 42

def k6c0 : Code := { maxStack := 1, maxLocals := 0, code := prog_35_method_1_code, exceptionTable := #[], attributes := #[] }
def k6m0 : Method := { name := "values", desc := "()[Lcom/example/stepgate/stepgate/policy/Level;", sig := { parameters := [], returnType := some (.array (.object "com/example/stepgate/stepgate/policy/Level")) }, accessFlags := 9, code := some k6c0 }
def k6c1 : Code := { maxStack := 4, maxLocals := 1, code := prog_35_method_4_code, exceptionTable := #[], attributes := #[] }
def k6m1 : Method := { name := "of", desc := "(I)Lcom/example/stepgate/stepgate/policy/Level;", sig := { parameters := [.int], returnType := some (.object "com/example/stepgate/stepgate/policy/Level") }, accessFlags := 9, code := some k6c1 }
/-- com/example/stepgate/stepgate/policy/Level -/
def k6 : Class := { plain "com/example/stepgate/stepgate/policy/Level" (some 5) with
  accessFlags := 16433
  interfaces := #[]
  cf := some (fileOf pool6 1 #[] #[{ accessFlags := 9, nameIndex := 34, descriptorIndex := 35, attributes := #[] }, { accessFlags := 9, nameIndex := 123, descriptorIndex := 124, attributes := #[] }] 16433 23 #[] #[{ accessFlags := 16409, nameIndex := 5, descriptorIndex := 6, attributes := #[] }, { accessFlags := 16409, nameIndex := 9, descriptorIndex := 6, attributes := #[] }, { accessFlags := 16409, nameIndex := 12, descriptorIndex := 6, attributes := #[] }, { accessFlags := 4122, nameIndex := 15, descriptorIndex := 16, attributes := #[] }])
  fields := #[{ name := "ONE", type := (.object "com/example/stepgate/stepgate/policy/Level"), accessFlags := 16409, slot := 0, constantValue := 0 }, { name := "TWO", type := (.object "com/example/stepgate/stepgate/policy/Level"), accessFlags := 16409, slot := 1, constantValue := 0 }, { name := "THREE", type := (.object "com/example/stepgate/stepgate/policy/Level"), accessFlags := 16409, slot := 2, constantValue := 0 }, { name := "$VALUES", type := (.array (.object "com/example/stepgate/stepgate/policy/Level")), accessFlags := 4122, slot := 3, constantValue := 0 }]
  methods := #[k6m0, k6m1]
  instanceTypes := #[(.object "java/lang/String"), .int, .int]
  staticTypes := #[(.object "com/example/stepgate/stepgate/policy/Level"), (.object "com/example/stepgate/stepgate/policy/Level"), (.object "com/example/stepgate/stepgate/policy/Level"), (.array (.object "com/example/stepgate/stepgate/policy/Level"))]
  resolved := Array.replicate 167 none
  statics := some 0 }

def pool7 : Array CpInfo := pool [(1, .class_ 2), (0, u "java/lang/Cloneable"), (0, .class_ 4), (0, u "java/lang/Object")] 2

/-- java/lang/Cloneable -/
def k7 : Class := { plain "java/lang/Cloneable" (some 0) with
  accessFlags := 1537
  interfaces := #[]
  cf := some (fileOf pool7 1 #[] #[] 1537 3 #[] #[])
  fields := #[]
  methods := #[]
  instanceTypes := #[]
  staticTypes := #[]
  resolved := Array.replicate 7 none
  statics := none }

/-- the primitive byte -/
def k8 : Class := { plain "byte" none with kind := .primitive 'B', accessFlags := 0x411 }
/-- [B -/
def k9 : Class := { plain "[B" (some 0) with kind := .array 8 .byte, interfaces := #[7, 4], accessFlags := 1041 }

/-- the primitive int -/
def k10 : Class := { plain "int" none with kind := .primitive 'I', accessFlags := 0x411 }
/-- [I -/
def k11 : Class := { plain "[I" (some 0) with kind := .array 10 .int, interfaces := #[7, 4], accessFlags := 1041 }

/-- [Lcom/example/stepgate/stepgate/policy/Level; -/
def k12 : Class := { plain "[Lcom/example/stepgate/stepgate/policy/Level;" (some 0) with kind := .array 6 (.object "com/example/stepgate/stepgate/policy/Level"), interfaces := #[7, 4], accessFlags := 1041 }

def heap : Heap := #[{ cls := 6, slots := #[.ref 2, .ref 3, .ref 4, .ref 1], vm := .statics 6 },
  { cls := 12, slots := #[.ref 2, .ref 3, .ref 4], vm := .none },
  { cls := 6, slots := #[.null, .int 0, .int 0], vm := .none },
  { cls := 6, slots := #[.null, .int 1, .int 0], vm := .none },
  { cls := 6, slots := #[.null, .int 2, .int 0], vm := .none }]
def classes : Array Class := #[k0, k1, k2, k3, k4, k5, k6, k7, k8, k9, k10, k11, k12]
def interned : List (Array UInt16 × Addr) := []
def slotsUsed : Nat := 16
def theMethod : MethodId := ⟨1, 1⟩
def args0 : Array Value := #[.int 5]
def aboutOver (below : List Frame) : State where
  vm := { classes := classes, interned := interned.toArray }
  heap := heap
  slotsUsed := slotsUsed
  threads := #[{ frames := .invoking theMethod args0 :: below }]
def below0 : List Frame := [.native { method := ⟨0, 0⟩, args := #[] }]
def about1 : State := aboutOver below0
def p0 : Program := .bare "" "" ""
def e0 : Env := launch0.env 0 0 0
theorem w_frames : about1.frames = Frame.invoking theMethod args0 :: below0 := rfl
set_option maxRecDepth 65536 in
theorem w_args : argsFit about1.vm theMethod args0 = true := by decide +kernel
set_option maxRecDepth 65536 in
theorem w_heap : heapFits about1 = true := by decide +kernel
set_option maxRecDepth 65536 in
theorem w_runnable : about1.curStatus? = some .runnable := by decide +kernel
set_option maxRecDepth 65536 in
theorem w_alone : about1.alone = true := by decide +kernel
set_option maxRecDepth 65536 in
theorem w_named : about1.methodNamed? x = some theMethod := by decide +kernel
set_option maxRecDepth 65536 in
theorem w_hears : about1.hears theMethod below0 = true := by decide +kernel
set_option maxRecDepth 65536 in
theorem w_ripe : about1.ripe theMethod args0 below0 = true := by decide +kernel
theorem w_running : about1.status = .running := rfl
set_option maxRecDepth 65536 in
theorem w_room : about1.hasRoom e0.platform room_1 = true :=
  launch0.hasRoom_least _ room_1 (by decide +kernel) (by decide +kernel) (by decide +kernel) (by decide +kernel) (by decide +kernel) (by decide +kernel)
theorem allAtoms_all (ts : List Jvm.Cond) (a : Array Jvm.Value) (st : Jvm.State) : (allAtoms ts).before a st = ts.all (fun c => c.before a st) := by
  induction ts with
  | nil => rfl
  | cons c t ih =>
    show (Jvm.Cond.and c (allAtoms t)).before a st = _
    rw [Jvm.Cond.before_and, ih, List.all_cons]
def words1 : List Jvm.Cond := Jvm.Cond.code x code maxLocals ret :: tables_1
/-- a 'code' word, met by the world's own term for the bytes: nothing is compared byte by byte -/
theorem code_word {y : MethodName} {bytes : ByteArray} {mx : Nat} {rt : Option FieldType} {a : Array Value} {s : State} {m : MethodId} {meth : Method} {c : Code} (h1 : s.methodNamed? y = some m) (h2 : s.vm.method? m = some meth) (h3 : meth.code = some c) (h4 : c.code = bytes)
    (h5 : (c.maxLocals == mx && c.exceptionTable.isEmpty && decide (c.maxStack ≤ mostOperands) && decide (meth.sig.returnType = rt) && !meth.locks && decide (parseMethodDescriptor y.desc = some meth.sig)) = true) : (Jvm.Cond.code y bytes mx rt).before a s = true := by
  simp only [Bool.and_eq_true, beq_iff_eq, Bool.not_eq_true', decide_eq_true_eq] at h5
  obtain ⟨⟨⟨⟨⟨g1, g2⟩, g3⟩, g4⟩, g5⟩, g6⟩ := h5
  simp [Cond.before, Cond.holds, Cond.value, h1, h2, h3, h4, g1, g2, g3, g4, g5, g6]
def isCode : Jvm.Cond → Bool
  | .code _ _ _ _ => true
  | _ => false
theorem all_split {L : List Jvm.Cond} {P : Jvm.Cond → Bool} (h1 : L.all (fun c => isCode c || P c) = true) (h2 : ∀ c ∈ L.filter isCode, P c = true) : L.all P = true := by
  refine List.all_eq_true.mpr fun c hc => ?_
  have h := List.all_eq_true.mp h1 c hc
  rcases Bool.eq_false_or_eq_true (isCode c) with hi | hi
  · exact h2 c (List.mem_filter.mpr ⟨hc, hi⟩)
  · simpa [hi] using h
set_option maxRecDepth 65536 in
theorem w_c0 : (Jvm.Cond.code x code maxLocals ret).before args0 about1 = true := code_word (m := ⟨1, 1⟩) (meth := k1m1) (c := k1c1) (by decide +kernel) rfl rfl rfl (by decide +kernel)
set_option maxRecDepth 65536 in
theorem w_c1 : (Jvm.Cond.code ({ cls := "com/example/stepgate/stepgate/policy/Level", name := "of", desc := "(I)Lcom/example/stepgate/stepgate/policy/Level;" } : Jvm.MethodName) prog_35_method_4_code (1 : Nat) (Option.some (Jvm.ClassFile.FieldType.object "com/example/stepgate/stepgate/policy/Level"))).before args0 about1 = true := code_word (m := ⟨6, 1⟩) (meth := k6m1) (c := k6c1) (by decide +kernel) rfl rfl rfl (by decide +kernel)
set_option maxRecDepth 65536 in
theorem w_c2 : (Jvm.Cond.code ({ cls := "com/example/stepgate/stepgate/policy/Level", name := "values", desc := "()[Lcom/example/stepgate/stepgate/policy/Level;" } : Jvm.MethodName) prog_35_method_1_code (0 : Nat) (Option.some (Jvm.ClassFile.FieldType.array (Jvm.ClassFile.FieldType.object "com/example/stepgate/stepgate/policy/Level")))).before args0 about1 = true := code_word (m := ⟨6, 0⟩) (meth := k6m0) (c := k6c0) (by decide +kernel) rfl rfl rfl (by decide +kernel)
def codes1 : List Jvm.Cond := [Jvm.Cond.code x code maxLocals ret, Jvm.Cond.code ({ cls := "com/example/stepgate/stepgate/policy/Level", name := "of", desc := "(I)Lcom/example/stepgate/stepgate/policy/Level;" } : Jvm.MethodName) prog_35_method_4_code (1 : Nat) (Option.some (Jvm.ClassFile.FieldType.object "com/example/stepgate/stepgate/policy/Level")), Jvm.Cond.code ({ cls := "com/example/stepgate/stepgate/policy/Level", name := "values", desc := "()[Lcom/example/stepgate/stepgate/policy/Level;" } : Jvm.MethodName) prog_35_method_1_code (0 : Nat) (Option.some (Jvm.ClassFile.FieldType.array (Jvm.ClassFile.FieldType.object "com/example/stepgate/stepgate/policy/Level")))]
set_option maxRecDepth 65536 in
theorem codes_eq : words1.filter isCode = codes1 := rfl
theorem w_codes : ∀ c ∈ words1.filter isCode, c.before args0 about1 = true := by
  rw [codes_eq]
  intro c hc
  simp only [codes1, List.mem_cons, List.not_mem_nil, or_false] at hc
  rcases hc with rfl | rfl | rfl
  · exact w_c0
  · exact w_c1
  · exact w_c2
set_option maxRecDepth 65536 in
theorem w_t1 : (words1.take 24).all (fun c => isCode c || c.before args0 about1) = true := by decide +kernel
set_option maxRecDepth 65536 in
theorem w_t2 : (words1.drop 24).all (fun c => isCode c || c.before args0 about1) = true := by decide +kernel
theorem w_tables : (allAtoms (Jvm.Cond.code x code maxLocals ret :: tables_1)).before args0 about1 = true := by
  rw [allAtoms_all]
  show words1.all (fun c => c.before args0 about1) = true
  refine all_split ?_ w_codes
  rw [← List.take_append_drop 24 words1, List.all_append, w_t1, w_t2]
  rfl
set_option maxRecDepth 65536 in
theorem w_case : (Jvm.Cond.and given_1 narrow_1).before args0 about1 = true := by decide +kernel
theorem w_applies : (headSpec (Jvm.Cond.code x code maxLocals ret :: tables_1) room_1).applies x e0.platform about1 = true :=
  (Spec.applies_iff w_frames).mpr ⟨w_running, w_runnable, w_alone, w_named, w_hears, w_ripe, w_room, w_tables⟩
theorem atStart : AtStart classFile x code maxLocals ret World_1 tables_1 room_1 Calls_1 rest_1 Pre_1 launch0 p0 e0 about1 theMethod args0 below0 :=
  ⟨lists_1, trivial, launch0.admits_env _ _ _, launch0.least_env, fairChoices_fair.cas, fairChoices_fair.clock, w_frames, w_args, w_heap, w_applies, trivial, trivial, w_case⟩
end start1
theorem witness_1 : WitnessClaimed_1 := ⟨start1.p0, start1.e0, start1.about1, start1.theMethod, start1.args0, start1.below0, start1.atStart⟩
end Jvm.Pilot.@@N@@
