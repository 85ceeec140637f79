import JvmDerived
import JvmDerived.Pilot.@@N@@Statement
import JvmDerived.Pilot.@@N@@Code
set_option linter.unusedVariables false
set_option linter.unusedSimpArgs false
namespace Jvm.Pilot.@@N@@
open Jvm Jvm.ClassFile Sem Op Lib Jvm.Free Jvm.Stand Jvm.LawKit Jvm.RoadKit Bundle Jvm.Pilot.@@N@@.Jvm.D
section OwnHead
variable {p : Program} {l : Launch} {e : Env} {R : Room} {s : State} {m : MethodId} {args : Array Value} {below : List Frame} {meth : Method} {c : Code} {T T' : State} {locs : List Loc} {cells slots : Nat} {Q : Option Value → Heap → List Loc → Prop} {k n : Nat} {g : JFrame}
/-- from here (the state T, the frame g on top) the call comes to its end, and the end is as Fin says -/
def own_E (p : Program) (e : Env) (below : List Frame) (Fin : Outcome → State → Prop) (T : State) (g : JFrame) : Prop :=
  ∃ s₂ o, Steps p.tables e below (T.setTop g) s₂ ∧ s₂.status = .running ∧ Ended s₂ below o ∧ Fin o s₂
/-- the end of a body that interns nothing: what it returns, the heap and the places written as Q says, within k cells and n slots -/
def own_Fin (s : State) (Q : Option Value → Heap → List Loc → Prop) (k n : Nat) (o : Outcome) (t : State) : Prop := ∃ v L, o = .returned v ∧ Q v t.heap L ∧ FrameEnd s o t L k n
theorem own_start {Fin : Outcome → State → Prop} (h : own_E p e below Fin T g) : ∃ s₂ o, Steps p.tables e below (T.setTop g) s₂ ∧ s₂.status = .running ∧ Ended s₂ below o ∧ Fin o s₂ := h
theorem own_from {Fin : Outcome → State → Prop} (g' : JFrame) (h : ∀ {t}, Steps p.tables e below (T.setTop g') t → Steps p.tables e below (T.setTop g) t) (w : own_E p e below Fin T g') : own_E p e below Fin T g := by
  obtain ⟨s₂, o, h1, r⟩ := w; exact ⟨s₂, o, h h1, r⟩
theorem own_to {Fin : Outcome → State → Prop} (g' : JFrame) (h : ∀ t, Steps p.tables e below (T'.setTop g') t → Steps p.tables e below (T.setTop g) t) (w : own_E p e below Fin T' g') : own_E p e below Fin T g := by
  obtain ⟨s₂, o, h1, r⟩ := w; exact ⟨s₂, o, h _ h1, r⟩
theorem own_via {Fin : Outcome → State → Prop} (g' : JFrame) (h : Steps p.tables e below (T.setTop g) (T'.setTop g')) (w : own_E p e below Fin T' g') : own_E p e below Fin T g := by
  obtain ⟨s₂, o, h1, r⟩ := w; exact ⟨s₂, o, h.trans h1, r⟩
theorem own_end {v : Option Value} {pc : Nat} {Ls : Array Slot} {st : List Value} (X : Stand p l e R s m args below meth c T locs cells slots) (hv : meth.sig.returnType = none → v = none) (hlk : meth.locks = false) (hk : cells ≤ k) (hn : slots ≤ n) (hQ : Q v T.heap locs)
    (hs : ∀ fs, (∀ (f : JFrame) (acts : List Action), f.method = m → f.locked = none → f.entered = [] → (doReturn e (T.setTop f) acts v).1 = T.setFrames fs) → Steps p.tables e below (T.setTop (mkF m pc Ls st)) (T.setFrames fs)) : own_E p e below (own_Fin s Q k n) T (mkF m pc Ls st) := by
  obtain ⟨fs, hr, hrun, hended, hW, hsame⟩ := X.leave (v := v) hv hlk
  exact ⟨_, _, hs fs hr, hrun, hended, _, _, rfl, hQ, ⟨_, rfl⟩, hW, hsame.mono hk hn⟩
theorem own_retN (X : Stand p l e R s m args below meth c T locs cells slots) (hx : p.tables.exec = Jvm.exec) {pc : Nat} {Ls : Array Slot} {z : Int32} {t : FieldType} {rest : List Value} (hret : meth.sig.returnType = some t) (ht : t = .boolean ∨ t = .byte ∨ t = .char ∨ t = .short) (hlk : meth.locks = false)
    (hd : decode c.code pc = .ok (.ireturn, 1)) (hk : cells ≤ k) (hn : slots ≤ n) (hQ : Q (some (.int (nar t z))) T.heap locs) : own_E p e below (own_Fin s Q k n) T (mkF m pc Ls (.int z :: rest)) :=
  own_end X (fun h => by rw [hret] at h; cases h) hlk hk hn hQ fun _ hr => retN X hx hret ht hd hr
theorem own_retI (X : Stand p l e R s m args below meth c T locs cells slots) (hx : p.tables.exec = Jvm.exec) {pc : Nat} {Ls : Array Slot} {z : Int32} {rest : List Value} (hret : meth.sig.returnType = some .int) (hlk : meth.locks = false)
    (hd : decode c.code pc = .ok (.ireturn, 1)) (hk : cells ≤ k) (hn : slots ≤ n) (hQ : Q (some (.int z)) T.heap locs) : own_E p e below (own_Fin s Q k n) T (mkF m pc Ls (.int z :: rest)) :=
  own_end X (fun h => by rw [hret] at h; cases h) hlk hk hn hQ fun _ hr => retOut X hx hret rfl (Or.inl ⟨rfl, Or.inl rfl, _, rfl⟩) hd hr
theorem own_retJ (X : Stand p l e R s m args below meth c T locs cells slots) (hx : p.tables.exec = Jvm.exec) {pc : Nat} {Ls : Array Slot} {z : Int64} {rest : List Value} (hret : meth.sig.returnType = some .long) (hlk : meth.locks = false)
    (hd : decode c.code pc = .ok (.lreturn, 1)) (hk : cells ≤ k) (hn : slots ≤ n) (hQ : Q (some (.long z)) T.heap locs) : own_E p e below (own_Fin s Q k n) T (mkF m pc Ls (.long z :: rest)) :=
  own_end X (fun h => by rw [hret] at h; cases h) hlk hk hn hQ fun _ hr => retOut X hx hret rfl (Or.inr (Or.inl ⟨rfl, rfl, _, rfl⟩)) hd hr
theorem own_retA (X : Stand p l e R s m args below meth c T locs cells slots) (hx : p.tables.exec = Jvm.exec) {pc : Nat} {Ls : Array Slot} {w : Value} {t : FieldType} {rest : List Value} (hret : meth.sig.returnType = some t) (ht : t.isReference = true) (hlk : meth.locks = false)
    (hd : decode c.code pc = .ok (.areturn, 1)) (hw : w.isRef = true) (hk : cells ≤ k) (hn : slots ≤ n) (hQ : Q (some w) T.heap locs) : own_E p e below (own_Fin s Q k n) T (mkF m pc Ls (w :: rest)) :=
  own_end X (fun h => by rw [hret] at h; cases h) hlk hk hn hQ fun _ hr => retOut X hx hret (by cases t <;> first | rfl | cases ht) (Or.inr (Or.inr (Or.inr (Or.inr ⟨rfl, ht, hw⟩)))) hd hr
theorem own_ret0 (X : Stand p l e R s m args below meth c T locs cells slots) (hx : p.tables.exec = Jvm.exec) {pc : Nat} {Ls : Array Slot} (hret : meth.sig.returnType = none) (hlk : meth.locks = false)
    (hd : decode c.code pc = .ok (.return_, 1)) (hk : cells ≤ k) (hn : slots ≤ n) (hQ : Q none T.heap locs) : own_E p e below (own_Fin s Q k n) T (mkF m pc Ls []) :=
  own_end X (fun _ => rfl) hlk hk hn hQ fun _ hr => X.returnOut hx hret hd hr
theorem own_01 {C : Prop} {d : Int32} (h1 : C → d = (0 : Int32)) (h2 : ¬ C → d = (1 : Int32)) : d = 0 ∨ d = 1 := (Classical.em C).elim (fun q => Or.inl (h1 q)) (fun q => Or.inr (h2 q))
theorem own_irr (x : Int32) : ¬ x < x := Int32.lt_irrefl
end OwnHead
section OwnWords
variable {args : Array Value} {s : State} {t : Term} {C n d : String} {a : Addr}
theorem own_fldI {k : Int32} (ht : t.eval args s none [] s = some (.ref a)) (h : (Jvm.Cond.eq (Term.field t C n d) (Term.int k)).value args s none s [] = some true) : Fld s s.heap a C n d (.int k) := by
  obtain ⟨x, y, e1, e2, -, k2⟩ := cmp_v (Or.inl h)
  have q : y = .int k := Option.some.inj (e2.symm.trans (Term.int_eval k))
  subst q
  obtain ⟨z, rfl⟩ := k2
  have q := gotT (Cond.eq_ints e1 (Term.int_eval k)) h
  subst q
  exact Fld.start ((fld_at ht).symm.trans e1)
theorem own_fldJ {k : Int64} (ht : t.eval args s none [] s = some (.ref a)) (h : (Jvm.Cond.eq (Term.field t C n d) (Term.long k)).value args s none s [] = some true) : Fld s s.heap a C n d (.long k) := by
  obtain ⟨x, y, e1, e2, -, k2⟩ := cmp_v (Or.inl h)
  have q : y = .long k := Option.some.inj (e2.symm.trans (long_at k))
  subst q
  obtain ⟨z, rfl⟩ := k2
  have q := gotT (eq_L e1 (long_at k)) h
  subst q
  exact Fld.start ((fld_at ht).symm.trans e1)
end OwnWords
section OwnWide
variable {p : Program} {l : Launch} {e : Env} {R : Room} {s : State} {m : MethodId} {args : Array Value} {below : List Frame} {meth : Method} {c : Code} {T T' : State} {locs : List Loc} {cells slots : Nat} {Q : Option Value → Heap → List Loc → Prop} {k n : Nat} {g : JFrame} {vm₁ : Vm} {k1 : Nat}
/-- the end of a law that may have interned a String constant -/
def own_FinW (s : State) (Q : Option Value → Heap → List Loc → Prop) (k n : Nat) (o : Outcome) (t : State) : Prop := ∃ v L, o = .returned v ∧ Q v t.heap L ∧ ReturnedEndW s o t L k n
theorem own_endW {v : Option Value} {pc : Nat} {Ls : Array Slot} {st : List Value} (X : Stand p l e R (s.setVm vm₁) m args below meth c T locs cells slots) (hS : s.Since vm₁ k1) (hk1 : k1 ≤ T.heap.size) (hv : meth.sig.returnType = none → v = none) (hlk : meth.locks = false) (hk : cells ≤ k) (hn : slots ≤ n) (hQ : Q v T.heap locs)
    (hs : ∀ fs, (∀ (f : JFrame) (acts : List Action), f.method = m → f.locked = none → f.entered = [] → (doReturn e (T.setTop f) acts v).1 = T.setFrames fs) → Steps p.tables e below (T.setTop (mkF m pc Ls st)) (T.setFrames fs)) : own_E p e below (own_FinW s Q k n) T (mkF m pc Ls st) := by
  obtain ⟨fs, hr, hrun, hended, h1, h2, h3, h4⟩ := X.leaveW hS hk1 (v := v) hv hlk
  exact ⟨_, _, hs fs hr, hrun, hended, _, _, rfl, hQ, h1, h2, h3, h4.mono hk hn⟩
theorem own_retNW (X : Stand p l e R (s.setVm vm₁) m args below meth c T locs cells slots) (hS : s.Since vm₁ k1) (hk1 : k1 ≤ T.heap.size) (hx : p.tables.exec = Jvm.exec) {pc : Nat} {Ls : Array Slot} {z : Int32} {t : FieldType} {rest : List Value} (hret : meth.sig.returnType = some t) (ht : t = .boolean ∨ t = .byte ∨ t = .char ∨ t = .short) (hlk : meth.locks = false)
    (hd : decode c.code pc = .ok (.ireturn, 1)) (hk : cells ≤ k) (hn : slots ≤ n) (hQ : Q (some (.int (nar t z))) T.heap locs) : own_E p e below (own_FinW s Q k n) T (mkF m pc Ls (.int z :: rest)) :=
  own_endW X hS hk1 (fun h => by rw [hret] at h; cases h) hlk hk hn hQ fun _ hr => retN X hx hret ht hd hr
end OwnWide
theorem own_d_prog_34_method_4_0 : decode prog_34_method_4_code 0 = .ok (.iload_n 1, 1) := by decide +kernel
theorem own_d_prog_34_method_4_1 : decode prog_34_method_4_code 1 = .ok (.ifCond .eq 17, 3) := by decide +kernel
theorem own_d_prog_34_method_4_18 : decode prog_34_method_4_code 18 = .ok (.iload_n 0, 1) := by decide +kernel
theorem own_d_prog_34_method_4_19 : decode prog_34_method_4_code 19 = .ok (.ifCond .eq 9, 3) := by decide +kernel
theorem own_d_prog_34_method_4_28 : decode prog_34_method_4_code 28 = .ok (.getstatic 3, 3) := by decide +kernel
theorem own_d_prog_34_method_4_22 : decode prog_34_method_4_code 22 = .ok (.getstatic 7, 3) := by decide +kernel
theorem own_d_prog_34_method_4_25 : decode prog_34_method_4_code 25 = .ok (.goto 6, 3) := by decide +kernel
theorem own_d_prog_34_method_4_31 : decode prog_34_method_4_code 31 = .ok (.areturn, 1) := by decide +kernel
theorem own_d_prog_34_method_4_4 : decode prog_34_method_4_code 4 = .ok (.iload_n 0, 1) := by decide +kernel
theorem own_d_prog_34_method_4_5 : decode prog_34_method_4_code 5 = .ok (.ifCond .eq 9, 3) := by decide +kernel
theorem own_d_prog_34_method_4_14 : decode prog_34_method_4_code 14 = .ok (.getstatic 13, 3) := by decide +kernel
theorem own_d_prog_34_method_4_8 : decode prog_34_method_4_code 8 = .ok (.getstatic 10, 3) := by decide +kernel
theorem own_d_prog_34_method_4_11 : decode prog_34_method_4_code 11 = .ok (.goto 6, 3) := by decide +kernel
theorem own_d_prog_34_method_4_17 : decode prog_34_method_4_code 17 = .ok (.areturn, 1) := by decide +kernel
theorem own_d_prog_34_method_5_0 : decode prog_34_method_5_code 0 = .ok (.aload_n 0, 1) := by decide +kernel
theorem own_d_prog_34_method_5_1 : decode prog_34_method_5_code 1 = .ok (.getfield 35, 3) := by decide +kernel
theorem own_d_prog_34_method_5_4 : decode prog_34_method_5_code 4 = .ok (.ireturn, 1) := by decide +kernel
theorem own_d_prog_34_method_6_0 : decode prog_34_method_6_code 0 = .ok (.aload_n 0, 1) := by decide +kernel
theorem own_d_prog_34_method_6_1 : decode prog_34_method_6_code 1 = .ok (.getfield 39, 3) := by decide +kernel
theorem own_d_prog_34_method_6_4 : decode prog_34_method_6_code 4 = .ok (.ireturn, 1) := by decide +kernel
theorem own_pd0 : parseMethodDescriptor "(ZZ)Lfairwheel/Tasklet$Outcome;" = some ⟨[.boolean, .boolean], some (.object "fairwheel/Tasklet$Outcome")⟩ := by decide +kernel
theorem own_pd1 : parseMethodDescriptor "()Z" = some ⟨[], some .boolean⟩ := by decide +kernel
theorem own_pn0 : plainName "fairwheel/Tasklet$Outcome" = true := by first | (simp [plainName, overriddenIn]; done) | decide +kernel
theorem own_pn1 : plainName "fairwheel/OutcomeOfPinLaw" = true := by first | (simp [plainName, overriddenIn]; done) | decide +kernel
theorem own_ef_1 (m : MethodId) (x0 : Int32) (x1 : Int32) : entryFrame m #[(.int x0), (.int x1)] 2 = mkF m 0 #[.val (.int x0), .val (.int x1)] [] := by first | (simp [entryFrame, mkF, argsToLocals, Value.category]; done) | rfl
theorem own_ef_2 (m : MethodId) (x0 : Addr) : entryFrame m #[(.ref x0)] 1 = mkF m 0 #[.val (.ref x0)] [] := by first | (simp [entryFrame, mkF, argsToLocals, Value.category]; done) | rfl
theorem own_ef_3 (m : MethodId) (x0 : Addr) : entryFrame m #[(.ref x0)] 1 = mkF m 0 #[.val (.ref x0)] [] := by first | (simp [entryFrame, mkF, argsToLocals, Value.category]; done) | rfl
theorem own_ef_0 (m : MethodId) (x0 : Int32) (x1 : Int32) : entryFrame m #[(.int x0), (.int x1)] maxLocals = mkF m 0 #[.val (.int x0), .val (.int x1), .unset, .unset, .unset, .unset, .unset] [] := by first | (simp [entryFrame, mkF, argsToLocals, Value.category, maxLocals]; done) | rfl
def own_Q1 (Z : State) (r : Addr) (x0 x1 : Int32) (aN aP aD aW : Addr) (h0 : Heap) (n0 : Nat) (v : Option Value) (h : Heap) (L : List Loc) : Prop := v = some (.ref r) ∧ Fr n0 L ∧ h = h0
set_option maxRecDepth 65536 in
set_option maxHeartbeats 40000000 in
theorem own_rm1 (l : Launch) (Z : State) (a0 : Array Value) (hw : ∀ d ∈ tables_1, d.before a0 Z = true) (ws : List Jvm.Cond) (r : Addr) (x0 x1 : Int32) (aN aP aD aW : Addr) (h0 : Heap) (n0 : Nat) (Z0 : n0 ≤ h0.size) (OL : Old Z n0 h0) (SaN : Sta Z Z.heap "fairwheel/Tasklet$Outcome" "NO_PROGRESS" "Lfairwheel/Tasklet$Outcome;" (.ref aN)) (SaP : Sta Z Z.heap "fairwheel/Tasklet$Outcome" "PROGRESS" "Lfairwheel/Tasklet$Outcome;" (.ref aP)) (SaD : Sta Z Z.heap "fairwheel/Tasklet$Outcome" "DONE" "Lfairwheel/Tasklet$Outcome;" (.ref aD)) (SaW : Sta Z Z.heap "fairwheel/Tasklet$Outcome" "DONE_WITHOUT_PROGRESS" "Lfairwheel/Tasklet$Outcome;" (.ref aW)) (hr : r = if x1 = (0 : Int32) then (if x0 = (0 : Int32) then aN else aP) else (if x0 = (0 : Int32) then aW else aD)) :
    MetFree l (⟨"fairwheel/Tasklet$Outcome", "of", "(ZZ)Lfairwheel/Tasklet$Outcome;"⟩ : MethodName) (head1 (Jvm.Cond.code (⟨"fairwheel/Tasklet$Outcome", "of", "(ZZ)Lfairwheel/Tasklet$Outcome;"⟩ : MethodName) prog_34_method_4_code 2 (some (.object "fairwheel/Tasklet$Outcome")) :: ws) ({ frames := 0, cells := 0, slots := 0, locals := 0 } : Room)) (fun aa_ U => aa_ = #[(.int x0), (.int x1)] ∧ Z.Warmed39 U.vm ∧ U.heap = h0) (fun _ _ _ _ _ => True) (fun _ U o U' => ∃ v L, o = .returned v ∧ own_Q1 Z r x0 x1 aN aP aD aW h0 n0 v U'.heap L ∧ FrameEnd U o U' L ({ frames := 0, cells := 0, slots := 0, locals := 0 } : Room).cells ({ frames := 0, cells := 0, slots := 0, locals := 0 } : Room).slots) := by
  refine MetFree.of_bodySF (plainFor_of_name own_pn0) hisR ?_
  intro p e s m args below meth c s₁ Bd hml0 hP hK
  obtain ⟨rfl, hZ, hh⟩ := hP
  have hx := Bd.exec
  have hby := Bd.bytes
  have hlk : meth.locks = false := BodyLoose.notSynchronized Bd
  have hml : c.maxLocals = 2 := hml0
  have hown : s.vm.findClass "fairwheel/Tasklet$Outcome" = some m.cls := findClass_of_methodNamed Bd.named
  have hnm := (name_of_methodNamed Bd.named Bd.method).1
  have X0 : Stand p l e ({ frames := 0, cells := 0, slots := 0, locals := 0 } : Room) s m #[(.int x0), (.int x1)] below meth c s₁ [] 0 0 := Stand.of_body Bd
  have e0 : s₁.heap = h0 := by rw [← hh, Bd.state]; rfl
  have N0 := Fr.nil n0
  have KP : Keep h0 h0 [] := Keep.refl _ _
  refine own_start (Fin := (own_Fin s (own_Q1 Z r x0 x1 aN aP aD aW h0 n0) ({ frames := 0, cells := 0, slots := 0, locals := 0 } : Room).cells ({ frames := 0, cells := 0, slots := 0, locals := 0 } : Room).slots)) (own_from (mkF m 0 #[iv x0, iv x1] []) (castTop (own_ef_1 m x0 x1)) ?_)
  refine own_to (T' := s₁) (mkF m 1 #[iv x0, iv x1] [(.int x1)]) (fun _ k => XS.iloadN X0.here hx rfl (hb hby own_d_prog_34_method_4_0) rfl k) ?_
  by_cases hq1 : x1 = (0 : Int32)
  · refine own_to (T' := s₁) (mkF m 18 #[iv x0, iv x1] []) (fun _ k => XS.ifYes X0.here hx rfl (pc0 := 1) (pc' := 18) rfl (hb hby own_d_prog_34_method_4_1) rfl ((if0 _ _).trans (teq hq1).1) (by decide) (by decide) k) ?_
    refine own_to (T' := s₁) (mkF m 19 #[iv x0, iv x1] [(.int x0)]) (fun _ k => XS.iloadN X0.here hx rfl (hb hby own_d_prog_34_method_4_18) rfl k) ?_
    by_cases hq0 : x0 = (0 : Int32)
    · refine own_to (T' := s₁) (mkF m 28 #[iv x0, iv x1] []) (fun _ k => XS.ifYes X0.here hx rfl (pc0 := 19) (pc' := 28) rfl (hb hby own_d_prog_34_method_4_19) rfl ((if0 _ _).trans (teq hq0).1) (by decide) (by decide) k) ?_
      obtain ⟨T1, X1, e1, st1⟩ := getS2 X0 hx hZ hown (host := "") (Or.inl (hw _ (List.mem_of_getElem? (i := 23) rfl))) Via.refl e0 (SaN.ext OL.2) (g := (mkF m 28 #[iv x0, iv x1] [])) rfl (hb hby own_d_prog_34_method_4_28)
      refine own_to (mkF m 31 #[iv x0, iv x1] [(.ref aN)]) st1 ?_
      exact own_retA X1 hx Bd.returns rfl hlk (hb hby own_d_prog_34_method_4_31) rfl (by decide) (by decide) (by rw [e1]; exact ⟨by rw [hr, if_pos hq1, if_pos hq0], N0, rfl⟩)
    · refine own_to (T' := s₁) (mkF m 22 #[iv x0, iv x1] []) (fun _ k => XS.ifNo X0.here hx rfl (hb hby own_d_prog_34_method_4_19) rfl ((if0 _ _).trans (feq hq0).1) k) ?_
      obtain ⟨T2, X2, e2, st2⟩ := getS2 X0 hx hZ hown (host := "") (Or.inl (hw _ (List.mem_of_getElem? (i := 29) rfl))) Via.refl e0 (SaP.ext OL.2) (g := (mkF m 22 #[iv x0, iv x1] [])) rfl (hb hby own_d_prog_34_method_4_22)
      refine own_to (mkF m 25 #[iv x0, iv x1] [(.ref aP)]) st2 ?_
      refine own_to (T' := T2) (mkF m 31 #[iv x0, iv x1] [(.ref aP)]) (fun _ k => XS.goto X2.here hx rfl (pc0 := 25) (pc' := 31) rfl (hb hby own_d_prog_34_method_4_25) (by decide) (by decide) k) ?_
      exact own_retA X2 hx Bd.returns rfl hlk (hb hby own_d_prog_34_method_4_31) rfl (by decide) (by decide) (by rw [e2]; exact ⟨by rw [hr, if_pos hq1, if_neg hq0], N0, rfl⟩)
  · refine own_to (T' := s₁) (mkF m 4 #[iv x0, iv x1] []) (fun _ k => XS.ifNo X0.here hx rfl (hb hby own_d_prog_34_method_4_1) rfl ((if0 _ _).trans (feq hq1).1) k) ?_
    refine own_to (T' := s₁) (mkF m 5 #[iv x0, iv x1] [(.int x0)]) (fun _ k => XS.iloadN X0.here hx rfl (hb hby own_d_prog_34_method_4_4) rfl k) ?_
    by_cases hq0 : x0 = (0 : Int32)
    · refine own_to (T' := s₁) (mkF m 14 #[iv x0, iv x1] []) (fun _ k => XS.ifYes X0.here hx rfl (pc0 := 5) (pc' := 14) rfl (hb hby own_d_prog_34_method_4_5) rfl ((if0 _ _).trans (teq hq0).1) (by decide) (by decide) k) ?_
      obtain ⟨T3, X3, e3, st3⟩ := getS2 X0 hx hZ hown (host := "") (Or.inl (hw _ (List.mem_of_getElem? (i := 6) rfl))) Via.refl e0 (SaW.ext OL.2) (g := (mkF m 14 #[iv x0, iv x1] [])) rfl (hb hby own_d_prog_34_method_4_14)
      refine own_to (mkF m 17 #[iv x0, iv x1] [(.ref aW)]) st3 ?_
      exact own_retA X3 hx Bd.returns rfl hlk (hb hby own_d_prog_34_method_4_17) rfl (by decide) (by decide) (by rw [e3]; exact ⟨by rw [hr, if_neg hq1, if_pos hq0], N0, rfl⟩)
    · refine own_to (T' := s₁) (mkF m 8 #[iv x0, iv x1] []) (fun _ k => XS.ifNo X0.here hx rfl (hb hby own_d_prog_34_method_4_5) rfl ((if0 _ _).trans (feq hq0).1) k) ?_
      obtain ⟨T4, X4, e4, st4⟩ := getS2 X0 hx hZ hown (host := "") (Or.inl (hw _ (List.mem_of_getElem? (i := 26) rfl))) Via.refl e0 (SaD.ext OL.2) (g := (mkF m 8 #[iv x0, iv x1] [])) rfl (hb hby own_d_prog_34_method_4_8)
      refine own_to (mkF m 11 #[iv x0, iv x1] [(.ref aD)]) st4 ?_
      refine own_to (T' := T4) (mkF m 17 #[iv x0, iv x1] [(.ref aD)]) (fun _ k => XS.goto X4.here hx rfl (pc0 := 11) (pc' := 17) rfl (hb hby own_d_prog_34_method_4_11) (by decide) (by decide) k) ?_
      exact own_retA X4 hx Bd.returns rfl hlk (hb hby own_d_prog_34_method_4_17) rfl (by decide) (by decide) (by rw [e4]; exact ⟨by rw [hr, if_neg hq1, if_neg hq0], N0, rfl⟩)
def own_Q2 (Z : State) (a : Addr) (y : Int32) (h0 : Heap) (n0 : Nat) (v : Option Value) (h : Heap) (L : List Loc) : Prop := v = some (.int (nar .boolean y)) ∧ Fr n0 L ∧ h = h0
set_option maxRecDepth 65536 in
set_option maxHeartbeats 40000000 in
theorem own_rm2 (l : Launch) (Z : State) (a0 : Array Value) (hw : ∀ d ∈ tables_1, d.before a0 Z = true) (ws : List Jvm.Cond) (a : Addr) (y : Int32) (h0 : Heap) (n0 : Nat) (Z0 : n0 ≤ h0.size) (OL : Old Z n0 h0) (Fa : Fld Z h0 a "fairwheel/Tasklet$Outcome" "progress" "Z" (.int y)) :
    MetFree l (⟨"fairwheel/Tasklet$Outcome", "madeProgress", "()Z"⟩ : MethodName) (head1 (Jvm.Cond.code (⟨"fairwheel/Tasklet$Outcome", "madeProgress", "()Z"⟩ : MethodName) prog_34_method_5_code 1 (some .boolean) :: ws) ({ frames := 0, cells := 0, slots := 0, locals := 0 } : Room)) (fun aa_ U => aa_ = #[(.ref a)] ∧ Z.Warmed39 U.vm ∧ U.heap = h0) (fun _ _ _ _ _ => True) (fun _ U o U' => ∃ v L, o = .returned v ∧ own_Q2 Z a y h0 n0 v U'.heap L ∧ FrameEnd U o U' L ({ frames := 0, cells := 0, slots := 0, locals := 0 } : Room).cells ({ frames := 0, cells := 0, slots := 0, locals := 0 } : Room).slots) := by
  refine MetFree.of_bodySF (plainFor_of_name own_pn0) hisR ?_
  intro p e s m args below meth c s₁ Bd hml0 hP hK
  obtain ⟨rfl, hZ, hh⟩ := hP
  have hx := Bd.exec
  have hby := Bd.bytes
  have hlk : meth.locks = false := BodyLoose.notSynchronized Bd
  have hml : c.maxLocals = 1 := hml0
  have hown : s.vm.findClass "fairwheel/Tasklet$Outcome" = some m.cls := findClass_of_methodNamed Bd.named
  have hnm := (name_of_methodNamed Bd.named Bd.method).1
  have X0 : Stand p l e ({ frames := 0, cells := 0, slots := 0, locals := 0 } : Room) s m #[(.ref a)] below meth c s₁ [] 0 0 := Stand.of_body Bd
  have e0 : s₁.heap = h0 := by rw [← hh, Bd.state]; rfl
  have N0 := Fr.nil n0
  have KP : Keep h0 h0 [] := Keep.refl _ _
  refine own_start (Fin := (own_Fin s (own_Q2 Z a y h0 n0) ({ frames := 0, cells := 0, slots := 0, locals := 0 } : Room).cells ({ frames := 0, cells := 0, slots := 0, locals := 0 } : Room).slots)) (own_from (mkF m 0 #[rv a] []) (castTop (own_ef_2 m a)) ?_)
  refine own_to (T' := s₁) (mkF m 1 #[rv a] [(.ref a)]) (fun _ k => XS.aloadN X0.here hx rfl (hb hby own_d_prog_34_method_5_0) rfl rfl k) ?_
  obtain ⟨T5, X5, e5, st5⟩ := getF X0 hx hZ hown (host := "") (Or.inl (hw _ (List.mem_of_getElem? (i := 12) rfl))) Via.refl e0 Fa (g := (mkF m 1 #[rv a] [(.ref a)])) rfl rfl (hb hby own_d_prog_34_method_5_1)
  refine own_to (mkF m 4 #[rv a] [(.int y)]) st5 ?_
  exact own_retN X5 hx (t := .boolean) Bd.returns (by simp) hlk (hb hby own_d_prog_34_method_5_4) (by decide) (by decide) (by rw [e5]; exact ⟨rfl, N0, rfl⟩)
def own_Q3 (Z : State) (a : Addr) (y : Int32) (h0 : Heap) (n0 : Nat) (v : Option Value) (h : Heap) (L : List Loc) : Prop := v = some (.int (nar .boolean y)) ∧ Fr n0 L ∧ h = h0
set_option maxRecDepth 65536 in
set_option maxHeartbeats 40000000 in
theorem own_rm3 (l : Launch) (Z : State) (a0 : Array Value) (hw : ∀ d ∈ tables_1, d.before a0 Z = true) (ws : List Jvm.Cond) (a : Addr) (y : Int32) (h0 : Heap) (n0 : Nat) (Z0 : n0 ≤ h0.size) (OL : Old Z n0 h0) (Fa : Fld Z h0 a "fairwheel/Tasklet$Outcome" "done" "Z" (.int y)) :
    MetFree l (⟨"fairwheel/Tasklet$Outcome", "isDone", "()Z"⟩ : MethodName) (head1 (Jvm.Cond.code (⟨"fairwheel/Tasklet$Outcome", "isDone", "()Z"⟩ : MethodName) prog_34_method_6_code 1 (some .boolean) :: ws) ({ frames := 0, cells := 0, slots := 0, locals := 0 } : Room)) (fun aa_ U => aa_ = #[(.ref a)] ∧ Z.Warmed39 U.vm ∧ U.heap = h0) (fun _ _ _ _ _ => True) (fun _ U o U' => ∃ v L, o = .returned v ∧ own_Q3 Z a y h0 n0 v U'.heap L ∧ FrameEnd U o U' L ({ frames := 0, cells := 0, slots := 0, locals := 0 } : Room).cells ({ frames := 0, cells := 0, slots := 0, locals := 0 } : Room).slots) := by
  refine MetFree.of_bodySF (plainFor_of_name own_pn0) hisR ?_
  intro p e s m args below meth c s₁ Bd hml0 hP hK
  obtain ⟨rfl, hZ, hh⟩ := hP
  have hx := Bd.exec
  have hby := Bd.bytes
  have hlk : meth.locks = false := BodyLoose.notSynchronized Bd
  have hml : c.maxLocals = 1 := hml0
  have hown : s.vm.findClass "fairwheel/Tasklet$Outcome" = some m.cls := findClass_of_methodNamed Bd.named
  have hnm := (name_of_methodNamed Bd.named Bd.method).1
  have X0 : Stand p l e ({ frames := 0, cells := 0, slots := 0, locals := 0 } : Room) s m #[(.ref a)] below meth c s₁ [] 0 0 := Stand.of_body Bd
  have e0 : s₁.heap = h0 := by rw [← hh, Bd.state]; rfl
  have N0 := Fr.nil n0
  have KP : Keep h0 h0 [] := Keep.refl _ _
  refine own_start (Fin := (own_Fin s (own_Q3 Z a y h0 n0) ({ frames := 0, cells := 0, slots := 0, locals := 0 } : Room).cells ({ frames := 0, cells := 0, slots := 0, locals := 0 } : Room).slots)) (own_from (mkF m 0 #[rv a] []) (castTop (own_ef_3 m a)) ?_)
  refine own_to (T' := s₁) (mkF m 1 #[rv a] [(.ref a)]) (fun _ k => XS.aloadN X0.here hx rfl (hb hby own_d_prog_34_method_6_0) rfl rfl k) ?_
  obtain ⟨T6, X6, e6, st6⟩ := getF X0 hx hZ hown (host := "") (Or.inl (hw _ (List.mem_of_getElem? (i := 19) rfl))) Via.refl e0 Fa (g := (mkF m 1 #[rv a] [(.ref a)])) rfl rfl (hb hby own_d_prog_34_method_6_1)
  refine own_to (mkF m 4 #[rv a] [(.int y)]) st6 ?_
  exact own_retN X6 hx (t := .boolean) Bd.returns (by simp) hlk (hb hby own_d_prog_34_method_6_4) (by decide) (by decide) (by rw [e6]; exact ⟨rfl, N0, rfl⟩)
def own_Q0 (Z : State) (p0 p1 : Int32) (aN aP aD aW : Addr) (h0 : Heap) (n0 : Nat) (v : Option Value) (h : Heap) (L : List Loc) : Prop := v = some (.int 1) ∧ Fr n0 L
set_option maxRecDepth 65536 in
set_option maxHeartbeats 40000000 in
theorem own_rm0 (l : Launch) (Z : State) (a0 : Array Value) (hw : ∀ d ∈ tables_1, d.before a0 Z = true) (ws : List Jvm.Cond) (p0 p1 : Int32) (aN aP aD aW : Addr) (h0 : Heap) (n0 : Nat) (Z0 : n0 ≤ h0.size) (OL : Old Z n0 h0) (SaN : Sta Z Z.heap "fairwheel/Tasklet$Outcome" "NO_PROGRESS" "Lfairwheel/Tasklet$Outcome;" (.ref aN)) (SaP : Sta Z Z.heap "fairwheel/Tasklet$Outcome" "PROGRESS" "Lfairwheel/Tasklet$Outcome;" (.ref aP)) (SaD : Sta Z Z.heap "fairwheel/Tasklet$Outcome" "DONE" "Lfairwheel/Tasklet$Outcome;" (.ref aD)) (SaW : Sta Z Z.heap "fairwheel/Tasklet$Outcome" "DONE_WITHOUT_PROGRESS" "Lfairwheel/Tasklet$Outcome;" (.ref aW)) (EaN : Exa Z Z.heap aN "fairwheel/Tasklet$Outcome") (PaN : Fld Z Z.heap aN "fairwheel/Tasklet$Outcome" "progress" "Z" (.int 0)) (DaN : Fld Z Z.heap aN "fairwheel/Tasklet$Outcome" "done" "Z" (.int 0)) (EaP : Exa Z Z.heap aP "fairwheel/Tasklet$Outcome") (PaP : Fld Z Z.heap aP "fairwheel/Tasklet$Outcome" "progress" "Z" (.int 1)) (DaP : Fld Z Z.heap aP "fairwheel/Tasklet$Outcome" "done" "Z" (.int 0)) (EaD : Exa Z Z.heap aD "fairwheel/Tasklet$Outcome") (PaD : Fld Z Z.heap aD "fairwheel/Tasklet$Outcome" "progress" "Z" (.int 1)) (DaD : Fld Z Z.heap aD "fairwheel/Tasklet$Outcome" "done" "Z" (.int 1)) (EaW : Exa Z Z.heap aW "fairwheel/Tasklet$Outcome") (PaW : Fld Z Z.heap aW "fairwheel/Tasklet$Outcome" "progress" "Z" (.int 0)) (DaW : Fld Z Z.heap aW "fairwheel/Tasklet$Outcome" "done" "Z" (.int 1)) :
    MetFree l x (head1 (Jvm.Cond.code x code maxLocals ret :: ws) room_1) (fun aa_ U => aa_ = #[(.int p0), (.int p1)] ∧ Z.Warmed39 U.vm ∧ U.heap = h0) (fun _ _ _ _ _ => True) (fun _ U o U' => ∃ v L, o = .returned v ∧ own_Q0 Z p0 p1 aN aP aD aW h0 n0 v U'.heap L ∧ FrameEnd U o U' L room_1.cells room_1.slots) := by
  refine MetFree.of_bodySF (plainFor_of_name own_pn1) hisR ?_
  intro p e s m args below meth c s₁ Bd hml0 hP hK
  obtain ⟨rfl, hZ, hh⟩ := hP
  have hx := Bd.exec
  have hby := Bd.bytes
  have hlk : meth.locks = false := BodyLoose.notSynchronized Bd
  have hml : c.maxLocals = 7 := hml0
  have hown : s.vm.findClass "fairwheel/OutcomeOfPinLaw" = some m.cls := findClass_of_methodNamed Bd.named
  have hnm := (name_of_methodNamed Bd.named Bd.method).1
  have X0 : Stand p l e room_1 s m #[(.int p0), (.int p1)] below meth c s₁ [] 0 0 := Stand.of_body Bd
  have e0 : s₁.heap = h0 := by rw [← hh, Bd.state]; rfl
  have N0 := Fr.nil n0
  have KP : Keep h0 h0 [] := Keep.refl _ _
  refine own_start (Fin := (own_Fin s (own_Q0 Z p0 p1 aN aP aD aW h0 n0) room_1.cells room_1.slots)) (own_from (mkF m 0 #[iv p0, iv p1, .unset, .unset, .unset, .unset, .unset] []) (castTop (own_ef_0 m p0 p1)) ?_)
  refine own_to (T' := s₁) (mkF m 1 #[iv p0, iv p1, .unset, .unset, .unset, .unset, .unset] [(.int p0)]) (fun _ k => XS.iloadN X0.here hx rfl (hb hby at_0) rfl k) ?_
  refine own_to (T' := s₁) (mkF m 2 #[iv p0, iv p1, .unset, .unset, .unset, .unset, .unset] [(.int (1 : Int32)), (.int p0)]) (fun _ k => XS.iconst X0.here hx rfl (hb hby at_1) k) ?_
  refine own_to (T' := s₁) (mkF m 3 #[iv p0, iv p1, .unset, .unset, .unset, .unset, .unset] [(.int (p0 &&& (1 : Int32)))]) (fun _ k => XS.iand X0.here hx rfl (hb hby at_2) rfl k) ?_
  by_cases hp : (p0 &&& (1 : Int32)) = (0 : Int32)
  · refine own_to (T' := s₁) (mkF m 10 #[iv p0, iv p1, .unset, .unset, .unset, .unset, .unset] []) (fun _ k => XS.ifYes X0.here hx rfl (pc0 := 3) (pc' := 10) rfl (hb hby at_3) rfl ((if0 _ _).trans (teq hp).1) (by decide) (by decide) k) ?_
    refine own_to (T' := s₁) (mkF m 11 #[iv p0, iv p1, .unset, .unset, .unset, .unset, .unset] [(.int (0 : Int32))]) (fun _ k => XS.iconst X0.here hx rfl (hb hby at_10) k) ?_
    refine own_to (T' := s₁) (mkF m 12 #[iv p0, iv p1, iv 0, .unset, .unset, .unset, .unset] []) (fun _ k => XS.istoreN X0.here hx rfl (hb hby at_11) rfl (l' := #[iv p0, iv p1, iv 0, .unset, .unset, .unset, .unset]) rfl k) ?_
    refine own_to (T' := s₁) (mkF m 13 #[iv p0, iv p1, iv 0, .unset, .unset, .unset, .unset] [(.int p1)]) (fun _ k => XS.iloadN X0.here hx rfl (hb hby at_12) rfl k) ?_
    refine own_to (T' := s₁) (mkF m 14 #[iv p0, iv p1, iv 0, .unset, .unset, .unset, .unset] [(.int (1 : Int32)), (.int p1)]) (fun _ k => XS.iconst X0.here hx rfl (hb hby at_13) k) ?_
    refine own_to (T' := s₁) (mkF m 15 #[iv p0, iv p1, iv 0, .unset, .unset, .unset, .unset] [(.int (p1 &&& (1 : Int32)))]) (fun _ k => XS.iand X0.here hx rfl (hb hby at_14) rfl k) ?_
    by_cases hd : (p1 &&& (1 : Int32)) = (0 : Int32)
    · refine own_to (T' := s₁) (mkF m 22 #[iv p0, iv p1, iv 0, .unset, .unset, .unset, .unset] []) (fun _ k => XS.ifYes X0.here hx rfl (pc0 := 15) (pc' := 22) rfl (hb hby at_15) rfl ((if0 _ _).trans (teq hd).1) (by decide) (by decide) k) ?_
      refine own_to (T' := s₁) (mkF m 23 #[iv p0, iv p1, iv 0, .unset, .unset, .unset, .unset] [(.int (0 : Int32))]) (fun _ k => XS.iconst X0.here hx rfl (hb hby at_22) k) ?_
      refine own_to (T' := s₁) (mkF m 24 #[iv p0, iv p1, iv 0, iv 0, .unset, .unset, .unset] []) (fun _ k => XS.istoreN X0.here hx rfl (hb hby at_23) rfl (l' := #[iv p0, iv p1, iv 0, iv 0, .unset, .unset, .unset]) rfl k) ?_
      refine own_to (T' := s₁) (mkF m 25 #[iv p0, iv p1, iv 0, iv 0, .unset, .unset, .unset] [(.int (0 : Int32))]) (fun _ k => XS.iloadN X0.here hx rfl (hb hby at_24) rfl k) ?_
      refine own_to (T' := s₁) (mkF m 48 #[iv p0, iv p1, iv 0, iv 0, .unset, .unset, .unset] []) (fun _ k => XS.ifYes X0.here hx rfl (pc0 := 25) (pc' := 48) rfl (hb hby at_25) rfl ((if0 _ _).trans (teq (by decide : (0 : Int32) = (0 : Int32))).1) (by decide) (by decide) k) ?_
      refine own_to (T' := s₁) (mkF m 49 #[iv p0, iv p1, iv 0, iv 0, .unset, .unset, .unset] [(.int (0 : Int32))]) (fun _ k => XS.iloadN X0.here hx rfl (hb hby at_48) rfl k) ?_
      refine own_to (T' := s₁) (mkF m 60 #[iv p0, iv p1, iv 0, iv 0, .unset, .unset, .unset] []) (fun _ k => XS.ifYes X0.here hx rfl (pc0 := 49) (pc' := 60) rfl (hb hby at_49) rfl ((if0 _ _).trans (teq (by decide : (0 : Int32) = (0 : Int32))).1) (by decide) (by decide) k) ?_
      obtain ⟨T7, X7, e7, st7⟩ := getS2 X0 hx hZ hown (host := "") (Or.inl (hw _ (List.mem_of_getElem? (i := 21) rfl))) Via.refl e0 (SaN.ext OL.2) (g := (mkF m 60 #[iv p0, iv p1, iv 0, iv 0, .unset, .unset, .unset] [])) rfl (hb hby at_60)
      refine own_to (mkF m 63 #[iv p0, iv p1, iv 0, iv 0, .unset, .unset, .unset] [(.ref aN)]) st7 ?_
      refine own_to (T' := T7) (mkF m 65 #[iv p0, iv p1, iv 0, iv 0, rv aN, .unset, .unset] []) (fun _ k => XS.astore X7.here hx rfl (hb hby at_63) rfl rfl (l' := #[iv p0, iv p1, iv 0, iv 0, rv aN, .unset, .unset]) rfl k) ?_
      refine own_to (T' := T7) (mkF m 66 #[iv p0, iv p1, iv 0, iv 0, rv aN, .unset, .unset] [(.int (0 : Int32))]) (fun _ k => XS.iloadN X7.here hx rfl (hb hby at_65) rfl k) ?_
      refine own_to (T' := T7) (mkF m 67 #[iv p0, iv p1, iv 0, iv 0, rv aN, .unset, .unset] [(.int (0 : Int32)), (.int (0 : Int32))]) (fun _ k => XS.iloadN X7.here hx rfl (hb hby at_66) rfl k) ?_
      obtain ⟨_, _, ⟨T8, L8, k8, n8⟩, -, X8, ⟨Lc8, hQ8, l8, y8, z8⟩, st8⟩ := Jvm.LawKit.callS X7 hx (y := (⟨"fairwheel/Tasklet$Outcome", "of", "(ZZ)Lfairwheel/Tasklet$Outcome;"⟩ : MethodName)) hown (mvT hZ (hw _ (List.mem_of_getElem? (i := 3) rfl))) (mvT hZ (hw _ (List.mem_of_getElem? (i := 4) rfl))) (mvT hZ (hw _ (List.mem_of_getElem? (i := 1) rfl))) (mvT hZ (hw _ (List.mem_of_getElem? (i := 5) rfl))) (by decide) (backOf (W := 0) (own_rm1 l Z a0 hw [] aN (0 : Int32) (0 : Int32) aN aP aD aW h0 n0 (Nat.le_trans Z0 KP.1) OL SaN SaP SaD SaW (by simp)) hZ (hw _ (List.mem_of_getElem? (i := 5) rfl)) (hw _ (List.mem_of_getElem? (i := 1) rfl)) (by decide) (by decide)) (g := (mkF m 67 #[iv p0, iv p1, iv 0, iv 0, rv aN, .unset, .unset] [(.int (0 : Int32)), (.int (0 : Int32))])) rfl (by rw [hml]; rfl) (argsL := [(.int (0 : Int32)), (.int (0 : Int32))]) (rest := []) (lenOf own_pd0 rfl) rfl (by show 2 * 0 + _ ≤ _; exact Nat.le_of_eq rfl) (hb hby at_67) (fun _ _ => ⟨rfl, e7, (by decide : 0 + 0 ≤ _), (by decide : 0 + 0 ≤ _)⟩)
      dsimp only [Pt.U, Pt.locs, Pt.cells, Pt.slots] at X8 l8 y8 z8 st8 hQ8
      subst l8 y8 z8
      obtain ⟨rfl, N8q, e8⟩ := hQ8
      have N8 := Fr.app N0 N8q
      refine own_to (mkF m 70 #[iv p0, iv p1, iv 0, iv 0, rv aN, .unset, .unset] [(.ref aN)]) st8 ?_
      have EE : Exa Z h0 aN "fairwheel/Tasklet$Outcome" := EaN.ext OL.2
      refine own_to (T' := T8) (mkF m 72 #[iv p0, iv p1, iv 0, iv 0, rv aN, rv aN, .unset] []) (fun _ k => XS.astore X8.here hx rfl (hb hby at_70) rfl rfl (l' := #[iv p0, iv p1, iv 0, iv 0, rv aN, rv aN, .unset]) rfl k) ?_
      refine own_to (T' := T8) (mkF m 74 #[iv p0, iv p1, iv 0, iv 0, rv aN, rv aN, .unset] [(.ref aN)]) (fun _ k => XS.aload X8.here hx rfl (hb hby at_72) rfl rfl k) ?_
      refine own_to (T' := T8) (mkF m 79 #[iv p0, iv p1, iv 0, iv 0, rv aN, rv aN, .unset] []) (fun _ k => XS.ifnonnullYes X8.here hx rfl (pc0 := 74) (pc' := 79) rfl (hb hby at_74) rfl (by decide) (by decide) k) ?_
      refine own_to (T' := T8) (mkF m 81 #[iv p0, iv p1, iv 0, iv 0, rv aN, rv aN, .unset] [(.ref aN)]) (fun _ k => XS.aload X8.here hx rfl (hb hby at_79) rfl rfl k) ?_
      obtain ⟨cq9, kq9, q9a, q9b, q9c⟩ := isOf hZ e8 EE
      obtain ⟨_, _, ⟨T9, L9, k9, n9⟩, -, X9, ⟨Lc9, hQ9, l9, y9, z9⟩, st9⟩ := X8.virtualBack hx (y := (⟨"fairwheel/Tasklet$Outcome", "madeProgress", "()Z"⟩ : MethodName)) (z := (⟨"fairwheel/Tasklet$Outcome", "madeProgress", "()Z"⟩ : MethodName)) hown (mvT hZ (hw _ (List.mem_of_getElem? (i := 7) rfl))) (mvT hZ (hw _ (List.mem_of_getElem? (i := 8) rfl))) (notFace_of_selects (args := #[]) (mvT hZ (hw _ (List.mem_of_getElem? (i := 10) rfl)))) (mvT hZ (hw _ (List.mem_of_getElem? (i := 10) rfl))) (mvT hZ (hw _ (List.mem_of_getElem? (i := 9) rfl))) (by decide) (backOf (W := 0) (own_rm2 l Z a0 hw [] aN 0 h0 n0 (Nat.le_trans Z0 KP.1) OL (PaN.ext OL.2)) hZ (hw _ (List.mem_of_getElem? (i := 11) rfl)) (hw _ (List.mem_of_getElem? (i := 1) rfl)) (by decide) (by decide)) q9a q9c (g := (mkF m 81 #[iv p0, iv p1, iv 0, iv 0, rv aN, rv aN, .unset] [(.ref aN)])) rfl (by rw [hml]; rfl) (Steps.refl _) (argsL := []) (rest := []) (lenOf own_pd1 rfl) rfl (by show 2 * 0 + _ ≤ _; exact Nat.le_of_eq rfl) (hb hby at_81) (fun _ _ => ⟨rfl, e8, (by decide : 0 + 0 ≤ _), (by decide : 0 + 0 ≤ _)⟩)
      dsimp only [Pt.U, Pt.locs, Pt.cells, Pt.slots] at X9 l9 y9 z9 st9 hQ9
      subst l9 y9 z9
      obtain ⟨rfl, N9q, e9⟩ := hQ9
      have N9 := Fr.app N8 N9q
      refine own_via (mkF m 84 #[iv p0, iv p1, iv 0, iv 0, rv aN, rv aN, .unset] [(.int (0 : Int32))]) st9 ?_
      refine own_to (T' := T9) (mkF m 85 #[iv p0, iv p1, iv 0, iv 0, rv aN, rv aN, .unset] [(.int (0 : Int32)), (.int (0 : Int32))]) (fun _ k => XS.iloadN X9.here hx rfl (hb hby at_84) rfl k) ?_
      refine own_to (T' := T9) (mkF m 88 #[iv p0, iv p1, iv 0, iv 0, rv aN, rv aN, .unset] []) (fun _ k => XS.icmpNo X9.here hx rfl (hb hby at_85) rfl (teq (by decide : (0 : Int32) = (0 : Int32))).2 k) ?_
      refine own_to (T' := T9) (mkF m 90 #[iv p0, iv p1, iv 0, iv 0, rv aN, rv aN, .unset] [(.ref aN)]) (fun _ k => XS.aload X9.here hx rfl (hb hby at_88) rfl rfl k) ?_
      obtain ⟨cq10, kq10, q10a, q10b, q10c⟩ := isOf hZ e9 EE
      obtain ⟨_, _, ⟨T10, L10, k10, n10⟩, -, X10, ⟨Lc10, hQ10, l10, y10, z10⟩, st10⟩ := X9.virtualBack hx (y := (⟨"fairwheel/Tasklet$Outcome", "isDone", "()Z"⟩ : MethodName)) (z := (⟨"fairwheel/Tasklet$Outcome", "isDone", "()Z"⟩ : MethodName)) hown (mvT hZ (hw _ (List.mem_of_getElem? (i := 14) rfl))) (mvT hZ (hw _ (List.mem_of_getElem? (i := 15) rfl))) (notFace_of_selects (args := #[]) (mvT hZ (hw _ (List.mem_of_getElem? (i := 17) rfl)))) (mvT hZ (hw _ (List.mem_of_getElem? (i := 17) rfl))) (mvT hZ (hw _ (List.mem_of_getElem? (i := 16) rfl))) (by decide) (backOf (W := 0) (own_rm3 l Z a0 hw [] aN 0 h0 n0 (Nat.le_trans Z0 KP.1) OL (DaN.ext OL.2)) hZ (hw _ (List.mem_of_getElem? (i := 18) rfl)) (hw _ (List.mem_of_getElem? (i := 1) rfl)) (by decide) (by decide)) q10a q10c (g := (mkF m 90 #[iv p0, iv p1, iv 0, iv 0, rv aN, rv aN, .unset] [(.ref aN)])) rfl (by rw [hml]; rfl) (Steps.refl _) (argsL := []) (rest := []) (lenOf own_pd1 rfl) rfl (by show 2 * 0 + _ ≤ _; exact Nat.le_of_eq rfl) (hb hby at_90) (fun _ _ => ⟨rfl, e9, (by decide : 0 + 0 ≤ _), (by decide : 0 + 0 ≤ _)⟩)
      dsimp only [Pt.U, Pt.locs, Pt.cells, Pt.slots] at X10 l10 y10 z10 st10 hQ10
      subst l10 y10 z10
      obtain ⟨rfl, N10q, e10⟩ := hQ10
      have N10 := Fr.app N9 N10q
      refine own_via (mkF m 93 #[iv p0, iv p1, iv 0, iv 0, rv aN, rv aN, .unset] [(.int (0 : Int32))]) st10 ?_
      refine own_to (T' := T10) (mkF m 94 #[iv p0, iv p1, iv 0, iv 0, rv aN, rv aN, .unset] [(.int (0 : Int32)), (.int (0 : Int32))]) (fun _ k => XS.iloadN X10.here hx rfl (hb hby at_93) rfl k) ?_
      refine own_to (T' := T10) (mkF m 97 #[iv p0, iv p1, iv 0, iv 0, rv aN, rv aN, .unset] []) (fun _ k => XS.icmpNo X10.here hx rfl (hb hby at_94) rfl (teq (by decide : (0 : Int32) = (0 : Int32))).2 k) ?_
      refine own_to (T' := T10) (mkF m 98 #[iv p0, iv p1, iv 0, iv 0, rv aN, rv aN, .unset] [(.int (1 : Int32))]) (fun _ k => XS.iconst X10.here hx rfl (hb hby at_97) k) ?_
      refine own_to (T' := T10) (mkF m 102 #[iv p0, iv p1, iv 0, iv 0, rv aN, rv aN, .unset] [(.int (1 : Int32))]) (fun _ k => XS.goto X10.here hx rfl (pc0 := 98) (pc' := 102) rfl (hb hby at_98) (by decide) (by decide) k) ?_
      refine own_to (T' := T10) (mkF m 104 #[iv p0, iv p1, iv 0, iv 0, rv aN, rv aN, iv 1] []) (fun _ k => XS.istore X10.here hx rfl (hb hby at_102) rfl (l' := #[iv p0, iv p1, iv 0, iv 0, rv aN, rv aN, iv 1]) rfl k) ?_
      refine own_to (T' := T10) (mkF m 106 #[iv p0, iv p1, iv 0, iv 0, rv aN, rv aN, iv 1] [(.int (1 : Int32))]) (fun _ k => XS.iload X10.here hx rfl (hb hby at_104) rfl k) ?_
      refine own_to (T' := T10) (mkF m 109 #[iv p0, iv p1, iv 0, iv 0, rv aN, rv aN, iv 1] []) (fun _ k => XS.ifNo X10.here hx rfl (hb hby at_106) rfl ((if0 _ _).trans (feq (by decide : ¬ ((1 : Int32) = (0 : Int32)))).1) k) ?_
      refine own_to (T' := T10) (mkF m 111 #[iv p0, iv p1, iv 0, iv 0, rv aN, rv aN, iv 1] [(.ref aN)]) (fun _ k => XS.aload X10.here hx rfl (hb hby at_109) rfl rfl k) ?_
      refine own_to (T' := T10) (mkF m 113 #[iv p0, iv p1, iv 0, iv 0, rv aN, rv aN, iv 1] [(.ref aN), (.ref aN)]) (fun _ k => XS.aload X10.here hx rfl (hb hby at_111) rfl rfl k) ?_
      refine own_to (T' := T10) (mkF m 116 #[iv p0, iv p1, iv 0, iv 0, rv aN, rv aN, iv 1] []) (fun _ k => Jvm.RoadKit.acmp (g := (mkF m 113 #[iv p0, iv p1, iv 0, iv 0, rv aN, rv aN, iv 1] [(.ref aN), (.ref aN)])) X10 hx rfl rfl rfl (pc0 := 113) (pc' := 116) (same := true) rfl (hb hby at_113) rfl (decide_eq_true rfl) (by decide) (by decide) k) ?_
      refine own_to (T' := T10) (mkF m 117 #[iv p0, iv p1, iv 0, iv 0, rv aN, rv aN, iv 1] [(.int (1 : Int32))]) (fun _ k => XS.iconst X10.here hx rfl (hb hby at_116) k) ?_
      refine own_to (T' := T10) (mkF m 121 #[iv p0, iv p1, iv 0, iv 0, rv aN, rv aN, iv 1] [(.int (1 : Int32))]) (fun _ k => XS.goto X10.here hx rfl (pc0 := 117) (pc' := 121) rfl (hb hby at_117) (by decide) (by decide) k) ?_
      exact own_retN X10 hx (t := .boolean) Bd.returns (by simp) hlk (hb hby at_121) (by decide) (by decide) (by rw [e10]; exact ⟨rfl, N10⟩)
    · refine own_to (T' := s₁) (mkF m 18 #[iv p0, iv p1, iv 0, .unset, .unset, .unset, .unset] []) (fun _ k => XS.ifNo X0.here hx rfl (hb hby at_15) rfl ((if0 _ _).trans (feq hd).1) k) ?_
      refine own_to (T' := s₁) (mkF m 19 #[iv p0, iv p1, iv 0, .unset, .unset, .unset, .unset] [(.int (1 : Int32))]) (fun _ k => XS.iconst X0.here hx rfl (hb hby at_18) k) ?_
      refine own_to (T' := s₁) (mkF m 23 #[iv p0, iv p1, iv 0, .unset, .unset, .unset, .unset] [(.int (1 : Int32))]) (fun _ k => XS.goto X0.here hx rfl (pc0 := 19) (pc' := 23) rfl (hb hby at_19) (by decide) (by decide) k) ?_
      refine own_to (T' := s₁) (mkF m 24 #[iv p0, iv p1, iv 0, iv 1, .unset, .unset, .unset] []) (fun _ k => XS.istoreN X0.here hx rfl (hb hby at_23) rfl (l' := #[iv p0, iv p1, iv 0, iv 1, .unset, .unset, .unset]) rfl k) ?_
      refine own_to (T' := s₁) (mkF m 25 #[iv p0, iv p1, iv 0, iv 1, .unset, .unset, .unset] [(.int (1 : Int32))]) (fun _ k => XS.iloadN X0.here hx rfl (hb hby at_24) rfl k) ?_
      refine own_to (T' := s₁) (mkF m 28 #[iv p0, iv p1, iv 0, iv 1, .unset, .unset, .unset] []) (fun _ k => XS.ifNo X0.here hx rfl (hb hby at_25) rfl ((if0 _ _).trans (feq (by decide : ¬ ((1 : Int32) = (0 : Int32)))).1) k) ?_
      refine own_to (T' := s₁) (mkF m 29 #[iv p0, iv p1, iv 0, iv 1, .unset, .unset, .unset] [(.int (0 : Int32))]) (fun _ k => XS.iloadN X0.here hx rfl (hb hby at_28) rfl k) ?_
      refine own_to (T' := s₁) (mkF m 40 #[iv p0, iv p1, iv 0, iv 1, .unset, .unset, .unset] []) (fun _ k => XS.ifYes X0.here hx rfl (pc0 := 29) (pc' := 40) rfl (hb hby at_29) rfl ((if0 _ _).trans (teq (by decide : (0 : Int32) = (0 : Int32))).1) (by decide) (by decide) k) ?_
      obtain ⟨T11, X11, e11, st11⟩ := getS2 X0 hx hZ hown (host := "") (Or.inl (hw _ (List.mem_of_getElem? (i := 0) rfl))) Via.refl e0 (SaW.ext OL.2) (g := (mkF m 40 #[iv p0, iv p1, iv 0, iv 1, .unset, .unset, .unset] [])) rfl (hb hby at_40)
      refine own_to (mkF m 43 #[iv p0, iv p1, iv 0, iv 1, .unset, .unset, .unset] [(.ref aW)]) st11 ?_
      refine own_to (T' := T11) (mkF m 45 #[iv p0, iv p1, iv 0, iv 1, rv aW, .unset, .unset] []) (fun _ k => XS.astore X11.here hx rfl (hb hby at_43) rfl rfl (l' := #[iv p0, iv p1, iv 0, iv 1, rv aW, .unset, .unset]) rfl k) ?_
      refine own_to (T' := T11) (mkF m 65 #[iv p0, iv p1, iv 0, iv 1, rv aW, .unset, .unset] []) (fun _ k => XS.goto X11.here hx rfl (pc0 := 45) (pc' := 65) rfl (hb hby at_45) (by decide) (by decide) k) ?_
      refine own_to (T' := T11) (mkF m 66 #[iv p0, iv p1, iv 0, iv 1, rv aW, .unset, .unset] [(.int (0 : Int32))]) (fun _ k => XS.iloadN X11.here hx rfl (hb hby at_65) rfl k) ?_
      refine own_to (T' := T11) (mkF m 67 #[iv p0, iv p1, iv 0, iv 1, rv aW, .unset, .unset] [(.int (1 : Int32)), (.int (0 : Int32))]) (fun _ k => XS.iloadN X11.here hx rfl (hb hby at_66) rfl k) ?_
      obtain ⟨_, _, ⟨T12, L12, k12, n12⟩, -, X12, ⟨Lc12, hQ12, l12, y12, z12⟩, st12⟩ := Jvm.LawKit.callS X11 hx (y := (⟨"fairwheel/Tasklet$Outcome", "of", "(ZZ)Lfairwheel/Tasklet$Outcome;"⟩ : MethodName)) hown (mvT hZ (hw _ (List.mem_of_getElem? (i := 3) rfl))) (mvT hZ (hw _ (List.mem_of_getElem? (i := 4) rfl))) (mvT hZ (hw _ (List.mem_of_getElem? (i := 1) rfl))) (mvT hZ (hw _ (List.mem_of_getElem? (i := 5) rfl))) (by decide) (backOf (W := 0) (own_rm1 l Z a0 hw [] aW (0 : Int32) (1 : Int32) aN aP aD aW h0 n0 (Nat.le_trans Z0 KP.1) OL SaN SaP SaD SaW (by simp)) hZ (hw _ (List.mem_of_getElem? (i := 5) rfl)) (hw _ (List.mem_of_getElem? (i := 1) rfl)) (by decide) (by decide)) (g := (mkF m 67 #[iv p0, iv p1, iv 0, iv 1, rv aW, .unset, .unset] [(.int (1 : Int32)), (.int (0 : Int32))])) rfl (by rw [hml]; rfl) (argsL := [(.int (0 : Int32)), (.int (1 : Int32))]) (rest := []) (lenOf own_pd0 rfl) rfl (by show 2 * 0 + _ ≤ _; exact Nat.le_of_eq rfl) (hb hby at_67) (fun _ _ => ⟨rfl, e11, (by decide : 0 + 0 ≤ _), (by decide : 0 + 0 ≤ _)⟩)
      dsimp only [Pt.U, Pt.locs, Pt.cells, Pt.slots] at X12 l12 y12 z12 st12 hQ12
      subst l12 y12 z12
      obtain ⟨rfl, N12q, e12⟩ := hQ12
      have N12 := Fr.app N0 N12q
      refine own_to (mkF m 70 #[iv p0, iv p1, iv 0, iv 1, rv aW, .unset, .unset] [(.ref aW)]) st12 ?_
      have EE : Exa Z h0 aW "fairwheel/Tasklet$Outcome" := EaW.ext OL.2
      refine own_to (T' := T12) (mkF m 72 #[iv p0, iv p1, iv 0, iv 1, rv aW, rv aW, .unset] []) (fun _ k => XS.astore X12.here hx rfl (hb hby at_70) rfl rfl (l' := #[iv p0, iv p1, iv 0, iv 1, rv aW, rv aW, .unset]) rfl k) ?_
      refine own_to (T' := T12) (mkF m 74 #[iv p0, iv p1, iv 0, iv 1, rv aW, rv aW, .unset] [(.ref aW)]) (fun _ k => XS.aload X12.here hx rfl (hb hby at_72) rfl rfl k) ?_
      refine own_to (T' := T12) (mkF m 79 #[iv p0, iv p1, iv 0, iv 1, rv aW, rv aW, .unset] []) (fun _ k => XS.ifnonnullYes X12.here hx rfl (pc0 := 74) (pc' := 79) rfl (hb hby at_74) rfl (by decide) (by decide) k) ?_
      refine own_to (T' := T12) (mkF m 81 #[iv p0, iv p1, iv 0, iv 1, rv aW, rv aW, .unset] [(.ref aW)]) (fun _ k => XS.aload X12.here hx rfl (hb hby at_79) rfl rfl k) ?_
      obtain ⟨cq13, kq13, q13a, q13b, q13c⟩ := isOf hZ e12 EE
      obtain ⟨_, _, ⟨T13, L13, k13, n13⟩, -, X13, ⟨Lc13, hQ13, l13, y13, z13⟩, st13⟩ := X12.virtualBack hx (y := (⟨"fairwheel/Tasklet$Outcome", "madeProgress", "()Z"⟩ : MethodName)) (z := (⟨"fairwheel/Tasklet$Outcome", "madeProgress", "()Z"⟩ : MethodName)) hown (mvT hZ (hw _ (List.mem_of_getElem? (i := 7) rfl))) (mvT hZ (hw _ (List.mem_of_getElem? (i := 8) rfl))) (notFace_of_selects (args := #[]) (mvT hZ (hw _ (List.mem_of_getElem? (i := 10) rfl)))) (mvT hZ (hw _ (List.mem_of_getElem? (i := 10) rfl))) (mvT hZ (hw _ (List.mem_of_getElem? (i := 9) rfl))) (by decide) (backOf (W := 0) (own_rm2 l Z a0 hw [] aW 0 h0 n0 (Nat.le_trans Z0 KP.1) OL (PaW.ext OL.2)) hZ (hw _ (List.mem_of_getElem? (i := 11) rfl)) (hw _ (List.mem_of_getElem? (i := 1) rfl)) (by decide) (by decide)) q13a q13c (g := (mkF m 81 #[iv p0, iv p1, iv 0, iv 1, rv aW, rv aW, .unset] [(.ref aW)])) rfl (by rw [hml]; rfl) (Steps.refl _) (argsL := []) (rest := []) (lenOf own_pd1 rfl) rfl (by show 2 * 0 + _ ≤ _; exact Nat.le_of_eq rfl) (hb hby at_81) (fun _ _ => ⟨rfl, e12, (by decide : 0 + 0 ≤ _), (by decide : 0 + 0 ≤ _)⟩)
      dsimp only [Pt.U, Pt.locs, Pt.cells, Pt.slots] at X13 l13 y13 z13 st13 hQ13
      subst l13 y13 z13
      obtain ⟨rfl, N13q, e13⟩ := hQ13
      have N13 := Fr.app N12 N13q
      refine own_via (mkF m 84 #[iv p0, iv p1, iv 0, iv 1, rv aW, rv aW, .unset] [(.int (0 : Int32))]) st13 ?_
      refine own_to (T' := T13) (mkF m 85 #[iv p0, iv p1, iv 0, iv 1, rv aW, rv aW, .unset] [(.int (0 : Int32)), (.int (0 : Int32))]) (fun _ k => XS.iloadN X13.here hx rfl (hb hby at_84) rfl k) ?_
      refine own_to (T' := T13) (mkF m 88 #[iv p0, iv p1, iv 0, iv 1, rv aW, rv aW, .unset] []) (fun _ k => XS.icmpNo X13.here hx rfl (hb hby at_85) rfl (teq (by decide : (0 : Int32) = (0 : Int32))).2 k) ?_
      refine own_to (T' := T13) (mkF m 90 #[iv p0, iv p1, iv 0, iv 1, rv aW, rv aW, .unset] [(.ref aW)]) (fun _ k => XS.aload X13.here hx rfl (hb hby at_88) rfl rfl k) ?_
      obtain ⟨cq14, kq14, q14a, q14b, q14c⟩ := isOf hZ e13 EE
      obtain ⟨_, _, ⟨T14, L14, k14, n14⟩, -, X14, ⟨Lc14, hQ14, l14, y14, z14⟩, st14⟩ := X13.virtualBack hx (y := (⟨"fairwheel/Tasklet$Outcome", "isDone", "()Z"⟩ : MethodName)) (z := (⟨"fairwheel/Tasklet$Outcome", "isDone", "()Z"⟩ : MethodName)) hown (mvT hZ (hw _ (List.mem_of_getElem? (i := 14) rfl))) (mvT hZ (hw _ (List.mem_of_getElem? (i := 15) rfl))) (notFace_of_selects (args := #[]) (mvT hZ (hw _ (List.mem_of_getElem? (i := 17) rfl)))) (mvT hZ (hw _ (List.mem_of_getElem? (i := 17) rfl))) (mvT hZ (hw _ (List.mem_of_getElem? (i := 16) rfl))) (by decide) (backOf (W := 0) (own_rm3 l Z a0 hw [] aW 1 h0 n0 (Nat.le_trans Z0 KP.1) OL (DaW.ext OL.2)) hZ (hw _ (List.mem_of_getElem? (i := 18) rfl)) (hw _ (List.mem_of_getElem? (i := 1) rfl)) (by decide) (by decide)) q14a q14c (g := (mkF m 90 #[iv p0, iv p1, iv 0, iv 1, rv aW, rv aW, .unset] [(.ref aW)])) rfl (by rw [hml]; rfl) (Steps.refl _) (argsL := []) (rest := []) (lenOf own_pd1 rfl) rfl (by show 2 * 0 + _ ≤ _; exact Nat.le_of_eq rfl) (hb hby at_90) (fun _ _ => ⟨rfl, e13, (by decide : 0 + 0 ≤ _), (by decide : 0 + 0 ≤ _)⟩)
      dsimp only [Pt.U, Pt.locs, Pt.cells, Pt.slots] at X14 l14 y14 z14 st14 hQ14
      subst l14 y14 z14
      obtain ⟨rfl, N14q, e14⟩ := hQ14
      have N14 := Fr.app N13 N14q
      refine own_via (mkF m 93 #[iv p0, iv p1, iv 0, iv 1, rv aW, rv aW, .unset] [(.int (1 : Int32))]) st14 ?_
      refine own_to (T' := T14) (mkF m 94 #[iv p0, iv p1, iv 0, iv 1, rv aW, rv aW, .unset] [(.int (1 : Int32)), (.int (1 : Int32))]) (fun _ k => XS.iloadN X14.here hx rfl (hb hby at_93) rfl k) ?_
      refine own_to (T' := T14) (mkF m 97 #[iv p0, iv p1, iv 0, iv 1, rv aW, rv aW, .unset] []) (fun _ k => XS.icmpNo X14.here hx rfl (hb hby at_94) rfl (teq (by decide : (1 : Int32) = (1 : Int32))).2 k) ?_
      refine own_to (T' := T14) (mkF m 98 #[iv p0, iv p1, iv 0, iv 1, rv aW, rv aW, .unset] [(.int (1 : Int32))]) (fun _ k => XS.iconst X14.here hx rfl (hb hby at_97) k) ?_
      refine own_to (T' := T14) (mkF m 102 #[iv p0, iv p1, iv 0, iv 1, rv aW, rv aW, .unset] [(.int (1 : Int32))]) (fun _ k => XS.goto X14.here hx rfl (pc0 := 98) (pc' := 102) rfl (hb hby at_98) (by decide) (by decide) k) ?_
      refine own_to (T' := T14) (mkF m 104 #[iv p0, iv p1, iv 0, iv 1, rv aW, rv aW, iv 1] []) (fun _ k => XS.istore X14.here hx rfl (hb hby at_102) rfl (l' := #[iv p0, iv p1, iv 0, iv 1, rv aW, rv aW, iv 1]) rfl k) ?_
      refine own_to (T' := T14) (mkF m 106 #[iv p0, iv p1, iv 0, iv 1, rv aW, rv aW, iv 1] [(.int (1 : Int32))]) (fun _ k => XS.iload X14.here hx rfl (hb hby at_104) rfl k) ?_
      refine own_to (T' := T14) (mkF m 109 #[iv p0, iv p1, iv 0, iv 1, rv aW, rv aW, iv 1] []) (fun _ k => XS.ifNo X14.here hx rfl (hb hby at_106) rfl ((if0 _ _).trans (feq (by decide : ¬ ((1 : Int32) = (0 : Int32)))).1) k) ?_
      refine own_to (T' := T14) (mkF m 111 #[iv p0, iv p1, iv 0, iv 1, rv aW, rv aW, iv 1] [(.ref aW)]) (fun _ k => XS.aload X14.here hx rfl (hb hby at_109) rfl rfl k) ?_
      refine own_to (T' := T14) (mkF m 113 #[iv p0, iv p1, iv 0, iv 1, rv aW, rv aW, iv 1] [(.ref aW), (.ref aW)]) (fun _ k => XS.aload X14.here hx rfl (hb hby at_111) rfl rfl k) ?_
      refine own_to (T' := T14) (mkF m 116 #[iv p0, iv p1, iv 0, iv 1, rv aW, rv aW, iv 1] []) (fun _ k => Jvm.RoadKit.acmp (g := (mkF m 113 #[iv p0, iv p1, iv 0, iv 1, rv aW, rv aW, iv 1] [(.ref aW), (.ref aW)])) X14 hx rfl rfl rfl (pc0 := 113) (pc' := 116) (same := true) rfl (hb hby at_113) rfl (decide_eq_true rfl) (by decide) (by decide) k) ?_
      refine own_to (T' := T14) (mkF m 117 #[iv p0, iv p1, iv 0, iv 1, rv aW, rv aW, iv 1] [(.int (1 : Int32))]) (fun _ k => XS.iconst X14.here hx rfl (hb hby at_116) k) ?_
      refine own_to (T' := T14) (mkF m 121 #[iv p0, iv p1, iv 0, iv 1, rv aW, rv aW, iv 1] [(.int (1 : Int32))]) (fun _ k => XS.goto X14.here hx rfl (pc0 := 117) (pc' := 121) rfl (hb hby at_117) (by decide) (by decide) k) ?_
      exact own_retN X14 hx (t := .boolean) Bd.returns (by simp) hlk (hb hby at_121) (by decide) (by decide) (by rw [e14]; exact ⟨rfl, N14⟩)
  · refine own_to (T' := s₁) (mkF m 6 #[iv p0, iv p1, .unset, .unset, .unset, .unset, .unset] []) (fun _ k => XS.ifNo X0.here hx rfl (hb hby at_3) rfl ((if0 _ _).trans (feq hp).1) k) ?_
    refine own_to (T' := s₁) (mkF m 7 #[iv p0, iv p1, .unset, .unset, .unset, .unset, .unset] [(.int (1 : Int32))]) (fun _ k => XS.iconst X0.here hx rfl (hb hby at_6) k) ?_
    refine own_to (T' := s₁) (mkF m 11 #[iv p0, iv p1, .unset, .unset, .unset, .unset, .unset] [(.int (1 : Int32))]) (fun _ k => XS.goto X0.here hx rfl (pc0 := 7) (pc' := 11) rfl (hb hby at_7) (by decide) (by decide) k) ?_
    refine own_to (T' := s₁) (mkF m 12 #[iv p0, iv p1, iv 1, .unset, .unset, .unset, .unset] []) (fun _ k => XS.istoreN X0.here hx rfl (hb hby at_11) rfl (l' := #[iv p0, iv p1, iv 1, .unset, .unset, .unset, .unset]) rfl k) ?_
    refine own_to (T' := s₁) (mkF m 13 #[iv p0, iv p1, iv 1, .unset, .unset, .unset, .unset] [(.int p1)]) (fun _ k => XS.iloadN X0.here hx rfl (hb hby at_12) rfl k) ?_
    refine own_to (T' := s₁) (mkF m 14 #[iv p0, iv p1, iv 1, .unset, .unset, .unset, .unset] [(.int (1 : Int32)), (.int p1)]) (fun _ k => XS.iconst X0.here hx rfl (hb hby at_13) k) ?_
    refine own_to (T' := s₁) (mkF m 15 #[iv p0, iv p1, iv 1, .unset, .unset, .unset, .unset] [(.int (p1 &&& (1 : Int32)))]) (fun _ k => XS.iand X0.here hx rfl (hb hby at_14) rfl k) ?_
    by_cases hd : (p1 &&& (1 : Int32)) = (0 : Int32)
    · refine own_to (T' := s₁) (mkF m 22 #[iv p0, iv p1, iv 1, .unset, .unset, .unset, .unset] []) (fun _ k => XS.ifYes X0.here hx rfl (pc0 := 15) (pc' := 22) rfl (hb hby at_15) rfl ((if0 _ _).trans (teq hd).1) (by decide) (by decide) k) ?_
      refine own_to (T' := s₁) (mkF m 23 #[iv p0, iv p1, iv 1, .unset, .unset, .unset, .unset] [(.int (0 : Int32))]) (fun _ k => XS.iconst X0.here hx rfl (hb hby at_22) k) ?_
      refine own_to (T' := s₁) (mkF m 24 #[iv p0, iv p1, iv 1, iv 0, .unset, .unset, .unset] []) (fun _ k => XS.istoreN X0.here hx rfl (hb hby at_23) rfl (l' := #[iv p0, iv p1, iv 1, iv 0, .unset, .unset, .unset]) rfl k) ?_
      refine own_to (T' := s₁) (mkF m 25 #[iv p0, iv p1, iv 1, iv 0, .unset, .unset, .unset] [(.int (0 : Int32))]) (fun _ k => XS.iloadN X0.here hx rfl (hb hby at_24) rfl k) ?_
      refine own_to (T' := s₁) (mkF m 48 #[iv p0, iv p1, iv 1, iv 0, .unset, .unset, .unset] []) (fun _ k => XS.ifYes X0.here hx rfl (pc0 := 25) (pc' := 48) rfl (hb hby at_25) rfl ((if0 _ _).trans (teq (by decide : (0 : Int32) = (0 : Int32))).1) (by decide) (by decide) k) ?_
      refine own_to (T' := s₁) (mkF m 49 #[iv p0, iv p1, iv 1, iv 0, .unset, .unset, .unset] [(.int (1 : Int32))]) (fun _ k => XS.iloadN X0.here hx rfl (hb hby at_48) rfl k) ?_
      refine own_to (T' := s₁) (mkF m 52 #[iv p0, iv p1, iv 1, iv 0, .unset, .unset, .unset] []) (fun _ k => XS.ifNo X0.here hx rfl (hb hby at_49) rfl ((if0 _ _).trans (feq (by decide : ¬ ((1 : Int32) = (0 : Int32)))).1) k) ?_
      obtain ⟨T15, X15, e15, st15⟩ := getS2 X0 hx hZ hown (host := "") (Or.inl (hw _ (List.mem_of_getElem? (i := 27) rfl))) Via.refl e0 (SaP.ext OL.2) (g := (mkF m 52 #[iv p0, iv p1, iv 1, iv 0, .unset, .unset, .unset] [])) rfl (hb hby at_52)
      refine own_to (mkF m 55 #[iv p0, iv p1, iv 1, iv 0, .unset, .unset, .unset] [(.ref aP)]) st15 ?_
      refine own_to (T' := T15) (mkF m 57 #[iv p0, iv p1, iv 1, iv 0, rv aP, .unset, .unset] []) (fun _ k => XS.astore X15.here hx rfl (hb hby at_55) rfl rfl (l' := #[iv p0, iv p1, iv 1, iv 0, rv aP, .unset, .unset]) rfl k) ?_
      refine own_to (T' := T15) (mkF m 65 #[iv p0, iv p1, iv 1, iv 0, rv aP, .unset, .unset] []) (fun _ k => XS.goto X15.here hx rfl (pc0 := 57) (pc' := 65) rfl (hb hby at_57) (by decide) (by decide) k) ?_
      refine own_to (T' := T15) (mkF m 66 #[iv p0, iv p1, iv 1, iv 0, rv aP, .unset, .unset] [(.int (1 : Int32))]) (fun _ k => XS.iloadN X15.here hx rfl (hb hby at_65) rfl k) ?_
      refine own_to (T' := T15) (mkF m 67 #[iv p0, iv p1, iv 1, iv 0, rv aP, .unset, .unset] [(.int (0 : Int32)), (.int (1 : Int32))]) (fun _ k => XS.iloadN X15.here hx rfl (hb hby at_66) rfl k) ?_
      obtain ⟨_, _, ⟨T16, L16, k16, n16⟩, -, X16, ⟨Lc16, hQ16, l16, y16, z16⟩, st16⟩ := Jvm.LawKit.callS X15 hx (y := (⟨"fairwheel/Tasklet$Outcome", "of", "(ZZ)Lfairwheel/Tasklet$Outcome;"⟩ : MethodName)) hown (mvT hZ (hw _ (List.mem_of_getElem? (i := 3) rfl))) (mvT hZ (hw _ (List.mem_of_getElem? (i := 4) rfl))) (mvT hZ (hw _ (List.mem_of_getElem? (i := 1) rfl))) (mvT hZ (hw _ (List.mem_of_getElem? (i := 5) rfl))) (by decide) (backOf (W := 0) (own_rm1 l Z a0 hw [] aP (1 : Int32) (0 : Int32) aN aP aD aW h0 n0 (Nat.le_trans Z0 KP.1) OL SaN SaP SaD SaW (by simp)) hZ (hw _ (List.mem_of_getElem? (i := 5) rfl)) (hw _ (List.mem_of_getElem? (i := 1) rfl)) (by decide) (by decide)) (g := (mkF m 67 #[iv p0, iv p1, iv 1, iv 0, rv aP, .unset, .unset] [(.int (0 : Int32)), (.int (1 : Int32))])) rfl (by rw [hml]; rfl) (argsL := [(.int (1 : Int32)), (.int (0 : Int32))]) (rest := []) (lenOf own_pd0 rfl) rfl (by show 2 * 0 + _ ≤ _; exact Nat.le_of_eq rfl) (hb hby at_67) (fun _ _ => ⟨rfl, e15, (by decide : 0 + 0 ≤ _), (by decide : 0 + 0 ≤ _)⟩)
      dsimp only [Pt.U, Pt.locs, Pt.cells, Pt.slots] at X16 l16 y16 z16 st16 hQ16
      subst l16 y16 z16
      obtain ⟨rfl, N16q, e16⟩ := hQ16
      have N16 := Fr.app N0 N16q
      refine own_to (mkF m 70 #[iv p0, iv p1, iv 1, iv 0, rv aP, .unset, .unset] [(.ref aP)]) st16 ?_
      have EE : Exa Z h0 aP "fairwheel/Tasklet$Outcome" := EaP.ext OL.2
      refine own_to (T' := T16) (mkF m 72 #[iv p0, iv p1, iv 1, iv 0, rv aP, rv aP, .unset] []) (fun _ k => XS.astore X16.here hx rfl (hb hby at_70) rfl rfl (l' := #[iv p0, iv p1, iv 1, iv 0, rv aP, rv aP, .unset]) rfl k) ?_
      refine own_to (T' := T16) (mkF m 74 #[iv p0, iv p1, iv 1, iv 0, rv aP, rv aP, .unset] [(.ref aP)]) (fun _ k => XS.aload X16.here hx rfl (hb hby at_72) rfl rfl k) ?_
      refine own_to (T' := T16) (mkF m 79 #[iv p0, iv p1, iv 1, iv 0, rv aP, rv aP, .unset] []) (fun _ k => XS.ifnonnullYes X16.here hx rfl (pc0 := 74) (pc' := 79) rfl (hb hby at_74) rfl (by decide) (by decide) k) ?_
      refine own_to (T' := T16) (mkF m 81 #[iv p0, iv p1, iv 1, iv 0, rv aP, rv aP, .unset] [(.ref aP)]) (fun _ k => XS.aload X16.here hx rfl (hb hby at_79) rfl rfl k) ?_
      obtain ⟨cq17, kq17, q17a, q17b, q17c⟩ := isOf hZ e16 EE
      obtain ⟨_, _, ⟨T17, L17, k17, n17⟩, -, X17, ⟨Lc17, hQ17, l17, y17, z17⟩, st17⟩ := X16.virtualBack hx (y := (⟨"fairwheel/Tasklet$Outcome", "madeProgress", "()Z"⟩ : MethodName)) (z := (⟨"fairwheel/Tasklet$Outcome", "madeProgress", "()Z"⟩ : MethodName)) hown (mvT hZ (hw _ (List.mem_of_getElem? (i := 7) rfl))) (mvT hZ (hw _ (List.mem_of_getElem? (i := 8) rfl))) (notFace_of_selects (args := #[]) (mvT hZ (hw _ (List.mem_of_getElem? (i := 10) rfl)))) (mvT hZ (hw _ (List.mem_of_getElem? (i := 10) rfl))) (mvT hZ (hw _ (List.mem_of_getElem? (i := 9) rfl))) (by decide) (backOf (W := 0) (own_rm2 l Z a0 hw [] aP 1 h0 n0 (Nat.le_trans Z0 KP.1) OL (PaP.ext OL.2)) hZ (hw _ (List.mem_of_getElem? (i := 11) rfl)) (hw _ (List.mem_of_getElem? (i := 1) rfl)) (by decide) (by decide)) q17a q17c (g := (mkF m 81 #[iv p0, iv p1, iv 1, iv 0, rv aP, rv aP, .unset] [(.ref aP)])) rfl (by rw [hml]; rfl) (Steps.refl _) (argsL := []) (rest := []) (lenOf own_pd1 rfl) rfl (by show 2 * 0 + _ ≤ _; exact Nat.le_of_eq rfl) (hb hby at_81) (fun _ _ => ⟨rfl, e16, (by decide : 0 + 0 ≤ _), (by decide : 0 + 0 ≤ _)⟩)
      dsimp only [Pt.U, Pt.locs, Pt.cells, Pt.slots] at X17 l17 y17 z17 st17 hQ17
      subst l17 y17 z17
      obtain ⟨rfl, N17q, e17⟩ := hQ17
      have N17 := Fr.app N16 N17q
      refine own_via (mkF m 84 #[iv p0, iv p1, iv 1, iv 0, rv aP, rv aP, .unset] [(.int (1 : Int32))]) st17 ?_
      refine own_to (T' := T17) (mkF m 85 #[iv p0, iv p1, iv 1, iv 0, rv aP, rv aP, .unset] [(.int (1 : Int32)), (.int (1 : Int32))]) (fun _ k => XS.iloadN X17.here hx rfl (hb hby at_84) rfl k) ?_
      refine own_to (T' := T17) (mkF m 88 #[iv p0, iv p1, iv 1, iv 0, rv aP, rv aP, .unset] []) (fun _ k => XS.icmpNo X17.here hx rfl (hb hby at_85) rfl (teq (by decide : (1 : Int32) = (1 : Int32))).2 k) ?_
      refine own_to (T' := T17) (mkF m 90 #[iv p0, iv p1, iv 1, iv 0, rv aP, rv aP, .unset] [(.ref aP)]) (fun _ k => XS.aload X17.here hx rfl (hb hby at_88) rfl rfl k) ?_
      obtain ⟨cq18, kq18, q18a, q18b, q18c⟩ := isOf hZ e17 EE
      obtain ⟨_, _, ⟨T18, L18, k18, n18⟩, -, X18, ⟨Lc18, hQ18, l18, y18, z18⟩, st18⟩ := X17.virtualBack hx (y := (⟨"fairwheel/Tasklet$Outcome", "isDone", "()Z"⟩ : MethodName)) (z := (⟨"fairwheel/Tasklet$Outcome", "isDone", "()Z"⟩ : MethodName)) hown (mvT hZ (hw _ (List.mem_of_getElem? (i := 14) rfl))) (mvT hZ (hw _ (List.mem_of_getElem? (i := 15) rfl))) (notFace_of_selects (args := #[]) (mvT hZ (hw _ (List.mem_of_getElem? (i := 17) rfl)))) (mvT hZ (hw _ (List.mem_of_getElem? (i := 17) rfl))) (mvT hZ (hw _ (List.mem_of_getElem? (i := 16) rfl))) (by decide) (backOf (W := 0) (own_rm3 l Z a0 hw [] aP 0 h0 n0 (Nat.le_trans Z0 KP.1) OL (DaP.ext OL.2)) hZ (hw _ (List.mem_of_getElem? (i := 18) rfl)) (hw _ (List.mem_of_getElem? (i := 1) rfl)) (by decide) (by decide)) q18a q18c (g := (mkF m 90 #[iv p0, iv p1, iv 1, iv 0, rv aP, rv aP, .unset] [(.ref aP)])) rfl (by rw [hml]; rfl) (Steps.refl _) (argsL := []) (rest := []) (lenOf own_pd1 rfl) rfl (by show 2 * 0 + _ ≤ _; exact Nat.le_of_eq rfl) (hb hby at_90) (fun _ _ => ⟨rfl, e17, (by decide : 0 + 0 ≤ _), (by decide : 0 + 0 ≤ _)⟩)
      dsimp only [Pt.U, Pt.locs, Pt.cells, Pt.slots] at X18 l18 y18 z18 st18 hQ18
      subst l18 y18 z18
      obtain ⟨rfl, N18q, e18⟩ := hQ18
      have N18 := Fr.app N17 N18q
      refine own_via (mkF m 93 #[iv p0, iv p1, iv 1, iv 0, rv aP, rv aP, .unset] [(.int (0 : Int32))]) st18 ?_
      refine own_to (T' := T18) (mkF m 94 #[iv p0, iv p1, iv 1, iv 0, rv aP, rv aP, .unset] [(.int (0 : Int32)), (.int (0 : Int32))]) (fun _ k => XS.iloadN X18.here hx rfl (hb hby at_93) rfl k) ?_
      refine own_to (T' := T18) (mkF m 97 #[iv p0, iv p1, iv 1, iv 0, rv aP, rv aP, .unset] []) (fun _ k => XS.icmpNo X18.here hx rfl (hb hby at_94) rfl (teq (by decide : (0 : Int32) = (0 : Int32))).2 k) ?_
      refine own_to (T' := T18) (mkF m 98 #[iv p0, iv p1, iv 1, iv 0, rv aP, rv aP, .unset] [(.int (1 : Int32))]) (fun _ k => XS.iconst X18.here hx rfl (hb hby at_97) k) ?_
      refine own_to (T' := T18) (mkF m 102 #[iv p0, iv p1, iv 1, iv 0, rv aP, rv aP, .unset] [(.int (1 : Int32))]) (fun _ k => XS.goto X18.here hx rfl (pc0 := 98) (pc' := 102) rfl (hb hby at_98) (by decide) (by decide) k) ?_
      refine own_to (T' := T18) (mkF m 104 #[iv p0, iv p1, iv 1, iv 0, rv aP, rv aP, iv 1] []) (fun _ k => XS.istore X18.here hx rfl (hb hby at_102) rfl (l' := #[iv p0, iv p1, iv 1, iv 0, rv aP, rv aP, iv 1]) rfl k) ?_
      refine own_to (T' := T18) (mkF m 106 #[iv p0, iv p1, iv 1, iv 0, rv aP, rv aP, iv 1] [(.int (1 : Int32))]) (fun _ k => XS.iload X18.here hx rfl (hb hby at_104) rfl k) ?_
      refine own_to (T' := T18) (mkF m 109 #[iv p0, iv p1, iv 1, iv 0, rv aP, rv aP, iv 1] []) (fun _ k => XS.ifNo X18.here hx rfl (hb hby at_106) rfl ((if0 _ _).trans (feq (by decide : ¬ ((1 : Int32) = (0 : Int32)))).1) k) ?_
      refine own_to (T' := T18) (mkF m 111 #[iv p0, iv p1, iv 1, iv 0, rv aP, rv aP, iv 1] [(.ref aP)]) (fun _ k => XS.aload X18.here hx rfl (hb hby at_109) rfl rfl k) ?_
      refine own_to (T' := T18) (mkF m 113 #[iv p0, iv p1, iv 1, iv 0, rv aP, rv aP, iv 1] [(.ref aP), (.ref aP)]) (fun _ k => XS.aload X18.here hx rfl (hb hby at_111) rfl rfl k) ?_
      refine own_to (T' := T18) (mkF m 116 #[iv p0, iv p1, iv 1, iv 0, rv aP, rv aP, iv 1] []) (fun _ k => Jvm.RoadKit.acmp (g := (mkF m 113 #[iv p0, iv p1, iv 1, iv 0, rv aP, rv aP, iv 1] [(.ref aP), (.ref aP)])) X18 hx rfl rfl rfl (pc0 := 113) (pc' := 116) (same := true) rfl (hb hby at_113) rfl (decide_eq_true rfl) (by decide) (by decide) k) ?_
      refine own_to (T' := T18) (mkF m 117 #[iv p0, iv p1, iv 1, iv 0, rv aP, rv aP, iv 1] [(.int (1 : Int32))]) (fun _ k => XS.iconst X18.here hx rfl (hb hby at_116) k) ?_
      refine own_to (T' := T18) (mkF m 121 #[iv p0, iv p1, iv 1, iv 0, rv aP, rv aP, iv 1] [(.int (1 : Int32))]) (fun _ k => XS.goto X18.here hx rfl (pc0 := 117) (pc' := 121) rfl (hb hby at_117) (by decide) (by decide) k) ?_
      exact own_retN X18 hx (t := .boolean) Bd.returns (by simp) hlk (hb hby at_121) (by decide) (by decide) (by rw [e18]; exact ⟨rfl, N18⟩)
    · refine own_to (T' := s₁) (mkF m 18 #[iv p0, iv p1, iv 1, .unset, .unset, .unset, .unset] []) (fun _ k => XS.ifNo X0.here hx rfl (hb hby at_15) rfl ((if0 _ _).trans (feq hd).1) k) ?_
      refine own_to (T' := s₁) (mkF m 19 #[iv p0, iv p1, iv 1, .unset, .unset, .unset, .unset] [(.int (1 : Int32))]) (fun _ k => XS.iconst X0.here hx rfl (hb hby at_18) k) ?_
      refine own_to (T' := s₁) (mkF m 23 #[iv p0, iv p1, iv 1, .unset, .unset, .unset, .unset] [(.int (1 : Int32))]) (fun _ k => XS.goto X0.here hx rfl (pc0 := 19) (pc' := 23) rfl (hb hby at_19) (by decide) (by decide) k) ?_
      refine own_to (T' := s₁) (mkF m 24 #[iv p0, iv p1, iv 1, iv 1, .unset, .unset, .unset] []) (fun _ k => XS.istoreN X0.here hx rfl (hb hby at_23) rfl (l' := #[iv p0, iv p1, iv 1, iv 1, .unset, .unset, .unset]) rfl k) ?_
      refine own_to (T' := s₁) (mkF m 25 #[iv p0, iv p1, iv 1, iv 1, .unset, .unset, .unset] [(.int (1 : Int32))]) (fun _ k => XS.iloadN X0.here hx rfl (hb hby at_24) rfl k) ?_
      refine own_to (T' := s₁) (mkF m 28 #[iv p0, iv p1, iv 1, iv 1, .unset, .unset, .unset] []) (fun _ k => XS.ifNo X0.here hx rfl (hb hby at_25) rfl ((if0 _ _).trans (feq (by decide : ¬ ((1 : Int32) = (0 : Int32)))).1) k) ?_
      refine own_to (T' := s₁) (mkF m 29 #[iv p0, iv p1, iv 1, iv 1, .unset, .unset, .unset] [(.int (1 : Int32))]) (fun _ k => XS.iloadN X0.here hx rfl (hb hby at_28) rfl k) ?_
      refine own_to (T' := s₁) (mkF m 32 #[iv p0, iv p1, iv 1, iv 1, .unset, .unset, .unset] []) (fun _ k => XS.ifNo X0.here hx rfl (hb hby at_29) rfl ((if0 _ _).trans (feq (by decide : ¬ ((1 : Int32) = (0 : Int32)))).1) k) ?_
      obtain ⟨T19, X19, e19, st19⟩ := getS2 X0 hx hZ hown (host := "") (Or.inl (hw _ (List.mem_of_getElem? (i := 24) rfl))) Via.refl e0 (SaD.ext OL.2) (g := (mkF m 32 #[iv p0, iv p1, iv 1, iv 1, .unset, .unset, .unset] [])) rfl (hb hby at_32)
      refine own_to (mkF m 35 #[iv p0, iv p1, iv 1, iv 1, .unset, .unset, .unset] [(.ref aD)]) st19 ?_
      refine own_to (T' := T19) (mkF m 37 #[iv p0, iv p1, iv 1, iv 1, rv aD, .unset, .unset] []) (fun _ k => XS.astore X19.here hx rfl (hb hby at_35) rfl rfl (l' := #[iv p0, iv p1, iv 1, iv 1, rv aD, .unset, .unset]) rfl k) ?_
      refine own_to (T' := T19) (mkF m 65 #[iv p0, iv p1, iv 1, iv 1, rv aD, .unset, .unset] []) (fun _ k => XS.goto X19.here hx rfl (pc0 := 37) (pc' := 65) rfl (hb hby at_37) (by decide) (by decide) k) ?_
      refine own_to (T' := T19) (mkF m 66 #[iv p0, iv p1, iv 1, iv 1, rv aD, .unset, .unset] [(.int (1 : Int32))]) (fun _ k => XS.iloadN X19.here hx rfl (hb hby at_65) rfl k) ?_
      refine own_to (T' := T19) (mkF m 67 #[iv p0, iv p1, iv 1, iv 1, rv aD, .unset, .unset] [(.int (1 : Int32)), (.int (1 : Int32))]) (fun _ k => XS.iloadN X19.here hx rfl (hb hby at_66) rfl k) ?_
      obtain ⟨_, _, ⟨T20, L20, k20, n20⟩, -, X20, ⟨Lc20, hQ20, l20, y20, z20⟩, st20⟩ := Jvm.LawKit.callS X19 hx (y := (⟨"fairwheel/Tasklet$Outcome", "of", "(ZZ)Lfairwheel/Tasklet$Outcome;"⟩ : MethodName)) hown (mvT hZ (hw _ (List.mem_of_getElem? (i := 3) rfl))) (mvT hZ (hw _ (List.mem_of_getElem? (i := 4) rfl))) (mvT hZ (hw _ (List.mem_of_getElem? (i := 1) rfl))) (mvT hZ (hw _ (List.mem_of_getElem? (i := 5) rfl))) (by decide) (backOf (W := 0) (own_rm1 l Z a0 hw [] aD (1 : Int32) (1 : Int32) aN aP aD aW h0 n0 (Nat.le_trans Z0 KP.1) OL SaN SaP SaD SaW (by simp)) hZ (hw _ (List.mem_of_getElem? (i := 5) rfl)) (hw _ (List.mem_of_getElem? (i := 1) rfl)) (by decide) (by decide)) (g := (mkF m 67 #[iv p0, iv p1, iv 1, iv 1, rv aD, .unset, .unset] [(.int (1 : Int32)), (.int (1 : Int32))])) rfl (by rw [hml]; rfl) (argsL := [(.int (1 : Int32)), (.int (1 : Int32))]) (rest := []) (lenOf own_pd0 rfl) rfl (by show 2 * 0 + _ ≤ _; exact Nat.le_of_eq rfl) (hb hby at_67) (fun _ _ => ⟨rfl, e19, (by decide : 0 + 0 ≤ _), (by decide : 0 + 0 ≤ _)⟩)
      dsimp only [Pt.U, Pt.locs, Pt.cells, Pt.slots] at X20 l20 y20 z20 st20 hQ20
      subst l20 y20 z20
      obtain ⟨rfl, N20q, e20⟩ := hQ20
      have N20 := Fr.app N0 N20q
      refine own_to (mkF m 70 #[iv p0, iv p1, iv 1, iv 1, rv aD, .unset, .unset] [(.ref aD)]) st20 ?_
      have EE : Exa Z h0 aD "fairwheel/Tasklet$Outcome" := EaD.ext OL.2
      refine own_to (T' := T20) (mkF m 72 #[iv p0, iv p1, iv 1, iv 1, rv aD, rv aD, .unset] []) (fun _ k => XS.astore X20.here hx rfl (hb hby at_70) rfl rfl (l' := #[iv p0, iv p1, iv 1, iv 1, rv aD, rv aD, .unset]) rfl k) ?_
      refine own_to (T' := T20) (mkF m 74 #[iv p0, iv p1, iv 1, iv 1, rv aD, rv aD, .unset] [(.ref aD)]) (fun _ k => XS.aload X20.here hx rfl (hb hby at_72) rfl rfl k) ?_
      refine own_to (T' := T20) (mkF m 79 #[iv p0, iv p1, iv 1, iv 1, rv aD, rv aD, .unset] []) (fun _ k => XS.ifnonnullYes X20.here hx rfl (pc0 := 74) (pc' := 79) rfl (hb hby at_74) rfl (by decide) (by decide) k) ?_
      refine own_to (T' := T20) (mkF m 81 #[iv p0, iv p1, iv 1, iv 1, rv aD, rv aD, .unset] [(.ref aD)]) (fun _ k => XS.aload X20.here hx rfl (hb hby at_79) rfl rfl k) ?_
      obtain ⟨cq21, kq21, q21a, q21b, q21c⟩ := isOf hZ e20 EE
      obtain ⟨_, _, ⟨T21, L21, k21, n21⟩, -, X21, ⟨Lc21, hQ21, l21, y21, z21⟩, st21⟩ := X20.virtualBack hx (y := (⟨"fairwheel/Tasklet$Outcome", "madeProgress", "()Z"⟩ : MethodName)) (z := (⟨"fairwheel/Tasklet$Outcome", "madeProgress", "()Z"⟩ : MethodName)) hown (mvT hZ (hw _ (List.mem_of_getElem? (i := 7) rfl))) (mvT hZ (hw _ (List.mem_of_getElem? (i := 8) rfl))) (notFace_of_selects (args := #[]) (mvT hZ (hw _ (List.mem_of_getElem? (i := 10) rfl)))) (mvT hZ (hw _ (List.mem_of_getElem? (i := 10) rfl))) (mvT hZ (hw _ (List.mem_of_getElem? (i := 9) rfl))) (by decide) (backOf (W := 0) (own_rm2 l Z a0 hw [] aD 1 h0 n0 (Nat.le_trans Z0 KP.1) OL (PaD.ext OL.2)) hZ (hw _ (List.mem_of_getElem? (i := 11) rfl)) (hw _ (List.mem_of_getElem? (i := 1) rfl)) (by decide) (by decide)) q21a q21c (g := (mkF m 81 #[iv p0, iv p1, iv 1, iv 1, rv aD, rv aD, .unset] [(.ref aD)])) rfl (by rw [hml]; rfl) (Steps.refl _) (argsL := []) (rest := []) (lenOf own_pd1 rfl) rfl (by show 2 * 0 + _ ≤ _; exact Nat.le_of_eq rfl) (hb hby at_81) (fun _ _ => ⟨rfl, e20, (by decide : 0 + 0 ≤ _), (by decide : 0 + 0 ≤ _)⟩)
      dsimp only [Pt.U, Pt.locs, Pt.cells, Pt.slots] at X21 l21 y21 z21 st21 hQ21
      subst l21 y21 z21
      obtain ⟨rfl, N21q, e21⟩ := hQ21
      have N21 := Fr.app N20 N21q
      refine own_via (mkF m 84 #[iv p0, iv p1, iv 1, iv 1, rv aD, rv aD, .unset] [(.int (1 : Int32))]) st21 ?_
      refine own_to (T' := T21) (mkF m 85 #[iv p0, iv p1, iv 1, iv 1, rv aD, rv aD, .unset] [(.int (1 : Int32)), (.int (1 : Int32))]) (fun _ k => XS.iloadN X21.here hx rfl (hb hby at_84) rfl k) ?_
      refine own_to (T' := T21) (mkF m 88 #[iv p0, iv p1, iv 1, iv 1, rv aD, rv aD, .unset] []) (fun _ k => XS.icmpNo X21.here hx rfl (hb hby at_85) rfl (teq (by decide : (1 : Int32) = (1 : Int32))).2 k) ?_
      refine own_to (T' := T21) (mkF m 90 #[iv p0, iv p1, iv 1, iv 1, rv aD, rv aD, .unset] [(.ref aD)]) (fun _ k => XS.aload X21.here hx rfl (hb hby at_88) rfl rfl k) ?_
      obtain ⟨cq22, kq22, q22a, q22b, q22c⟩ := isOf hZ e21 EE
      obtain ⟨_, _, ⟨T22, L22, k22, n22⟩, -, X22, ⟨Lc22, hQ22, l22, y22, z22⟩, st22⟩ := X21.virtualBack hx (y := (⟨"fairwheel/Tasklet$Outcome", "isDone", "()Z"⟩ : MethodName)) (z := (⟨"fairwheel/Tasklet$Outcome", "isDone", "()Z"⟩ : MethodName)) hown (mvT hZ (hw _ (List.mem_of_getElem? (i := 14) rfl))) (mvT hZ (hw _ (List.mem_of_getElem? (i := 15) rfl))) (notFace_of_selects (args := #[]) (mvT hZ (hw _ (List.mem_of_getElem? (i := 17) rfl)))) (mvT hZ (hw _ (List.mem_of_getElem? (i := 17) rfl))) (mvT hZ (hw _ (List.mem_of_getElem? (i := 16) rfl))) (by decide) (backOf (W := 0) (own_rm3 l Z a0 hw [] aD 1 h0 n0 (Nat.le_trans Z0 KP.1) OL (DaD.ext OL.2)) hZ (hw _ (List.mem_of_getElem? (i := 18) rfl)) (hw _ (List.mem_of_getElem? (i := 1) rfl)) (by decide) (by decide)) q22a q22c (g := (mkF m 90 #[iv p0, iv p1, iv 1, iv 1, rv aD, rv aD, .unset] [(.ref aD)])) rfl (by rw [hml]; rfl) (Steps.refl _) (argsL := []) (rest := []) (lenOf own_pd1 rfl) rfl (by show 2 * 0 + _ ≤ _; exact Nat.le_of_eq rfl) (hb hby at_90) (fun _ _ => ⟨rfl, e21, (by decide : 0 + 0 ≤ _), (by decide : 0 + 0 ≤ _)⟩)
      dsimp only [Pt.U, Pt.locs, Pt.cells, Pt.slots] at X22 l22 y22 z22 st22 hQ22
      subst l22 y22 z22
      obtain ⟨rfl, N22q, e22⟩ := hQ22
      have N22 := Fr.app N21 N22q
      refine own_via (mkF m 93 #[iv p0, iv p1, iv 1, iv 1, rv aD, rv aD, .unset] [(.int (1 : Int32))]) st22 ?_
      refine own_to (T' := T22) (mkF m 94 #[iv p0, iv p1, iv 1, iv 1, rv aD, rv aD, .unset] [(.int (1 : Int32)), (.int (1 : Int32))]) (fun _ k => XS.iloadN X22.here hx rfl (hb hby at_93) rfl k) ?_
      refine own_to (T' := T22) (mkF m 97 #[iv p0, iv p1, iv 1, iv 1, rv aD, rv aD, .unset] []) (fun _ k => XS.icmpNo X22.here hx rfl (hb hby at_94) rfl (teq (by decide : (1 : Int32) = (1 : Int32))).2 k) ?_
      refine own_to (T' := T22) (mkF m 98 #[iv p0, iv p1, iv 1, iv 1, rv aD, rv aD, .unset] [(.int (1 : Int32))]) (fun _ k => XS.iconst X22.here hx rfl (hb hby at_97) k) ?_
      refine own_to (T' := T22) (mkF m 102 #[iv p0, iv p1, iv 1, iv 1, rv aD, rv aD, .unset] [(.int (1 : Int32))]) (fun _ k => XS.goto X22.here hx rfl (pc0 := 98) (pc' := 102) rfl (hb hby at_98) (by decide) (by decide) k) ?_
      refine own_to (T' := T22) (mkF m 104 #[iv p0, iv p1, iv 1, iv 1, rv aD, rv aD, iv 1] []) (fun _ k => XS.istore X22.here hx rfl (hb hby at_102) rfl (l' := #[iv p0, iv p1, iv 1, iv 1, rv aD, rv aD, iv 1]) rfl k) ?_
      refine own_to (T' := T22) (mkF m 106 #[iv p0, iv p1, iv 1, iv 1, rv aD, rv aD, iv 1] [(.int (1 : Int32))]) (fun _ k => XS.iload X22.here hx rfl (hb hby at_104) rfl k) ?_
      refine own_to (T' := T22) (mkF m 109 #[iv p0, iv p1, iv 1, iv 1, rv aD, rv aD, iv 1] []) (fun _ k => XS.ifNo X22.here hx rfl (hb hby at_106) rfl ((if0 _ _).trans (feq (by decide : ¬ ((1 : Int32) = (0 : Int32)))).1) k) ?_
      refine own_to (T' := T22) (mkF m 111 #[iv p0, iv p1, iv 1, iv 1, rv aD, rv aD, iv 1] [(.ref aD)]) (fun _ k => XS.aload X22.here hx rfl (hb hby at_109) rfl rfl k) ?_
      refine own_to (T' := T22) (mkF m 113 #[iv p0, iv p1, iv 1, iv 1, rv aD, rv aD, iv 1] [(.ref aD), (.ref aD)]) (fun _ k => XS.aload X22.here hx rfl (hb hby at_111) rfl rfl k) ?_
      refine own_to (T' := T22) (mkF m 116 #[iv p0, iv p1, iv 1, iv 1, rv aD, rv aD, iv 1] []) (fun _ k => Jvm.RoadKit.acmp (g := (mkF m 113 #[iv p0, iv p1, iv 1, iv 1, rv aD, rv aD, iv 1] [(.ref aD), (.ref aD)])) X22 hx rfl rfl rfl (pc0 := 113) (pc' := 116) (same := true) rfl (hb hby at_113) rfl (decide_eq_true rfl) (by decide) (by decide) k) ?_
      refine own_to (T' := T22) (mkF m 117 #[iv p0, iv p1, iv 1, iv 1, rv aD, rv aD, iv 1] [(.int (1 : Int32))]) (fun _ k => XS.iconst X22.here hx rfl (hb hby at_116) k) ?_
      refine own_to (T' := T22) (mkF m 121 #[iv p0, iv p1, iv 1, iv 1, rv aD, rv aD, iv 1] [(.int (1 : Int32))]) (fun _ k => XS.goto X22.here hx rfl (pc0 := 117) (pc' := 121) rfl (hb hby at_117) (by decide) (by decide) k) ?_
      exact own_retN X22 hx (t := .boolean) Bd.returns (by simp) hlk (hb hby at_121) (by decide) (by decide) (by rw [e22]; exact ⟨rfl, N22⟩)
set_option maxRecDepth 65536 in
set_option maxHeartbeats 40000000 in
theorem own_comes {Post : Tables → Env → Array Value → State → Outcome → State → Prop} (hpost : ∀ tb e args s v u, (limb_1_1.after args s (.returned v) u = true ∧ limb_1_2.after args s (.returned v) u = true ∧ True) → FrameEnd s (.returned v) u (Jvm.fieldLocs frame_1_writes args s ++ Jvm.arrayLocs frame_1_arrays args s ++ Jvm.staticLocs frame_1_statics s) 0 0 → Post tb e args s (.returned v) u) :
    ArmFor flags0 classFile x code maxLocals ret World_1 tables_1 room_1 Calls_1 rest_1 Pre_1 Post := by
  intro l hfl _ _ p e ha hc hk s m args below hf hA hF happ hP
  obtain ⟨hcalls, hrest, hpre⟩ := hP
  obtain ⟨-, -, -, hnamed, -, -, -, hat⟩ := (Spec.applies_iff hf).mp happ
  obtain ⟨hg, hn⟩ := and_e (Cond.before_iff.mp (show (Jvm.Cond.and given_1 narrow_1).before args s = true from hpre))
  obtain ⟨hg0, hgr0⟩ := and_e hg
  obtain ⟨hg1, hgr1⟩ := and_e hgr0
  obtain ⟨w0, w1, rfl⟩ : ∃ w0 w1 : Value, args = #[w0, w1] := by
    have hs : args.size = 2 := by simpa [Cond.value, given_1] using hg0
    obtain ⟨L⟩ := args
    match L, hs with
    | [w0, w1], _ => exact ⟨w0, w1, rfl⟩
  have hw := fun d (hd : d ∈ tables_1) => atoms_spec (ws := Jvm.Cond.code x code maxLocals ret :: tables_1) hat d (List.mem_cons_of_mem _ hd)
  have hfit : Fit s := fun {y c} hc i hi => by
    obtain ⟨ha, rfl⟩ := Array.getElem?_eq_some_iff.mp hc
    have q := List.all_eq_true.mp ((Array.all_eq_true_iff_forall_mem.mp hF) _ (Array.getElem_mem ha)) i (List.mem_range.mpr hi)
    simpa [Array.getElem?_eq_getElem hi] using q
  obtain ⟨i0, ei0⟩ := is_v hg1
  obtain rfl : w0 = (.int i0) := Option.some.inj ei0
  obtain ⟨i1, ei1⟩ := is_v hgr1
  obtain rfl : w1 = (.int i1) := Option.some.inj ei1
  obtain ⟨hx_aW, hr0⟩ := and_e hn
  obtain ⟨hp_aW, hr1⟩ := and_e hr0
  obtain ⟨hd_aW, hr2⟩ := and_e hr1
  obtain ⟨aW, e_aW⟩ := exa_v hx_aW
  have SaW : Sta s s.heap "fairwheel/Tasklet$Outcome" "DONE_WITHOUT_PROGRESS" "Lfairwheel/Tasklet$Outcome;" (.ref aW) := Sta.start e_aW (Or.inr ⟨(hw _ (List.mem_of_getElem? (i := 1) rfl)), (hw _ (List.mem_of_getElem? (i := 2) rfl))⟩)
  have EaW := Exa.start e_aW hx_aW
  have PaW := own_fldI e_aW hp_aW
  have DaW := own_fldI e_aW hd_aW
  obtain ⟨hx_aN, hr3⟩ := and_e hr2
  obtain ⟨hp_aN, hr4⟩ := and_e hr3
  obtain ⟨hd_aN, hr5⟩ := and_e hr4
  obtain ⟨aN, e_aN⟩ := exa_v hx_aN
  have SaN : Sta s s.heap "fairwheel/Tasklet$Outcome" "NO_PROGRESS" "Lfairwheel/Tasklet$Outcome;" (.ref aN) := Sta.start e_aN (Or.inr ⟨(hw _ (List.mem_of_getElem? (i := 1) rfl)), (hw _ (List.mem_of_getElem? (i := 22) rfl))⟩)
  have EaN := Exa.start e_aN hx_aN
  have PaN := own_fldI e_aN hp_aN
  have DaN := own_fldI e_aN hd_aN
  obtain ⟨hx_aD, hr6⟩ := and_e hr5
  obtain ⟨hp_aD, hr7⟩ := and_e hr6
  obtain ⟨hd_aD, hr8⟩ := and_e hr7
  obtain ⟨aD, e_aD⟩ := exa_v hx_aD
  have SaD : Sta s s.heap "fairwheel/Tasklet$Outcome" "DONE" "Lfairwheel/Tasklet$Outcome;" (.ref aD) := Sta.start e_aD (Or.inr ⟨(hw _ (List.mem_of_getElem? (i := 1) rfl)), (hw _ (List.mem_of_getElem? (i := 25) rfl))⟩)
  have EaD := Exa.start e_aD hx_aD
  have PaD := own_fldI e_aD hp_aD
  have DaD := own_fldI e_aD hd_aD
  obtain ⟨hx_aP, hr9⟩ := and_e hr8
  obtain ⟨hp_aP, hr10⟩ := and_e hr9
  have hd_aP := hr10
  obtain ⟨aP, e_aP⟩ := exa_v hx_aP
  have SaP : Sta s s.heap "fairwheel/Tasklet$Outcome" "PROGRESS" "Lfairwheel/Tasklet$Outcome;" (.ref aP) := Sta.start e_aP (Or.inr ⟨(hw _ (List.mem_of_getElem? (i := 1) rfl)), (hw _ (List.mem_of_getElem? (i := 28) rfl))⟩)
  have EaP := Exa.start e_aP hx_aP
  have PaP := own_fldI e_aP hp_aP
  have DaP := own_fldI e_aP hd_aP
  obtain ⟨n, o, h1, h2, h3, _, L, rfl, ⟨rfl, N⟩, hq⟩ := own_rm0 l s _ hw tables_1 i0 i1 aN aP aD aW s.heap s.heap.size (Nat.le_refl _) (Old.start s) SaN SaP SaD SaW EaN PaN DaN EaP PaP DaP EaD PaD DaD EaW PaW DaW p e ha hc hk s m _ below hf ((Spec.applies_iff_loose hf).mp happ).1 ⟨rfl, State.Warmed39.refl s, rfl⟩ trivial
  refine ⟨n, _, h1, h2, h3, hpost _ _ _ _ _ _ ⟨Cond.after_iff.mpr rfl, Cond.after_iff.mpr (eq_i res_at (Term.int_eval (1)) rfl), trivial⟩ ⟨hq.1, hq.2.1, (hq.2.2.sift fun y hy => Or.inr (N y hy)).mono (by decide) (by decide)⟩⟩
theorem main_1_1 : Claimed_1_1 := own_comes fun _ _ _ _ _ _ h hF => ⟨h.1, hF⟩
theorem main_1_2 : Claimed_1_2 := own_comes fun _ _ _ _ _ _ h hF => ⟨h.2.1, hF⟩
end Jvm.Pilot.@@N@@
namespace Jvm.Pilot.@@N@@
open Jvm Jvm.ClassFile Sem Op Lib Jvm.Free Jvm.Stand Jvm.Pilot.@@N@@.Jvm.D
/-! MADE BY PROGRAM (witnessworld.py) out of the Statement's table words and the real class files: 12 classes; the members and pool entries that the words name. The judged class is class 1, her method 1. -/
namespace start1
open Jvm.ClassFile
def u (s : String) : CpInfo := .utf8 (stringToUtf16 s)
/-- a pool by its gaps: so many unusable entries, then the entry; so many at the end -/
def gap : Nat → List CpInfo → List CpInfo
  | 0, r => r
  | n + 1, r => .unusable :: gap n r
def poolList (es : List (Nat × CpInfo)) (last : Nat) : List CpInfo := es.foldr (fun e r => gap e.1 (e.2 :: r)) (gap last [])
def pool (es : List (Nat × CpInfo)) (last : Nat) : Array CpInfo := ⟨poolList es last⟩
def fileOf (pool : Array CpInfo) (this : Nat) (attrs : Array Attribute := #[]) (ms : Array MethodInfo := #[]) (fl : Nat := 33) (sup : Nat := 0) (ifs : Array Nat := #[]) (fds : Array FieldInfo := #[]) : ClassFile where
  minorVersion := 0
  majorVersion := 65
  constantPool := pool
  accessFlags := fl
  thisClass := this
  superClass := sup
  interfaces := ifs
  fields := fds
  methods := ms
  attributes := attrs
def plain (name : String) (sup : Option ClassId) : Class where
  name := name
  kind := .ordinary
  loader := none
  accessFlags := 33
  super := sup
  interfaces := #[]
  cf := none
  fields := #[]
  methods := #[]
  instanceTypes := #[]
  staticTypes := #[]
  resolved := #[]
  callSites := []
  init := .initialized
  statics := none
  mirror := none

def pool0 : Array CpInfo := pool [(5, u "<init>"), (0, u "()V"), (1, .class_ 10), (1, u "java/lang/Object")] 113

def k0m0 : Method := { name := "<init>", desc := "()V", sig := { parameters := [], returnType := none }, accessFlags := 1, code := none }
/-- java/lang/Object -/
def k0 : Class := { plain "java/lang/Object" none with
  accessFlags := 33
  interfaces := #[]
  cf := some (fileOf pool0 8 #[] #[{ accessFlags := 1, nameIndex := 5, descriptorIndex := 6, attributes := #[] }] 33 0 #[] #[])
  fields := #[]
  methods := #[k0m0]
  instanceTypes := #[]
  staticTypes := #[]
  resolved := Array.replicate 124 none
  statics := none }

def pool1 : Array CpInfo := pool [(2, .class_ 4), (1, u "java/lang/Object"), (0, u "<init>"), (0, u "()V"), (0, .fieldref 8 9), (0, .class_ 10), (0, .nameAndType 11 12), (0, u "fairwheel/Tasklet$Outcome"), (0, u "DONE"), (0, u "Lfairwheel/Tasklet$Outcome;"), (0, .fieldref 8 14), (0, .nameAndType 15 12), (0, u "DONE_WITHOUT_PROGRESS"), (0, .fieldref 8 17), (0, .nameAndType 18 12), (0, u "PROGRESS"), (0, .fieldref 8 20), (0, .nameAndType 21 12), (0, u "NO_PROGRESS"), (0, .methodref 8 23), (0, .nameAndType 24 25), (0, u "of"), (0, u "(ZZ)Lfairwheel/Tasklet$Outcome;"), (0, .methodref 8 27), (0, .nameAndType 28 29), (0, u "madeProgress"), (0, u "()Z"), (0, .methodref 8 31), (0, .nameAndType 32 29), (0, u "isDone"), (0, .class_ 34), (0, u "fairwheel/OutcomeOfPinLaw"), (2, u "law"), (0, u "(II)Z")] 7

def k1m0 : Method := { name := "<init>", desc := "()V", sig := { parameters := [], returnType := none }, accessFlags := 2, code := none }
def k1c1 : Code := { maxStack := 2, maxLocals := 7, code := code, exceptionTable := #[], attributes := #[] }
def k1m1 : Method := { name := "law", desc := "(II)Z", sig := { parameters := [.int, .int], returnType := some .boolean }, accessFlags := 9, code := some k1c1 }
/-- fairwheel/OutcomeOfPinLaw -/
def k1 : Class := { plain "fairwheel/OutcomeOfPinLaw" (some 0) with
  accessFlags := 49
  interfaces := #[]
  cf := some (fileOf pool1 33 #[] #[{ accessFlags := 2, nameIndex := 5, descriptorIndex := 6, attributes := #[] }, { accessFlags := 9, nameIndex := 37, descriptorIndex := 38, attributes := #[] }] 49 2 #[] #[])
  fields := #[]
  methods := #[k1m0, k1m1]
  instanceTypes := #[]
  staticTypes := #[]
  resolved := Array.replicate 46 none
  statics := none }

def pool2 : Array CpInfo := pool [(1, .class_ 2), (0, u "java/lang/constant/Constable"), (0, .class_ 4), (0, u "java/lang/Object")] 6

/-- java/lang/constant/Constable -/
def k2 : Class := { plain "java/lang/constant/Constable" (some 0) with
  accessFlags := 1537
  interfaces := #[]
  cf := some (fileOf pool2 1 #[] #[] 1537 3 #[] #[])
  fields := #[]
  methods := #[]
  instanceTypes := #[]
  staticTypes := #[]
  resolved := Array.replicate 11 none
  statics := none }

def pool3 : Array CpInfo := pool [(1, .class_ 2), (0, u "java/lang/Comparable"), (0, .class_ 4), (0, u "java/lang/Object")] 7

/-- java/lang/Comparable -/
def k3 : Class := { plain "java/lang/Comparable" (some 0) with
  accessFlags := 1537
  interfaces := #[]
  cf := some (fileOf pool3 1 #[] #[] 1537 3 #[] #[])
  fields := #[]
  methods := #[]
  instanceTypes := #[]
  staticTypes := #[]
  resolved := Array.replicate 12 none
  statics := none }

def pool4 : Array CpInfo := pool [(1, .class_ 2), (0, u "java/io/Serializable"), (0, .class_ 4), (0, u "java/lang/Object")] 2

/-- java/io/Serializable -/
def k4 : Class := { plain "java/io/Serializable" (some 0) with
  accessFlags := 1537
  interfaces := #[]
  cf := some (fileOf pool4 1 #[] #[] 1537 3 #[] #[])
  fields := #[]
  methods := #[]
  instanceTypes := #[]
  staticTypes := #[]
  resolved := Array.replicate 7 none
  statics := none }

def pool5 : Array CpInfo := pool [(2, .class_ 4), (1, u "java/lang/Enum"), (0, u "name"), (0, u "Ljava/lang/String;"), (2, u "ordinal"), (0, u "I"), (1, .class_ 14), (1, u "java/lang/Object"), (4, u "hash"), (86, .class_ 108), (1, u "java/lang/Enum$EnumDesc"), (2, .class_ 112), (0, u "java/lang/constant/Constable"), (0, .class_ 114), (0, u "java/lang/Comparable"), (0, .class_ 116), (0, u "java/io/Serializable")] 87

/-- java/lang/Enum -/
def k5 : Class := { plain "java/lang/Enum" (some 0) with
  accessFlags := 1057
  interfaces := #[2, 3, 4]
  cf := some (fileOf pool5 2 #[.nestMembers #[106]] #[] 1057 12 #[111, 113, 115] #[{ accessFlags := 18, nameIndex := 5, descriptorIndex := 6, attributes := #[] }, { accessFlags := 18, nameIndex := 9, descriptorIndex := 10, attributes := #[] }, { accessFlags := 2, nameIndex := 19, descriptorIndex := 10, attributes := #[] }])
  fields := #[{ name := "name", type := (.object "java/lang/String"), accessFlags := 18, slot := 0, constantValue := 0 }, { name := "ordinal", type := .int, accessFlags := 18, slot := 1, constantValue := 0 }, { name := "hash", type := .int, accessFlags := 2, slot := 2, constantValue := 0 }]
  methods := #[]
  instanceTypes := #[(.object "java/lang/String"), .int, .int]
  staticTypes := #[]
  resolved := Array.replicate 204 none
  statics := none }

def pool6 : Array CpInfo := pool [(1, .class_ 2), (0, u "fairwheel/Tasklet$Outcome"), (0, .fieldref 1 4), (0, .nameAndType 5 6), (0, u "NO_PROGRESS"), (0, u "Lfairwheel/Tasklet$Outcome;"), (0, .fieldref 1 8), (0, .nameAndType 9 6), (0, u "PROGRESS"), (0, .fieldref 1 11), (0, .nameAndType 12 6), (0, u "DONE"), (0, .fieldref 1 14), (0, .nameAndType 15 6), (0, u "DONE_WITHOUT_PROGRESS"), (2, u "$VALUES"), (0, u "[Lfairwheel/Tasklet$Outcome;"), (6, .class_ 28), (1, u "java/lang/Enum"), (6, .fieldref 1 36), (0, .nameAndType 37 38), (0, u "progress"), (0, u "Z"), (0, .fieldref 1 40), (0, .nameAndType 41 38), (0, u "done"), (18, u "of"), (0, u "(ZZ)Lfairwheel/Tasklet$Outcome;"), (1, u "madeProgress"), (0, u "()Z"), (0, u "isDone"), (6, .class_ 73), (0, u "fairwheel/Tasklet")] 2

def k6c0 : Code := { maxStack := 1, maxLocals := 2, code := prog_34_method_4_code, exceptionTable := #[], attributes := #[] }
def k6m0 : Method := { name := "of", desc := "(ZZ)Lfairwheel/Tasklet$Outcome;", sig := { parameters := [.boolean, .boolean], returnType := some (.object "fairwheel/Tasklet$Outcome") }, accessFlags := 9, code := some k6c0 }
def k6c1 : Code := { maxStack := 1, maxLocals := 1, code := prog_34_method_5_code, exceptionTable := #[], attributes := #[] }
def k6m1 : Method := { name := "madeProgress", desc := "()Z", sig := { parameters := [], returnType := some .boolean }, accessFlags := 1, code := some k6c1 }
def k6c2 : Code := { maxStack := 1, maxLocals := 1, code := prog_34_method_6_code, exceptionTable := #[], attributes := #[] }
def k6m2 : Method := { name := "isDone", desc := "()Z", sig := { parameters := [], returnType := some .boolean }, accessFlags := 1, code := some k6c2 }
/-- fairwheel/Tasklet$Outcome -/
def k6 : Class := { plain "fairwheel/Tasklet$Outcome" (some 5) with
  accessFlags := 16433
  interfaces := #[]
  cf := some (fileOf pool6 1 #[.nestHost 72] #[{ accessFlags := 9, nameIndex := 60, descriptorIndex := 61, attributes := #[] }, { accessFlags := 1, nameIndex := 63, descriptorIndex := 64, attributes := #[] }, { accessFlags := 1, nameIndex := 65, descriptorIndex := 64, attributes := #[] }] 16433 26 #[] #[{ accessFlags := 16409, nameIndex := 5, descriptorIndex := 6, attributes := #[] }, { accessFlags := 16409, nameIndex := 9, descriptorIndex := 6, attributes := #[] }, { accessFlags := 16409, nameIndex := 12, descriptorIndex := 6, attributes := #[] }, { accessFlags := 16409, nameIndex := 15, descriptorIndex := 6, attributes := #[] }, { accessFlags := 18, nameIndex := 37, descriptorIndex := 38, attributes := #[] }, { accessFlags := 18, nameIndex := 41, descriptorIndex := 38, attributes := #[] }, { accessFlags := 4122, nameIndex := 18, descriptorIndex := 19, attributes := #[] }])
  fields := #[{ name := "NO_PROGRESS", type := (.object "fairwheel/Tasklet$Outcome"), accessFlags := 16409, slot := 0, constantValue := 0 }, { name := "PROGRESS", type := (.object "fairwheel/Tasklet$Outcome"), accessFlags := 16409, slot := 1, constantValue := 0 }, { name := "DONE", type := (.object "fairwheel/Tasklet$Outcome"), accessFlags := 16409, slot := 2, constantValue := 0 }, { name := "DONE_WITHOUT_PROGRESS", type := (.object "fairwheel/Tasklet$Outcome"), accessFlags := 16409, slot := 3, constantValue := 0 }, { name := "progress", type := .boolean, accessFlags := 18, slot := 3, constantValue := 0 }, { name := "done", type := .boolean, accessFlags := 18, slot := 4, constantValue := 0 }, { name := "$VALUES", type := (.array (.object "fairwheel/Tasklet$Outcome")), accessFlags := 4122, slot := 4, constantValue := 0 }]
  methods := #[k6m0, k6m1, k6m2]
  instanceTypes := #[(.object "java/lang/String"), .int, .int, .boolean, .boolean]
  staticTypes := #[(.object "fairwheel/Tasklet$Outcome"), (.object "fairwheel/Tasklet$Outcome"), (.object "fairwheel/Tasklet$Outcome"), (.object "fairwheel/Tasklet$Outcome"), (.array (.object "fairwheel/Tasklet$Outcome"))]
  resolved := Array.replicate 76 none
  statics := some 0 }

def pool7 : Array CpInfo := pool [(1, u "java/lang/Cloneable"), (0, .class_ 1), (0, u "java/lang/Object"), (0, .class_ 3)] 3

/-- java/lang/Cloneable -/
def k7 : Class := { plain "java/lang/Cloneable" (some 0) with
  accessFlags := 1537
  interfaces := #[]
  cf := some (fileOf pool7 2 #[] #[] 1537 4 #[] #[])
  fields := #[]
  methods := #[]
  instanceTypes := #[]
  staticTypes := #[]
  resolved := Array.replicate 8 none
  statics := none }

/-- the primitive byte -/
def k8 : Class := { plain "byte" none with kind := .primitive 'B', accessFlags := 0x411 }
/-- [B -/
def k9 : Class := { plain "[B" (some 0) with kind := .array 8 .byte, interfaces := #[7, 4], accessFlags := 1041 }

/-- the primitive int -/
def k10 : Class := { plain "int" none with kind := .primitive 'I', accessFlags := 0x411 }
/-- [I -/
def k11 : Class := { plain "[I" (some 0) with kind := .array 10 .int, interfaces := #[7, 4], accessFlags := 1041 }

def heap : Heap := #[{ cls := 6, slots := #[.ref 1, .ref 2, .ref 3, .ref 4, .null], vm := .statics 6 },
  { cls := 6, slots := #[.null, .int 0, .int 0, .int 0, .int 0], vm := .none },
  { cls := 6, slots := #[.null, .int 1, .int 0, .int 1, .int 0], vm := .none },
  { cls := 6, slots := #[.null, .int 2, .int 0, .int 1, .int 1], vm := .none },
  { cls := 6, slots := #[.null, .int 3, .int 0, .int 0, .int 1], vm := .none }]
def classes : Array Class := #[k0, k1, k2, k3, k4, k5, k6, k7, k8, k9, k10, k11]
def interned : List (Array UInt16 × Addr) := []
def slotsUsed : Nat := 25
def theMethod : MethodId := ⟨1, 1⟩
def args0 : Array Value := #[.int 5, .int 3]
def aboutOver (below : List Frame) : State where
  vm := { classes := classes, interned := interned.toArray }
  heap := heap
  slotsUsed := slotsUsed
  threads := #[{ frames := .invoking theMethod args0 :: below }]
def below0 : List Frame := [.native { method := ⟨0, 0⟩, args := #[] }]
def about1 : State := aboutOver below0
def p0 : Program := .bare "" "" ""
def e0 : Env := launch0.env 0 0 0
theorem w_frames : about1.frames = Frame.invoking theMethod args0 :: below0 := rfl
set_option maxRecDepth 65536 in
theorem w_args : argsFit about1.vm theMethod args0 = true := by decide +kernel
set_option maxRecDepth 65536 in
theorem w_heap : heapFits about1 = true := by decide +kernel
set_option maxRecDepth 65536 in
theorem w_runnable : about1.curStatus? = some .runnable := by decide +kernel
set_option maxRecDepth 65536 in
theorem w_alone : about1.alone = true := by decide +kernel
set_option maxRecDepth 65536 in
theorem w_named : about1.methodNamed? x = some theMethod := by decide +kernel
set_option maxRecDepth 65536 in
theorem w_hears : about1.hears theMethod below0 = true := by decide +kernel
set_option maxRecDepth 65536 in
theorem w_ripe : about1.ripe theMethod args0 below0 = true := by decide +kernel
theorem w_running : about1.status = .running := rfl
set_option maxRecDepth 65536 in
theorem w_room : about1.hasRoom e0.platform room_1 = true :=
  launch0.hasRoom_least _ room_1 (by decide +kernel) (by decide +kernel) (by decide +kernel) (by decide +kernel) (by decide +kernel) (by decide +kernel)
theorem allAtoms_all (ts : List Jvm.Cond) (a : Array Jvm.Value) (st : Jvm.State) : (allAtoms ts).before a st = ts.all (fun c => c.before a st) := by
  induction ts with
  | nil => rfl
  | cons c t ih =>
    show (Jvm.Cond.and c (allAtoms t)).before a st = _
    rw [Jvm.Cond.before_and, ih, List.all_cons]
def words1 : List Jvm.Cond := Jvm.Cond.code x code maxLocals ret :: tables_1
/-- a 'code' word, met by the world's own term for the bytes: nothing is compared byte by byte -/
theorem code_word {y : MethodName} {bytes : ByteArray} {mx : Nat} {rt : Option FieldType} {a : Array Value} {s : State} {m : MethodId} {meth : Method} {c : Code} (h1 : s.methodNamed? y = some m) (h2 : s.vm.method? m = some meth) (h3 : meth.code = some c) (h4 : c.code = bytes)
    (h5 : (c.maxLocals == mx && c.exceptionTable.isEmpty && decide (c.maxStack ≤ mostOperands) && decide (meth.sig.returnType = rt) && !meth.locks && decide (parseMethodDescriptor y.desc = some meth.sig)) = true) : (Jvm.Cond.code y bytes mx rt).before a s = true := by
  simp only [Bool.and_eq_true, beq_iff_eq, Bool.not_eq_true', decide_eq_true_eq] at h5
  obtain ⟨⟨⟨⟨⟨g1, g2⟩, g3⟩, g4⟩, g5⟩, g6⟩ := h5
  simp [Cond.before, Cond.holds, Cond.value, h1, h2, h3, h4, g1, g2, g3, g4, g5, g6]
def isCode : Jvm.Cond → Bool
  | .code _ _ _ _ => true
  | _ => false
theorem all_split {L : List Jvm.Cond} {P : Jvm.Cond → Bool} (h1 : L.all (fun c => isCode c || P c) = true) (h2 : ∀ c ∈ L.filter isCode, P c = true) : L.all P = true := by
  refine List.all_eq_true.mpr fun c hc => ?_
  have h := List.all_eq_true.mp h1 c hc
  rcases Bool.eq_false_or_eq_true (isCode c) with hi | hi
  · exact h2 c (List.mem_filter.mpr ⟨hc, hi⟩)
  · simpa [hi] using h
set_option maxRecDepth 65536 in
theorem w_c0 : (Jvm.Cond.code x code maxLocals ret).before args0 about1 = true := code_word (m := ⟨1, 1⟩) (meth := k1m1) (c := k1c1) (by decide +kernel) rfl rfl rfl (by decide +kernel)
set_option maxRecDepth 65536 in
theorem w_c1 : (Jvm.Cond.code ({ cls := "fairwheel/Tasklet$Outcome", name := "of", desc := "(ZZ)Lfairwheel/Tasklet$Outcome;" } : Jvm.MethodName) prog_34_method_4_code (2 : Nat) (Option.some (Jvm.ClassFile.FieldType.object "fairwheel/Tasklet$Outcome"))).before args0 about1 = true := code_word (m := ⟨6, 0⟩) (meth := k6m0) (c := k6c0) (by decide +kernel) rfl rfl rfl (by decide +kernel)
set_option maxRecDepth 65536 in
theorem w_c2 : (Jvm.Cond.code ({ cls := "fairwheel/Tasklet$Outcome", name := "madeProgress", desc := "()Z" } : Jvm.MethodName) prog_34_method_5_code (1 : Nat) (Option.some Jvm.ClassFile.FieldType.boolean)).before args0 about1 = true := code_word (m := ⟨6, 1⟩) (meth := k6m1) (c := k6c1) (by decide +kernel) rfl rfl rfl (by decide +kernel)
set_option maxRecDepth 65536 in
theorem w_c3 : (Jvm.Cond.code ({ cls := "fairwheel/Tasklet$Outcome", name := "isDone", desc := "()Z" } : Jvm.MethodName) prog_34_method_6_code (1 : Nat) (Option.some Jvm.ClassFile.FieldType.boolean)).before args0 about1 = true := code_word (m := ⟨6, 2⟩) (meth := k6m2) (c := k6c2) (by decide +kernel) rfl rfl rfl (by decide +kernel)
def codes1 : List Jvm.Cond := [Jvm.Cond.code x code maxLocals ret, Jvm.Cond.code ({ cls := "fairwheel/Tasklet$Outcome", name := "of", desc := "(ZZ)Lfairwheel/Tasklet$Outcome;" } : Jvm.MethodName) prog_34_method_4_code (2 : Nat) (Option.some (Jvm.ClassFile.FieldType.object "fairwheel/Tasklet$Outcome")), Jvm.Cond.code ({ cls := "fairwheel/Tasklet$Outcome", name := "madeProgress", desc := "()Z" } : Jvm.MethodName) prog_34_method_5_code (1 : Nat) (Option.some Jvm.ClassFile.FieldType.boolean), Jvm.Cond.code ({ cls := "fairwheel/Tasklet$Outcome", name := "isDone", desc := "()Z" } : Jvm.MethodName) prog_34_method_6_code (1 : Nat) (Option.some Jvm.ClassFile.FieldType.boolean)]
set_option maxRecDepth 65536 in
theorem codes_eq : words1.filter isCode = codes1 := rfl
theorem w_codes : ∀ c ∈ words1.filter isCode, c.before args0 about1 = true := by
  rw [codes_eq]
  intro c hc
  simp only [codes1, List.mem_cons, List.not_mem_nil, or_false] at hc
  rcases hc with rfl | rfl | rfl | rfl
  · exact w_c0
  · exact w_c1
  · exact w_c2
  · exact w_c3
set_option maxRecDepth 65536 in
theorem w_t1 : (words1.take 24).all (fun c => isCode c || c.before args0 about1) = true := by decide +kernel
set_option maxRecDepth 65536 in
theorem w_t2 : (words1.drop 24).all (fun c => isCode c || c.before args0 about1) = true := by decide +kernel
theorem w_tables : (allAtoms (Jvm.Cond.code x code maxLocals ret :: tables_1)).before args0 about1 = true := by
  rw [allAtoms_all]
  show words1.all (fun c => c.before args0 about1) = true
  refine all_split ?_ w_codes
  rw [← List.take_append_drop 24 words1, List.all_append, w_t1, w_t2]
  rfl
set_option maxRecDepth 65536 in
theorem w_case : (Jvm.Cond.and given_1 narrow_1).before args0 about1 = true := by decide +kernel
theorem w_applies : (headSpec (Jvm.Cond.code x code maxLocals ret :: tables_1) room_1).applies x e0.platform about1 = true :=
  (Spec.applies_iff w_frames).mpr ⟨w_running, w_runnable, w_alone, w_named, w_hears, w_ripe, w_room, w_tables⟩
theorem atStart : AtStart classFile x code maxLocals ret World_1 tables_1 room_1 Calls_1 rest_1 Pre_1 launch0 p0 e0 about1 theMethod args0 below0 :=
  ⟨lists_1, trivial, launch0.admits_env _ _ _, launch0.least_env, fairChoices_fair.cas, fairChoices_fair.clock, w_frames, w_args, w_heap, w_applies, trivial, trivial, w_case⟩
end start1
theorem witness_1 : WitnessClaimed_1 := ⟨start1.p0, start1.e0, start1.about1, start1.theMethod, start1.args0, start1.below0, start1.atStart⟩
end Jvm.Pilot.@@N@@
