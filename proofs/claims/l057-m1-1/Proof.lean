import JvmDerived
import JvmDerived.Pilot.@@N@@Statement
import JvmDerived.Pilot.@@N@@Code
set_option linter.unusedVariables false
set_option linter.unusedSimpArgs false
namespace Jvm.Pilot.@@N@@
open Jvm Jvm.ClassFile Sem Op Lib Jvm.Free Jvm.Stand Jvm.LawKit Jvm.RoadKit Bundle Jvm.Pilot.@@N@@.Jvm.D
section OwnHead
variable {p : Program} {l : Launch} {e : Env} {R : Room} {s : State} {m : MethodId} {args : Array Value} {below : List Frame} {meth : Method} {c : Code} {T T' : State} {locs : List Loc} {cells slots : Nat} {Q : Option Value → Heap → List Loc → Prop} {k n : Nat} {g : JFrame}
/-- from here (the state T, the frame g on top) the call comes to its end, and the end is as Fin says -/
def own_E (p : Program) (e : Env) (below : List Frame) (Fin : Outcome → State → Prop) (T : State) (g : JFrame) : Prop :=
  ∃ s₂ o, Steps p.tables e below (T.setTop g) s₂ ∧ s₂.status = .running ∧ Ended s₂ below o ∧ Fin o s₂
/-- the end of a body that interns nothing: what it returns, the heap and the places written as Q says, within k cells and n slots -/
def own_Fin (s : State) (Q : Option Value → Heap → List Loc → Prop) (k n : Nat) (o : Outcome) (t : State) : Prop := ∃ v L, o = .returned v ∧ Q v t.heap L ∧ FrameEnd s o t L k n
theorem own_start {Fin : Outcome → State → Prop} (h : own_E p e below Fin T g) : ∃ s₂ o, Steps p.tables e below (T.setTop g) s₂ ∧ s₂.status = .running ∧ Ended s₂ below o ∧ Fin o s₂ := h
theorem own_from {Fin : Outcome → State → Prop} (g' : JFrame) (h : ∀ {t}, Steps p.tables e below (T.setTop g') t → Steps p.tables e below (T.setTop g) t) (w : own_E p e below Fin T g') : own_E p e below Fin T g := by
  obtain ⟨s₂, o, h1, r⟩ := w; exact ⟨s₂, o, h h1, r⟩
theorem own_to {Fin : Outcome → State → Prop} (g' : JFrame) (h : ∀ t, Steps p.tables e below (T'.setTop g') t → Steps p.tables e below (T.setTop g) t) (w : own_E p e below Fin T' g') : own_E p e below Fin T g := by
  obtain ⟨s₂, o, h1, r⟩ := w; exact ⟨s₂, o, h _ h1, r⟩
theorem own_via {Fin : Outcome → State → Prop} (g' : JFrame) (h : Steps p.tables e below (T.setTop g) (T'.setTop g')) (w : own_E p e below Fin T' g') : own_E p e below Fin T g := by
  obtain ⟨s₂, o, h1, r⟩ := w; exact ⟨s₂, o, h.trans h1, r⟩
theorem own_end {v : Option Value} {pc : Nat} {Ls : Array Slot} {st : List Value} (X : Stand p l e R s m args below meth c T locs cells slots) (hv : meth.sig.returnType = none → v = none) (hlk : meth.locks = false) (hk : cells ≤ k) (hn : slots ≤ n) (hQ : Q v T.heap locs)
    (hs : ∀ fs, (∀ (f : JFrame) (acts : List Action), f.method = m → f.locked = none → f.entered = [] → (doReturn e (T.setTop f) acts v).1 = T.setFrames fs) → Steps p.tables e below (T.setTop (mkF m pc Ls st)) (T.setFrames fs)) : own_E p e below (own_Fin s Q k n) T (mkF m pc Ls st) := by
  obtain ⟨fs, hr, hrun, hended, hW, hsame⟩ := X.leave (v := v) hv hlk
  exact ⟨_, _, hs fs hr, hrun, hended, _, _, rfl, hQ, ⟨_, rfl⟩, hW, hsame.mono hk hn⟩
theorem own_retN (X : Stand p l e R s m args below meth c T locs cells slots) (hx : p.tables.exec = Jvm.exec) {pc : Nat} {Ls : Array Slot} {z : Int32} {t : FieldType} {rest : List Value} (hret : meth.sig.returnType = some t) (ht : t = .boolean ∨ t = .byte ∨ t = .char ∨ t = .short) (hlk : meth.locks = false)
    (hd : decode c.code pc = .ok (.ireturn, 1)) (hk : cells ≤ k) (hn : slots ≤ n) (hQ : Q (some (.int (nar t z))) T.heap locs) : own_E p e below (own_Fin s Q k n) T (mkF m pc Ls (.int z :: rest)) :=
  own_end X (fun h => by rw [hret] at h; cases h) hlk hk hn hQ fun _ hr => retN X hx hret ht hd hr
theorem own_retI (X : Stand p l e R s m args below meth c T locs cells slots) (hx : p.tables.exec = Jvm.exec) {pc : Nat} {Ls : Array Slot} {z : Int32} {rest : List Value} (hret : meth.sig.returnType = some .int) (hlk : meth.locks = false)
    (hd : decode c.code pc = .ok (.ireturn, 1)) (hk : cells ≤ k) (hn : slots ≤ n) (hQ : Q (some (.int z)) T.heap locs) : own_E p e below (own_Fin s Q k n) T (mkF m pc Ls (.int z :: rest)) :=
  own_end X (fun h => by rw [hret] at h; cases h) hlk hk hn hQ fun _ hr => retOut X hx hret rfl (Or.inl ⟨rfl, Or.inl rfl, _, rfl⟩) hd hr
theorem own_retJ (X : Stand p l e R s m args below meth c T locs cells slots) (hx : p.tables.exec = Jvm.exec) {pc : Nat} {Ls : Array Slot} {z : Int64} {rest : List Value} (hret : meth.sig.returnType = some .long) (hlk : meth.locks = false)
    (hd : decode c.code pc = .ok (.lreturn, 1)) (hk : cells ≤ k) (hn : slots ≤ n) (hQ : Q (some (.long z)) T.heap locs) : own_E p e below (own_Fin s Q k n) T (mkF m pc Ls (.long z :: rest)) :=
  own_end X (fun h => by rw [hret] at h; cases h) hlk hk hn hQ fun _ hr => retOut X hx hret rfl (Or.inr (Or.inl ⟨rfl, rfl, _, rfl⟩)) hd hr
theorem own_retA (X : Stand p l e R s m args below meth c T locs cells slots) (hx : p.tables.exec = Jvm.exec) {pc : Nat} {Ls : Array Slot} {w : Value} {t : FieldType} {rest : List Value} (hret : meth.sig.returnType = some t) (ht : t.isReference = true) (hlk : meth.locks = false)
    (hd : decode c.code pc = .ok (.areturn, 1)) (hw : w.isRef = true) (hk : cells ≤ k) (hn : slots ≤ n) (hQ : Q (some w) T.heap locs) : own_E p e below (own_Fin s Q k n) T (mkF m pc Ls (w :: rest)) :=
  own_end X (fun h => by rw [hret] at h; cases h) hlk hk hn hQ fun _ hr => retOut X hx hret (by cases t <;> first | rfl | cases ht) (Or.inr (Or.inr (Or.inr (Or.inr ⟨rfl, ht, hw⟩)))) hd hr
theorem own_ret0 (X : Stand p l e R s m args below meth c T locs cells slots) (hx : p.tables.exec = Jvm.exec) {pc : Nat} {Ls : Array Slot} (hret : meth.sig.returnType = none) (hlk : meth.locks = false)
    (hd : decode c.code pc = .ok (.return_, 1)) (hk : cells ≤ k) (hn : slots ≤ n) (hQ : Q none T.heap locs) : own_E p e below (own_Fin s Q k n) T (mkF m pc Ls []) :=
  own_end X (fun _ => rfl) hlk hk hn hQ fun _ hr => X.returnOut hx hret hd hr
theorem own_b8 (y : Int32) : y.toInt8.toInt32.toInt8.toInt32 = y.toInt8.toInt32 := by
  have a := c_i2b y
  have b := c_i2b y.toInt8.toInt32
  rw [← Int32.toInt_inj]; omega
theorem own_01 {C : Prop} {d : Int32} (h1 : C → d = (0 : Int32)) (h2 : ¬ C → d = (1 : Int32)) : d = 0 ∨ d = 1 := (Classical.em C).elim (fun q => Or.inl (h1 q)) (fun q => Or.inr (h2 q))
theorem own_irr (x : Int32) : ¬ x < x := Int32.lt_irrefl
end OwnHead
section OwnWords
variable {args : Array Value} {s : State} {t : Term} {C n d : String} {a : Addr}
theorem own_fldI {k : Int32} (ht : t.eval args s none [] s = some (.ref a)) (h : (Jvm.Cond.eq (Term.field t C n d) (Term.int k)).value args s none s [] = some true) : Fld s s.heap a C n d (.int k) := by
  obtain ⟨x, y, e1, e2, -, k2⟩ := cmp_v (Or.inl h)
  have q : y = .int k := Option.some.inj (e2.symm.trans (Term.int_eval k))
  subst q
  obtain ⟨z, rfl⟩ := k2
  have q := gotT (Cond.eq_ints e1 (Term.int_eval k)) h
  subst q
  exact Fld.start ((fld_at ht).symm.trans e1)
theorem own_fldJ {k : Int64} (ht : t.eval args s none [] s = some (.ref a)) (h : (Jvm.Cond.eq (Term.field t C n d) (Term.long k)).value args s none s [] = some true) : Fld s s.heap a C n d (.long k) := by
  obtain ⟨x, y, e1, e2, -, k2⟩ := cmp_v (Or.inl h)
  have q : y = .long k := Option.some.inj (e2.symm.trans (long_at k))
  subst q
  obtain ⟨z, rfl⟩ := k2
  have q := gotT (eq_L e1 (long_at k)) h
  subst q
  exact Fld.start ((fld_at ht).symm.trans e1)
end OwnWords
section OwnWide
variable {p : Program} {l : Launch} {e : Env} {R : Room} {s : State} {m : MethodId} {args : Array Value} {below : List Frame} {meth : Method} {c : Code} {T T' : State} {locs : List Loc} {cells slots : Nat} {Q : Option Value → Heap → List Loc → Prop} {k n : Nat} {g : JFrame} {vm₁ : Vm} {k1 : Nat}
/-- the end of a law that may have interned a String constant -/
def own_FinW (s : State) (Q : Option Value → Heap → List Loc → Prop) (k n : Nat) (o : Outcome) (t : State) : Prop := ∃ v L, o = .returned v ∧ Q v t.heap L ∧ ReturnedEndW s o t L k n
theorem own_endW {v : Option Value} {pc : Nat} {Ls : Array Slot} {st : List Value} (X : Stand p l e R (s.setVm vm₁) m args below meth c T locs cells slots) (hS : s.Since vm₁ k1) (hk1 : k1 ≤ T.heap.size) (hv : meth.sig.returnType = none → v = none) (hlk : meth.locks = false) (hk : cells ≤ k) (hn : slots ≤ n) (hQ : Q v T.heap locs)
    (hs : ∀ fs, (∀ (f : JFrame) (acts : List Action), f.method = m → f.locked = none → f.entered = [] → (doReturn e (T.setTop f) acts v).1 = T.setFrames fs) → Steps p.tables e below (T.setTop (mkF m pc Ls st)) (T.setFrames fs)) : own_E p e below (own_FinW s Q k n) T (mkF m pc Ls st) := by
  obtain ⟨fs, hr, hrun, hended, h1, h2, h3, h4⟩ := X.leaveW hS hk1 (v := v) hv hlk
  exact ⟨_, _, hs fs hr, hrun, hended, _, _, rfl, hQ, h1, h2, h3, h4.mono hk hn⟩
theorem own_retNW (X : Stand p l e R (s.setVm vm₁) m args below meth c T locs cells slots) (hS : s.Since vm₁ k1) (hk1 : k1 ≤ T.heap.size) (hx : p.tables.exec = Jvm.exec) {pc : Nat} {Ls : Array Slot} {z : Int32} {t : FieldType} {rest : List Value} (hret : meth.sig.returnType = some t) (ht : t = .boolean ∨ t = .byte ∨ t = .char ∨ t = .short) (hlk : meth.locks = false)
    (hd : decode c.code pc = .ok (.ireturn, 1)) (hk : cells ≤ k) (hn : slots ≤ n) (hQ : Q (some (.int (nar t z))) T.heap locs) : own_E p e below (own_FinW s Q k n) T (mkF m pc Ls (.int z :: rest)) :=
  own_endW X hS hk1 (fun h => by rw [hret] at h; cases h) hlk hk hn hQ fun _ hr => retN X hx hret ht hd hr
end OwnWide
section OwnCalls
variable {p : Program} {l : Launch} {e : Env} {R : Room} {s : State} {m : MethodId} {args : Array Value} {below : List Frame} {meth : Method} {c : Code} {T : State} {locs : List Loc} {cells slots : Nat}
/-- a static call, handed back with the sums in it -/
theorem own_callS (X : Stand p l e R s m args below meth c T locs cells slots) (hexec : p.tables.exec = Jvm.exec) {own : String} {index : Nat} {y : MethodName} {bytes : ByteArray} {maxL : Nat} {ret : Option FieldType}
    (hown : s.vm.findClass own = some m.cls) (hlink : (Jvm.Cond.methodLink own index y).before args s = true) (hstat : (Jvm.Cond.static y).before args s = true) (hinit : (Jvm.Cond.initialized y.cls).before args s = true)
    (hcode : (Jvm.Cond.code y bytes maxL ret).before args s = true) (hy : y.cls ≠ "java/lang/invoke/MethodHandle" ∧ y.cls ≠ "java/lang/invoke/VarHandle")
    {W : Nat} {as' : Array Value} {h : Heap} {rc rs : Nat} {Q : Option Value → Heap → List Loc → Prop} (hK : Back l R p e below s args y 3 W (fun A a => a = as' ∧ A.U.heap = h ∧ A.cells + rc ≤ R.cells ∧ A.slots + rs ≤ R.slots) (fun A _ v B => ∃ L, Q v B.U.heap L ∧ B.locs = A.locs ++ L ∧ B.cells = A.cells + rc ∧ B.slots = A.slots + rs))
    {g : JFrame} (hg : g.method = m) (hsize : g.locals.size = c.maxLocals) {argsL rest : List Value} (hlen : ∀ sig, parseMethodDescriptor y.desc = some sig → argsL.length = sig.parameters.length)
    (hstack : g.stack = argsL.reverse ++ rest) (hW : 2 * g.monitorRoom + (rest.map fun v => v.category).sum ≤ W) (hdg : decode c.code g.pc = .ok (.invokestatic index, 3))
    (ha : argsL.toArray = as') (eT : T.heap = h) {kc ks : Nat} (hkc : cells + rc = kc) (hks : slots + rs = ks) (hc : kc ≤ R.cells) (hs : ks ≤ R.slots) :
    ∃ (v : Option Value) (T' : State) (Lc : List Loc), Stand p l e R s m args below meth c T' (locs ++ Lc) kc ks ∧ Q v T'.heap Lc ∧ ∀ target, Steps p.tables e below (T'.setTop { g with pc := g.pc + 3, stack := v.toList ++ rest }) target → Steps p.tables e below (T.setTop g) target := by
  subst hkc hks
  obtain ⟨v, vm₁, ⟨T', L', k', n'⟩, -, X', ⟨Lc, hQ, l', y', z'⟩, st⟩ := Jvm.LawKit.callS X hexec hown hlink hstat hinit hcode hy hK hg hsize hlen hstack hW hdg (fun _ _ => ⟨ha, eT, hc, hs⟩)
  dsimp only [Pt.U, Pt.locs, Pt.cells, Pt.slots] at X' l' y' z' st hQ
  subst l' y' z'
  exact ⟨v, T', Lc, X', hQ, st⟩
theorem own_special (X : Stand p l e R s m args below meth c T locs cells slots) (hexec : p.tables.exec = Jvm.exec) {own : String} {index : Nat} {y : MethodName} (hy1 : y.name = "<init>")
    (hown : s.vm.findClass own = some m.cls) (hlink : (Jvm.Cond.methodLink own index y).before args s = true) (hinst : (Jvm.Cond.instanceMethod y).before args s = true)
    {bytes : ByteArray} {maxL : Nat} (hcode : (Jvm.Cond.code y bytes maxL none).before args s = true) (hy : y.cls ≠ "java/lang/invoke/MethodHandle" ∧ y.cls ≠ "java/lang/invoke/VarHandle")
    {W : Nat} {as' : Array Value} {h : Heap} {rc rs : Nat} {Q : Option Value → Heap → List Loc → Prop} (hK : Back l R p e below s args y 3 W (fun A a => a = as' ∧ A.U.heap = h ∧ A.cells + rc ≤ R.cells ∧ A.slots + rs ≤ R.slots) (fun A _ v B => ∃ L, Q v B.U.heap L ∧ B.locs = A.locs ++ L ∧ B.cells = A.cells + rc ∧ B.slots = A.slots + rs))
    {g : JFrame} (hg : g.method = m) (hsize : g.locals.size = c.maxLocals) {a : Addr} {argsL rest : List Value}
    (hlen : ∀ sig, parseMethodDescriptor y.desc = some sig → argsL.length = sig.parameters.length) (hstack : g.stack = argsL.reverse ++ .ref a :: rest) (hW : 2 * g.monitorRoom + (rest.map fun v => v.category).sum ≤ W)
    (hdg : decode c.code g.pc = .ok (.invokespecial index, 3)) (ha : (Value.ref a :: argsL).toArray = as') (eT : T.heap = h) {kc ks : Nat} (hkc : cells + rc = kc) (hks : slots + rs = ks) (hc : kc ≤ R.cells) (hs : ks ≤ R.slots) :
    ∃ (v : Option Value) (T' : State) (Lc : List Loc), Stand p l e R s m args below meth c T' (locs ++ Lc) kc ks ∧ Q v T'.heap Lc ∧ Steps p.tables e below (T.setTop g) (T'.setTop { g with pc := g.pc + 3, stack := v.toList ++ rest }) := by
  subst hkc hks
  obtain ⟨v, vm₁, ⟨T', L', k', n'⟩, -, X', ⟨Lc, hQ, l', y', z'⟩, st⟩ := X.specialBack hexec hy1 hown hlink hinst hcode hy hK hg hsize (Steps.refl _) hlen hstack hW hdg (fun _ _ => ⟨ha, eT, hc, hs⟩)
  dsimp only [Pt.U, Pt.locs, Pt.cells, Pt.slots] at X' l' y' z' st hQ
  subst l' y' z'
  exact ⟨v, T', Lc, X', hQ, st⟩
theorem own_virtual (X : Stand p l e R s m args below meth c T locs cells slots) (hexec : p.tables.exec = Jvm.exec) {own C : String} {index : Nat} {y z : MethodName}
    (hown : s.vm.findClass own = some m.cls) (hlink : (Jvm.Cond.methodLink own index y).before args s = true) (hdecl : (Jvm.Cond.declares y).before args s = true) (hnf : NotFace s y)
    (hsel : (Jvm.Cond.selects C y z).before args s = true) (hinst : (Jvm.Cond.instanceMethod z).before args s = true) (hy : y.cls ≠ "java/lang/invoke/MethodHandle" ∧ y.cls ≠ "java/lang/invoke/VarHandle")
    {W : Nat} {as' : Array Value} {h : Heap} {rc rs : Nat} {Q : Option Value → Heap → List Loc → Prop} (hK : Back l R p e below s args z 3 W (fun A a => a = as' ∧ A.U.heap = h ∧ A.cells + rc ≤ R.cells ∧ A.slots + rs ≤ R.slots) (fun A _ v B => ∃ L, Q v B.U.heap L ∧ B.locs = A.locs ++ L ∧ B.cells = A.cells + rc ∧ B.slots = A.slots + rs))
    {b : Addr} {cB : ClassId} (hcB : s.vm.findClass C = some cB) (hrecv : IsOf cB T b)
    {g : JFrame} (hg : g.method = m) (hsize : g.locals.size = c.maxLocals) {argsL rest : List Value}
    (hlen : ∀ sig, parseMethodDescriptor y.desc = some sig → argsL.length = sig.parameters.length) (hstack : g.stack = argsL.reverse ++ .ref b :: rest) (hW : 2 * g.monitorRoom + (rest.map fun v => v.category).sum ≤ W)
    (hdg : decode c.code g.pc = .ok (.invokevirtual index, 3)) (ha : (Value.ref b :: argsL).toArray = as') (eT : T.heap = h) {kc ks : Nat} (hkc : cells + rc = kc) (hks : slots + rs = ks) (hc : kc ≤ R.cells) (hs : ks ≤ R.slots) :
    ∃ (v : Option Value) (T' : State) (Lc : List Loc), Stand p l e R s m args below meth c T' (locs ++ Lc) kc ks ∧ Q v T'.heap Lc ∧ Steps p.tables e below (T.setTop g) (T'.setTop { g with pc := g.pc + 3, stack := v.toList ++ rest }) := by
  subst hkc hks
  obtain ⟨v, vm₁, ⟨T', L', k', n'⟩, -, X', ⟨Lc, hQ, l', y', z'⟩, st⟩ := X.virtualBack hexec hown hlink hdecl hnf hsel hinst hy hK hcB hrecv hg hsize (Steps.refl _) hlen hstack hW hdg (fun _ _ => ⟨ha, eT, hc, hs⟩)
  dsimp only [Pt.U, Pt.locs, Pt.cells, Pt.slots] at X' l' y' z' st hQ
  subst l' y' z'
  exact ⟨v, T', Lc, X', hQ, st⟩
end OwnCalls
/-- a body's contract: called with A at the heap h0, it returns, and Q says what and how -/
abbrev own_MF (l : Launch) (y : MethodName) (cs : List Jvm.Cond) (R : Room) (A : Array Value) (Z : State) (h0 : Heap) (Q : Option Value → Heap → List Loc → Prop) : Prop :=
  MetFree l y (head1 cs R) (fun aa_ U => aa_ = A ∧ Z.Warmed39 U.vm ∧ U.heap = h0) (fun _ _ _ _ _ => True) (fun _ U o U' => ∃ v L, o = .returned v ∧ Q v U'.heap L ∧ FrameEnd U o U' L R.cells R.slots)
section OwnStep
variable {p : Program} {l : Launch} {e : Env} {R : Room} {s : State} {m : MethodId} {args : Array Value} {below : List Frame} {meth : Method} {c : Code} {T : State} {locs : List Loc} {cells slots : Nat} {Fn : Outcome → State → Prop} {pc : Nat} {L : Array Slot} {st : List Value} {k : Nat} {kn : Fin 4} {x y z : Int32} {a : Value} {i o : Int} {cd : ClassFile.Cond}

theorem own_w {Z : State} {a0 : Array Value} {d : Jvm.Cond} (hw : ∀ d ∈ tables_1, d.before a0 Z = true) (i : Nat) (h : tables_1[i]? = some d) : d.before a0 Z = true := hw _ (List.mem_of_getElem? h)
theorem own_il (q : Nat)  (X : Stand p l e R s m args below meth c T locs cells slots) (hx : p.tables.exec = Jvm.exec) (hd : decode c.code pc = .ok (.iload k, 2)) (hl : L[k]? = some (.val (.int x))) (hq : pc + 2 = q) (w : own_E p e below Fn T (mkF m q L (.int x :: st))) : own_E p e below Fn T (mkF m pc L st) := by
  subst hq; exact own_to (T' := T) (mkF m (pc + 2) L (.int x :: st)) (fun _ j => XS.iload X.here hx rfl hd hl j) w
theorem own_iln (q : Nat)  (X : Stand p l e R s m args below meth c T locs cells slots) (hx : p.tables.exec = Jvm.exec) (hd : decode c.code pc = .ok (.iload_n kn, 1)) (hl : L[kn.val]? = some (.val (.int x))) (hq : pc + 1 = q) (w : own_E p e below Fn T (mkF m q L (.int x :: st))) : own_E p e below Fn T (mkF m pc L st) := by
  subst hq; exact own_to (T' := T) (mkF m (pc + 1) L (.int x :: st)) (fun _ j => XS.iloadN X.here hx rfl hd hl j) w
theorem own_al (q : Nat)  (X : Stand p l e R s m args below meth c T locs cells slots) (hx : p.tables.exec = Jvm.exec) (hd : decode c.code pc = .ok (.aload k, 2)) (hl : L[k]? = some (.val a)) (hv : a.isRef = true) (hq : pc + 2 = q) (w : own_E p e below Fn T (mkF m q L (a :: st))) : own_E p e below Fn T (mkF m pc L st) := by
  subst hq; exact own_to (T' := T) (mkF m (pc + 2) L (a :: st)) (fun _ j => XS.aload X.here hx rfl hd hl hv j) w
theorem own_aln (q : Nat)  (X : Stand p l e R s m args below meth c T locs cells slots) (hx : p.tables.exec = Jvm.exec) (hd : decode c.code pc = .ok (.aload_n kn, 1)) (hl : L[kn.val]? = some (.val a)) (hv : a.isRef = true) (hq : pc + 1 = q) (w : own_E p e below Fn T (mkF m q L (a :: st))) : own_E p e below Fn T (mkF m pc L st) := by
  subst hq; exact own_to (T' := T) (mkF m (pc + 1) L (a :: st)) (fun _ j => XS.aloadN X.here hx rfl hd hl hv j) w
theorem own_ic (q : Nat) (z : Int32) (X : Stand p l e R s m args below meth c T locs cells slots) (hx : p.tables.exec = Jvm.exec) (hd : decode c.code pc = .ok (.iconst i, 1)) (hz : Int32.ofInt i = z) (hq : pc + 1 = q) (w : own_E p e below Fn T (mkF m q L (.int z :: st))) : own_E p e below Fn T (mkF m pc L st) := by
  subst hq; subst hz; exact own_to (T' := T) (mkF m (pc + 1) L (.int (Int32.ofInt i) :: st)) (fun _ j => XS.iconst X.here hx rfl hd j) w
theorem own_bi (q : Nat) (z : Int32) (X : Stand p l e R s m args below meth c T locs cells slots) (hx : p.tables.exec = Jvm.exec) (hd : decode c.code pc = .ok (.bipush i, 2)) (hz : (Int8.ofInt i).toInt32 = z) (hq : pc + 2 = q) (w : own_E p e below Fn T (mkF m q L (.int z :: st))) : own_E p e below Fn T (mkF m pc L st) := by
  subst hq; subst hz; exact own_to (T' := T) (mkF m (pc + 2) L (.int ((Int8.ofInt i).toInt32) :: st)) (fun _ j => XS.bipush X.here hx rfl hd j) w
theorem own_si (q : Nat) (z : Int32) (X : Stand p l e R s m args below meth c T locs cells slots) (hx : p.tables.exec = Jvm.exec) (hd : decode c.code pc = .ok (.sipush i, 3)) (hz : (Int16.ofInt i).toInt32 = z) (hq : pc + 3 = q) (w : own_E p e below Fn T (mkF m q L (.int z :: st))) : own_E p e below Fn T (mkF m pc L st) := by
  subst hq; subst hz; exact own_to (T' := T) (mkF m (pc + 3) L (.int ((Int16.ofInt i).toInt32) :: st)) (fun _ j => XS.sipush X.here hx rfl hd j) w
theorem own_iadd (q : Nat)  (X : Stand p l e R s m args below meth c T locs cells slots) (hx : p.tables.exec = Jvm.exec) (hd : decode c.code pc = .ok (.iadd, 1)) (hz : x + y = z) (hq : pc + 1 = q) (w : own_E p e below Fn T (mkF m q L (.int z :: st))) : own_E p e below Fn T (mkF m pc L (.int y :: .int x :: st)) := by
  subst hq; subst hz; exact own_to (T' := T) (mkF m (pc + 1) L (.int (x + y) :: st)) (fun _ j => XS.iadd X.here hx rfl hd rfl j) w
theorem own_isub (q : Nat)  (X : Stand p l e R s m args below meth c T locs cells slots) (hx : p.tables.exec = Jvm.exec) (hd : decode c.code pc = .ok (.isub, 1)) (hz : x - y = z) (hq : pc + 1 = q) (w : own_E p e below Fn T (mkF m q L (.int z :: st))) : own_E p e below Fn T (mkF m pc L (.int y :: .int x :: st)) := by
  subst hq; subst hz; exact own_to (T' := T) (mkF m (pc + 1) L (.int (x - y) :: st)) (fun _ j => XS.isub X.here hx rfl hd rfl j) w
theorem own_iand (q : Nat)  (X : Stand p l e R s m args below meth c T locs cells slots) (hx : p.tables.exec = Jvm.exec) (hd : decode c.code pc = .ok (.iand, 1)) (hz : x &&& y = z) (hq : pc + 1 = q) (w : own_E p e below Fn T (mkF m q L (.int z :: st))) : own_E p e below Fn T (mkF m pc L (.int y :: .int x :: st)) := by
  subst hq; subst hz; exact own_to (T' := T) (mkF m (pc + 1) L (.int (x &&& y) :: st)) (fun _ j => XS.iand X.here hx rfl hd rfl j) w
theorem own_ior (q : Nat)  (X : Stand p l e R s m args below meth c T locs cells slots) (hx : p.tables.exec = Jvm.exec) (hd : decode c.code pc = .ok (.ior, 1)) (hz : x ||| y = z) (hq : pc + 1 = q) (w : own_E p e below Fn T (mkF m q L (.int z :: st))) : own_E p e below Fn T (mkF m pc L (.int y :: .int x :: st)) := by
  subst hq; subst hz; exact own_to (T' := T) (mkF m (pc + 1) L (.int (x ||| y) :: st)) (fun _ j => XS.ior X.here hx rfl hd rfl j) w
theorem own_ishl (q : Nat)  (X : Stand p l e R s m args below meth c T locs cells slots) (hx : p.tables.exec = Jvm.exec) (hd : decode c.code pc = .ok (.ishl, 1)) (hz : x <<< (y &&& 31) = z) (hq : pc + 1 = q) (w : own_E p e below Fn T (mkF m q L (.int z :: st))) : own_E p e below Fn T (mkF m pc L (.int y :: .int x :: st)) := by
  subst hq; subst hz; exact own_to (T' := T) (mkF m (pc + 1) L (.int (x <<< (y &&& 31)) :: st)) (fun _ j => XS.ishl X.here hx rfl hd rfl j) w
theorem own_ishr (q : Nat)  (X : Stand p l e R s m args below meth c T locs cells slots) (hx : p.tables.exec = Jvm.exec) (hd : decode c.code pc = .ok (.ishr, 1)) (hz : x >>> (y &&& 31) = z) (hq : pc + 1 = q) (w : own_E p e below Fn T (mkF m q L (.int z :: st))) : own_E p e below Fn T (mkF m pc L (.int y :: .int x :: st)) := by
  subst hq; subst hz; exact own_to (T' := T) (mkF m (pc + 1) L (.int (x >>> (y &&& 31)) :: st)) (fun _ j => XS.ishr X.here hx rfl hd rfl j) w
theorem own_iushr (q : Nat)  (X : Stand p l e R s m args below meth c T locs cells slots) (hx : p.tables.exec = Jvm.exec) (hd : decode c.code pc = .ok (.iushr, 1)) (hz : (x.toUInt32 >>> (y &&& 31).toUInt32).toInt32 = z) (hq : pc + 1 = q) (w : own_E p e below Fn T (mkF m q L (.int z :: st))) : own_E p e below Fn T (mkF m pc L (.int y :: .int x :: st)) := by
  subst hq; subst hz; exact own_to (T' := T) (mkF m (pc + 1) L (.int ((x.toUInt32 >>> (y &&& 31).toUInt32).toInt32) :: st)) (fun _ j => XS.iushr X.here hx rfl hd rfl j) w
theorem own_i2b (q : Nat)  (X : Stand p l e R s m args below meth c T locs cells slots) (hx : p.tables.exec = Jvm.exec) (hd : decode c.code pc = .ok (.i2b, 1)) (hz : x.toInt8.toInt32 = z) (hq : pc + 1 = q) (w : own_E p e below Fn T (mkF m q L (.int z :: st))) : own_E p e below Fn T (mkF m pc L (.int x :: st)) := by
  subst hq; subst hz; exact own_to (T' := T) (mkF m (pc + 1) L (.int (x.toInt8.toInt32) :: st)) (fun _ j => XS.i2b X.here hx rfl hd rfl j) w
theorem own_i2c (q : Nat)  (X : Stand p l e R s m args below meth c T locs cells slots) (hx : p.tables.exec = Jvm.exec) (hd : decode c.code pc = .ok (.i2c, 1)) (hz : x.toUInt32.toUInt16.toUInt32.toInt32 = z) (hq : pc + 1 = q) (w : own_E p e below Fn T (mkF m q L (.int z :: st))) : own_E p e below Fn T (mkF m pc L (.int x :: st)) := by
  subst hq; subst hz; exact own_to (T' := T) (mkF m (pc + 1) L (.int (x.toUInt32.toUInt16.toUInt32.toInt32) :: st)) (fun _ j => XS.i2c X.here hx rfl hd rfl j) w
theorem own_dup (q : Nat)  (X : Stand p l e R s m args below meth c T locs cells slots) (hx : p.tables.exec = Jvm.exec) (hd : decode c.code pc = .ok (.dup, 1)) (hv : a.category = 1) (hq : pc + 1 = q) (w : own_E p e below Fn T (mkF m q L (a :: a :: st))) : own_E p e below Fn T (mkF m pc L (a :: st)) := by
  subst hq; exact own_to (T' := T) (mkF m (pc + 1) L (a :: a :: st)) (fun _ j => XS.dup X.here hx rfl hd rfl hv j) w
theorem own_nul (q : Nat)  (X : Stand p l e R s m args below meth c T locs cells slots) (hx : p.tables.exec = Jvm.exec) (hd : decode c.code pc = .ok (.aconst_null, 1))  (hq : pc + 1 = q) (w : own_E p e below Fn T (mkF m q L (.null :: st))) : own_E p e below Fn T (mkF m pc L st) := by
  subst hq; exact own_to (T' := T) (mkF m (pc + 1) L (.null :: st)) (fun _ j => XS.aconstNull X.here hx rfl hd j) w
theorem own_is (q : Nat) (L' : Array Slot) (X : Stand p l e R s m args below meth c T locs cells slots) (hx : p.tables.exec = Jvm.exec) (hd : decode c.code pc = .ok (.istore k, 2)) (hl : storeLocals L k (.int x) = some L') (hq : pc + 2 = q) (w : own_E p e below Fn T (mkF m q L' st)) : own_E p e below Fn T (mkF m pc L (.int x :: st)) := by
  subst hq; exact own_to (T' := T) (mkF m (pc + 2) L' st) (fun _ j => XS.istore X.here hx rfl hd rfl hl j) w
theorem own_isn (q : Nat) (L' : Array Slot) (X : Stand p l e R s m args below meth c T locs cells slots) (hx : p.tables.exec = Jvm.exec) (hd : decode c.code pc = .ok (.istore_n kn, 1)) (hl : storeLocals L kn.val (.int x) = some L') (hq : pc + 1 = q) (w : own_E p e below Fn T (mkF m q L' st)) : own_E p e below Fn T (mkF m pc L (.int x :: st)) := by
  subst hq; exact own_to (T' := T) (mkF m (pc + 1) L' st) (fun _ j => XS.istoreN X.here hx rfl hd rfl hl j) w
theorem own_as (q : Nat) (L' : Array Slot) (X : Stand p l e R s m args below meth c T locs cells slots) (hx : p.tables.exec = Jvm.exec) (hd : decode c.code pc = .ok (.astore k, 2)) (hv : a.isRef = true) (hl : storeLocals L k a = some L') (hq : pc + 2 = q) (w : own_E p e below Fn T (mkF m q L' st)) : own_E p e below Fn T (mkF m pc L (a :: st)) := by
  subst hq; exact own_to (T' := T) (mkF m (pc + 2) L' st) (fun _ j => XS.astore X.here hx rfl hd rfl hv hl j) w
theorem own_asn (q : Nat) (L' : Array Slot) (X : Stand p l e R s m args below meth c T locs cells slots) (hx : p.tables.exec = Jvm.exec) (hd : decode c.code pc = .ok (.astore_n kn, 1)) (hv : a.isRef = true) (hl : storeLocals L kn.val a = some L') (hq : pc + 1 = q) (w : own_E p e below Fn T (mkF m q L' st)) : own_E p e below Fn T (mkF m pc L (a :: st)) := by
  subst hq; exact own_to (T' := T) (mkF m (pc + 1) L' st) (fun _ j => XS.astoreN X.here hx rfl hd rfl hv hl j) w
theorem own_inc (q : Nat) (L' : Array Slot) (X : Stand p l e R s m args below meth c T locs cells slots) (hx : p.tables.exec = Jvm.exec) (hd : decode c.code pc = .ok (.iinc k i, 3)) (hl : L[k]? = some (.val (.int x))) (hl' : storeLocals L k (.int (x + Int32.ofInt i)) = some L') (hq : pc + 3 = q) (w : own_E p e below Fn T (mkF m q L' st)) : own_E p e below Fn T (mkF m pc L st) := by
  subst hq; exact own_to (T' := T) (mkF m (pc + 3) L' st) (fun _ j => XS.iinc X.here hx rfl hd hl hl' j) w
theorem own_ifN (q : Nat)  (X : Stand p l e R s m args below meth c T locs cells slots) (hx : p.tables.exec = Jvm.exec) (hd : decode c.code pc = .ok (.ifCond cd o, 3)) (hc : ifCond.holds cd x = false) (hq : pc + 3 = q) (w : own_E p e below Fn T (mkF m q L st)) : own_E p e below Fn T (mkF m pc L (.int x :: st)) := by
  subst hq; exact own_to (T' := T) (mkF m (pc + 3) L st) (fun _ j => XS.ifNo X.here hx rfl hd rfl hc j) w
theorem own_icN (q : Nat)  (X : Stand p l e R s m args below meth c T locs cells slots) (hx : p.tables.exec = Jvm.exec) (hd : decode c.code pc = .ok (.if_icmp cd o, 3)) (hc : if_icmp.holds cd x y = false) (hq : pc + 3 = q) (w : own_E p e below Fn T (mkF m q L st)) : own_E p e below Fn T (mkF m pc L (.int y :: .int x :: st)) := by
  subst hq; exact own_to (T' := T) (mkF m (pc + 3) L st) (fun _ j => XS.icmpNo X.here hx rfl hd rfl hc j) w
theorem own_go (q : Nat) (X : Stand p l e R s m args below meth c T locs cells slots) (hx : p.tables.exec = Jvm.exec) (hd : decode c.code pc = .ok (.goto o, 3)) (ho : 0 ≤ (pc : Int) + o) (hq : ((pc : Int) + o).toNat = q) (w : own_E p e below Fn T (mkF m q L st)) : own_E p e below Fn T (mkF m pc L st) :=
  own_to (T' := T) (mkF m q L st) (fun _ j => XS.goto X.here hx rfl (pc0 := pc) rfl hd ho hq j) w
theorem own_ifY (q : Nat) (X : Stand p l e R s m args below meth c T locs cells slots) (hx : p.tables.exec = Jvm.exec) (hd : decode c.code pc = .ok (.ifCond cd o, 3)) (hc : ifCond.holds cd x = true) (ho : 0 ≤ (pc : Int) + o) (hq : ((pc : Int) + o).toNat = q) (w : own_E p e below Fn T (mkF m q L st)) : own_E p e below Fn T (mkF m pc L (.int x :: st)) :=
  own_to (T' := T) (mkF m q L st) (fun _ j => XS.ifYes X.here hx rfl (pc0 := pc) rfl hd rfl hc ho hq j) w
theorem own_icY (q : Nat) (X : Stand p l e R s m args below meth c T locs cells slots) (hx : p.tables.exec = Jvm.exec) (hd : decode c.code pc = .ok (.if_icmp cd o, 3)) (hc : if_icmp.holds cd x y = true) (ho : 0 ≤ (pc : Int) + o) (hq : ((pc : Int) + o).toNat = q) (w : own_E p e below Fn T (mkF m q L st)) : own_E p e below Fn T (mkF m pc L (.int y :: .int x :: st)) :=
  own_to (T' := T) (mkF m q L st) (fun _ j => XS.icmpYes X.here hx rfl (pc0 := pc) rfl hd rfl hc ho hq j) w
end OwnStep
section OwnStr
variable {Z : State} {h h' : Heap} {x t a : Addr} {kb : ClassId} {cs : List Int32} {sl : Nat} {v : Value} {ws : List Addr}
/-- a String at x, its bytes at t, that spells cs (each 0 to 255) -/
def own_Str (Z : State) (h : Heap) (x t : Addr) (kb : ClassId) (cs : List Int32) : Prop :=
  Exa Z h x "java/lang/String" ∧ Fld Z h x "java/lang/String" "value" "[B" (.ref t) ∧ Fld Z h x "java/lang/String" "coder" "B" (.int 0) ∧ Arv Z h t kb .byte (Int32.ofNat cs.length) ((cs.map (fun c => c.toInt8.toInt32)).map Value.int) (.int 0) ∧ (∀ c ∈ cs, ¬ c < 0 ∧ ¬ (255 : Int32) < c) ∧ cs.length ≤ 4000
theorem own_Str.lt (S : own_Str Z h x t kb cs) : x < h.size := S.1.lt
theorem own_Str.ltT (S : own_Str Z h x t kb cs) : t < h.size := S.2.2.2.1.lt
theorem own_Str.ext (S : own_Str Z h x t kb cs) (E : Ext h h') : own_Str Z h' x t kb cs := ⟨S.1.ext E, S.2.1.ext E, S.2.2.1.ext E, S.2.2.2.1.ext E, S.2.2.2.2⟩
theorem own_Str.wr (S : own_Str Z h x t kb cs) (W : Wr h h' a sl v) (n1 : x ≠ a) (n2 : t ≠ a) : own_Str Z h' x t kb cs := ⟨S.1.wr W, S.2.1.other W (Or.inl n1), S.2.2.1.other W (Or.inl n1), S.2.2.2.1.other W n2, S.2.2.2.2⟩
theorem own_Str.keep (S : own_Str Z h x t kb cs) (K : Keep h h' ws) (n1 : x ∉ ws) (n2 : t ∉ ws) : own_Str Z h' x t kb cs := ⟨S.1.keep K, S.2.1.keep K n1, S.2.2.1.keep K n1, S.2.2.2.1.keep K n2, S.2.2.2.2⟩
theorem own_up {cs : List Int32} (h : ∀ c ∈ cs, ¬ c < 0 ∧ ¬ (255 : Int32) < c) : ∀ c ∈ cs, ¬ c < 0 ∧ ¬ (65535 : Int32) < c := fun c hc => ⟨(h c hc).1, fun q => (h c hc).2 (by rw [Int32.lt_iff_toInt_lt] at q ⊢; have e1 : (65535 : Int32).toInt = 65535 := rfl; have e2 : (255 : Int32).toInt = 255 := rfl; omega)⟩
/-- a char of 0 to 255 stays what it is when it is stored as a char -/
def own_C8 (c : Int32) : Prop := ¬ c < 0 ∧ ¬ (255 : Int32) < c
theorem own_C8.rng {c : Int32} (h : own_C8 c) : 0 ≤ c.toInt ∧ c.toInt ≤ 255 := by
  have h1 := h.1; have h2 := h.2
  rw [Int32.lt_iff_toInt_lt] at h1 h2
  have e1 : (0 : Int32).toInt = 0 := rfl
  have e2 : (255 : Int32).toInt = 255 := rfl
  omega
theorem own_i2c8 {c : Int32} (h : own_C8 c) : c.toUInt32.toUInt16.toUInt32.toInt32 = c := by
  have q := h.rng
  have r := c_i2c c
  rw [← Int32.toInt_inj]; omega
theorem own_nar8 {c : Int32} (h : own_C8 c) : nar .char c = c := own_i2c8 h
theorem own_mask8 (x : Int32) : own_C8 (x &&& (255 : Int32)) := by
  have e : (x &&& 255).toInt = x.toInt % (2 ^ 8 : Nat) := c_mask x 255 8 (by decide) (by decide)
  refine ⟨fun q => ?_, fun q => ?_⟩ <;> rw [Int32.lt_iff_toInt_lt, e] at q
  · have e1 : (0 : Int32).toInt = 0 := rfl
    omega
  · have e2 : (255 : Int32).toInt = 255 := rfl
    omega
theorem own_ch8 {x c : Int32} (h : (x &&& (255 : Int32)).toUInt32.toUInt16.toUInt32.toInt32 = c) : own_C8 c := by
  rw [own_i2c8 (own_mask8 x)] at h; subst h; exact own_mask8 x
theorem own_if8 {C : Prop} {c a b : Int32} (h1 : C → c = a) (h2 : ¬ C → c = b) (ha : own_C8 a) (hb : own_C8 b) : own_C8 c := by
  by_cases q : C
  · rw [h1 q]; exact ha
  · rw [h2 q]; exact hb
theorem own_all0 : ∀ c ∈ ([] : List Int32), ¬ c < 0 ∧ ¬ (255 : Int32) < c := fun _ q => nomatch q
theorem own_allS {c : Int32} {cs : List Int32} (h : own_C8 c) (r : ∀ c ∈ cs, ¬ c < 0 ∧ ¬ (255 : Int32) < c) : ∀ d ∈ c :: cs, ¬ d < 0 ∧ ¬ (255 : Int32) < d := fun d z => (List.mem_cons.mp z).elim (fun u => u ▸ h) (r d)
end OwnStr
section OwnUtf
variable {Z : State} {h h' : Heap} {x t a : Addr} {kb : ClassId} {sl : Nat} {v : Value} {ws : List Addr} {cd N : Int32} {vs : List Value}
/-- a char: 0 to 65535 -/
def own_C16 (c : Int32) : Prop := 0 ≤ c.toInt ∧ c.toInt ≤ 65535
theorem own_i2c16 (y : Int32) : own_C16 y.toUInt32.toUInt16.toUInt32.toInt32 := by
  have q := c_i2c y
  unfold own_C16; omega
theorem own_id16 {c : Int32} (h : own_C16 c) : c.toUInt32.toUInt16.toUInt32.toInt32 = c := by
  have r := c_i2c c
  have q := h.1; have q' := h.2
  rw [← Int32.toInt_inj]; omega
theorem own_nar16 {c : Int32} (h : own_C16 c) : nar .char c = c := own_id16 h
theorem own_C16.nn {c : Int32} (h : own_C16 c) : ¬ c < 0 := fun q => by
  rw [Int32.lt_iff_toInt_lt] at q
  have e : (0 : Int32).toInt = 0 := rfl
  have := h.1; omega
theorem own_hi {c : Int32} (h : own_C16 c) : ((((((c >>> ((0 : Int32) &&& 31)).toInt8.toInt32) &&& (255 : Int32)) <<< ((0 : Int32) &&& 31)) ||| ((((c >>> ((8 : Int32) &&& 31)).toInt8.toInt32) &&& (255 : Int32)) <<< ((8 : Int32) &&& 31))).toUInt32.toUInt16.toUInt32.toInt32) = c := by
  have q1 := h.1; have q2 := h.2
  have a0 := c_ishr c (0 : Int32) 0 (by decide)
  have a8 := c_ishr c (8 : Int32) 8 (by decide)
  have b0 := c_i2b (c >>> ((0 : Int32) &&& 31))
  have b8 := c_i2b (c >>> ((8 : Int32) &&& 31))
  have m0 := c_mask ((c >>> ((0 : Int32) &&& 31)).toInt8.toInt32) 255 8 (by decide) (by decide)
  have m8 := c_mask ((c >>> ((8 : Int32) &&& 31)).toInt8.toInt32) 255 8 (by decide) (by decide)
  have s0 := c_ishl (((c >>> ((0 : Int32) &&& 31)).toInt8.toInt32) &&& (255 : Int32)) (0 : Int32) 0 (by decide)
  have s8 := c_ishl (((c >>> ((8 : Int32) &&& 31)).toInt8.toInt32) &&& (255 : Int32)) (8 : Int32) 8 (by decide)
  generalize ((c >>> ((0 : Int32) &&& 31)).toInt8.toInt32) = u0 at *
  generalize ((c >>> ((8 : Int32) &&& 31)).toInt8.toInt32) = u8 at *
  generalize (u0 &&& (255 : Int32)) = w0 at *
  generalize (u8 &&& (255 : Int32)) = w8 at *
  generalize hx0 : (w0 <<< ((0 : Int32) &&& 31)) = x0 at *
  generalize hx8 : (w8 <<< ((8 : Int32) &&& 31)) = x8 at *
  have r0 := rng32 x0
  have r8 := rng32 x8
  have e0 : x0.toInt = c.toInt % 256 := by omega
  have e8 : x8.toInt = (c.toInt / 256) * 256 := by omega
  have o := c_or' x0 x8 8 (by decide) 256 (by decide) (by omega) (by omega) (by omega)
  have ro := rng32 (x0 ||| x8)
  have i := c_i2c (x0 ||| x8)
  rw [← Int32.toInt_inj]; omega
/-- a String whose bytes lie at t: its coder and its bytes -/
def own_StrG (Z : State) (h : Heap) (x t : Addr) (kb : ClassId) (cd N : Int32) (vs : List Value) : Prop :=
  Exa Z h x "java/lang/String" ∧ Fld Z h x "java/lang/String" "value" "[B" (.ref t) ∧ Fld Z h x "java/lang/String" "coder" "B" (.int cd) ∧ Arv Z h t kb .byte N vs (.int 0)
theorem own_StrG.lt (S : own_StrG Z h x t kb cd N vs) : x < h.size := S.1.lt
theorem own_StrG.ltT (S : own_StrG Z h x t kb cd N vs) : t < h.size := S.2.2.2.lt
theorem own_StrG.ext (S : own_StrG Z h x t kb cd N vs) (E : Ext h h') : own_StrG Z h' x t kb cd N vs := ⟨S.1.ext E, S.2.1.ext E, S.2.2.1.ext E, S.2.2.2.ext E⟩
theorem own_StrG.wr (S : own_StrG Z h x t kb cd N vs) (W : Wr h h' a sl v) (n1 : x ≠ a) (n2 : t ≠ a) : own_StrG Z h' x t kb cd N vs := ⟨S.1.wr W, S.2.1.other W (Or.inl n1), S.2.2.1.other W (Or.inl n1), S.2.2.2.other W n2⟩
theorem own_StrG.keep (S : own_StrG Z h x t kb cd N vs) (K : Keep h h' ws) (n1 : x ∉ ws) (n2 : t ∉ ws) : own_StrG Z h' x t kb cd N vs := ⟨S.1.keep K, S.2.1.keep K n1, S.2.2.1.keep K n1, S.2.2.2.keep K n2⟩
/-- a String of n chars: its bytes are n (coder 0) or twice as many (coder 1) -/
def own_StrL (Z : State) (h : Heap) (x t : Addr) (n n2 : Int32) : Prop := ∃ (kb : ClassId) (cd N : Int32) (vs : List Value), own_StrG Z h x t kb cd N vs ∧ ((cd = 0 ∧ N = n) ∨ (cd = 1 ∧ N = n2))
variable {n n2 : Int32}
theorem own_StrL.lt (S : own_StrL Z h x t n n2) : x < h.size := by obtain ⟨_, _, _, _, g, -⟩ := S; exact g.lt
theorem own_StrL.ltT (S : own_StrL Z h x t n n2) : t < h.size := by obtain ⟨_, _, _, _, g, -⟩ := S; exact g.ltT
theorem own_StrL.exa (S : own_StrL Z h x t n n2) : Exa Z h x "java/lang/String" := by obtain ⟨_, _, _, _, g, -⟩ := S; exact g.1
theorem own_StrL.ext (S : own_StrL Z h x t n n2) (E : Ext h h') : own_StrL Z h' x t n n2 := by obtain ⟨a, b, c, d, g, r⟩ := S; exact ⟨a, b, c, d, g.ext E, r⟩
theorem own_StrL.wr (S : own_StrL Z h x t n n2) (W : Wr h h' a sl v) (n1 : x ≠ a) (m2 : t ≠ a) : own_StrL Z h' x t n n2 := by obtain ⟨a, b, c, d, g, r⟩ := S; exact ⟨a, b, c, d, g.wr W n1 m2, r⟩
theorem own_StrL.keep (S : own_StrL Z h x t n n2) (K : Keep h h' ws) (n1 : x ∉ ws) (m2 : t ∉ ws) : own_StrL Z h' x t n n2 := by obtain ⟨a, b, c, d, g, r⟩ := S; exact ⟨a, b, c, d, g.keep K n1 m2, r⟩
end OwnUtf
section OwnHeld
open Jvm.Free.SB Jvm.Free.SBG
variable {p : Program} {l : Launch} {e : Env} {R : Room} {s : State} {m : MethodId} {args : Array Value} {below : List Frame} {meth : Method} {c : Code} {T T' : State} {locs : List Loc} {cells slots : Nat} {Q : Option Value → Heap → List Loc → Prop} {k n : Nat} {g : JFrame} {vm₁ : Vm} {k1 : Nat} {Z : State} {a0 : Array Value}
/-- the String constant that the walked code may load: the empty text, of String itself -/
abbrev own_EL : List (String × Nat) := [("java/lang/String", 7)]
/-- the end of a body that may intern: the held constants hold on -/
def own_FinH (Z s : State) (Q : Option Value → Heap → List Loc → Prop) (k n : Nat) (o : Outcome) (t : State) : Prop := ∃ v L, o = .returned v ∧ Q v t.heap L ∧ CHr Z own_EL s.vm s.heap t.vm t.heap ∧ ReturnedEndW s o t L k n
theorem own_endH {v : Option Value} {pc : Nat} {Ls : Array Slot} {st : List Value} (X : Stand p l e R (s.setVm vm₁) m args below meth c T locs cells slots) (hS : s.Since vm₁ k1) (hk1 : k1 ≤ T.heap.size) (hZ : Z.Warmed39 vm₁) (hEW : EW Z a0 own_EL) (CH : CHv Z own_EL vm₁ T.heap) (CHR : CHr Z own_EL s.vm s.heap vm₁ T.heap) (hv : meth.sig.returnType = none → v = none) (hlk : meth.locks = false) (hk : cells ≤ k) (hn : slots ≤ n) (hQ : Q v T.heap locs)
    (hs : ∀ fs, (∀ (f : JFrame) (acts : List Action), f.method = m → f.locked = none → f.entered = [] → (doReturn e (T.setTop f) acts v).1 = T.setFrames fs) → Steps p.tables e below (T.setTop (mkF m pc Ls st)) (T.setFrames fs)) : own_E p e below (own_FinH Z s Q k n) T (mkF m pc Ls st) := by
  have q : CHr Z own_EL s.vm s.heap T.vm T.heap := CHR.trans (CHv.at X hZ hEW CH)
  obtain ⟨fs, hr, hrun, hended, h1, h2, h3, h4⟩ := X.leaveW hS hk1 (v := v) hv hlk
  exact ⟨_, _, hs fs hr, hrun, hended, _, _, rfl, hQ, q, h1, h2, h3, h4.mono hk hn⟩
theorem own_retNH (X : Stand p l e R (s.setVm vm₁) m args below meth c T locs cells slots) (hS : s.Since vm₁ k1) (hk1 : k1 ≤ T.heap.size) (hZ : Z.Warmed39 vm₁) (hEW : EW Z a0 own_EL) (CH : CHv Z own_EL vm₁ T.heap) (CHR : CHr Z own_EL s.vm s.heap vm₁ T.heap) (hx : p.tables.exec = Jvm.exec) {pc : Nat} {Ls : Array Slot} {z : Int32} {t : FieldType} {rest : List Value} (hret : meth.sig.returnType = some t) (ht : t = .boolean ∨ t = .byte ∨ t = .char ∨ t = .short) (hlk : meth.locks = false)
    (hd : decode c.code pc = .ok (.ireturn, 1)) (hk : cells ≤ k) (hn : slots ≤ n) (hQ : Q (some (.int (nar t z))) T.heap locs) : own_E p e below (own_FinH Z s Q k n) T (mkF m pc Ls (.int z :: rest)) :=
  own_endH X hS hk1 hZ hEW CH CHR (fun h => by rw [hret] at h; cases h) hlk hk hn hQ fun _ hr => retN X hx hret ht hd hr
theorem own_retAH (X : Stand p l e R (s.setVm vm₁) m args below meth c T locs cells slots) (hS : s.Since vm₁ k1) (hk1 : k1 ≤ T.heap.size) (hZ : Z.Warmed39 vm₁) (hEW : EW Z a0 own_EL) (CH : CHv Z own_EL vm₁ T.heap) (CHR : CHr Z own_EL s.vm s.heap vm₁ T.heap) (hx : p.tables.exec = Jvm.exec) {pc : Nat} {Ls : Array Slot} {w : Value} {t : FieldType} {rest : List Value} (hret : meth.sig.returnType = some t) (ht : t.isReference = true) (hlk : meth.locks = false)
    (hd : decode c.code pc = .ok (.areturn, 1)) (hw : w.isRef = true) (hk : cells ≤ k) (hn : slots ≤ n) (hQ : Q (some w) T.heap locs) : own_E p e below (own_FinH Z s Q k n) T (mkF m pc Ls (w :: rest)) :=
  own_endH X hS hk1 hZ hEW CH CHR (fun h => by rw [hret] at h; cases h) hlk hk hn hQ fun _ hr => retOut X hx hret (by cases t <;> first | rfl | cases ht) (Or.inr (Or.inr (Or.inr (Or.inr ⟨rfl, ht, hw⟩)))) hd hr
theorem own_ret0H (X : Stand p l e R (s.setVm vm₁) m args below meth c T locs cells slots) (hS : s.Since vm₁ k1) (hk1 : k1 ≤ T.heap.size) (hZ : Z.Warmed39 vm₁) (hEW : EW Z a0 own_EL) (CH : CHv Z own_EL vm₁ T.heap) (CHR : CHr Z own_EL s.vm s.heap vm₁ T.heap) (hx : p.tables.exec = Jvm.exec) {pc : Nat} {Ls : Array Slot} (hret : meth.sig.returnType = none) (hlk : meth.locks = false)
    (hd : decode c.code pc = .ok (.return_, 1)) (hk : cells ≤ k) (hn : slots ≤ n) (hQ : Q none T.heap locs) : own_E p e below (own_FinH Z s Q k n) T (mkF m pc Ls []) :=
  own_endH X hS hk1 hZ hEW CH CHR (fun _ => rfl) hlk hk hn hQ fun _ hr => X.returnOut hx hret hd hr
/-- a String whose value is still null is no held constant -/
theorem own_safeN {EL : List (String × Nat)} {vm : Vm} {h : Heap} {x : Addr} (hal : Z.vm.Alike vm) (E : Exa Z h x "java/lang/String") (F : Fld Z h x "java/lang/String" "value" "[B" .null) : Safe Z EL vm h x := fun B => by
  obtain ⟨cell, k, e1, e2, e3, -, -⟩ := E
  obtain ⟨cell', cf, kf, i, f, f1, f2, f3, -, -, -, f7⟩ := F
  cases e1.symm.trans f1
  obtain ⟨p, -, u, a, -, q, -, Fq, rfl | rfl⟩ := B
  · cases (show h[q.sa]? = some q.sC from Fq.ha).symm.trans e1
    obtain ⟨cS', ⟨⟨-, -, -, ⟨c2, k2, i2, g2, -⟩, -, -, -, v2, -⟩, -⟩, -⟩ := Fq
    obtain ⟨k3, g3, -⟩ := State.fieldFound?_setVm (s := Z) hal f2
    have g4 := (show (Wst Z vm h).fieldFound? _ _ _ = _ from g3).symm.trans g2
    simp only [Option.some.injEq, Prod.mk.injEq] at g4
    rw [← g4.2.2.2, f7] at v2
    cases v2
  · cases (show h[q.sd]? = some q.SA from Fq.hd).symm.trans e1
    obtain ⟨cS, -, -, g, -⟩ := Fq
    have g' : Z.vm.findClass "[B" = some q.SA.cls := by rw [← hal.findClass]; exact g
    obtain ⟨k1, q1, q2⟩ := Vm.findClass_spec g'
    obtain ⟨k2, q3, q4⟩ := Vm.findClass_spec e2
    cases q1.symm.trans q3
    have := q2.symm.trans q4
    exact absurd this (by decide)
end OwnHeld
theorem own_eqI {args : Array Value} {s : State} {t : Term} {k : Int32} (h : (Jvm.Cond.eq t (Term.int k)).value args s none s [] = some true) : t.eval args s none [] s = some (.int k) := by
  obtain ⟨x, y, e1, e2, -, k2⟩ := cmp_v (Or.inl h)
  have q : y = .int k := Option.some.inj (e2.symm.trans (Term.int_eval k))
  subst q
  obtain ⟨z, rfl⟩ := k2
  have q := gotT (Cond.eq_ints e1 (Term.int_eval k)) h
  subst q
  exact e1
theorem own_EWof {Z : State} {a0 : Array Value} (hw : ∀ d ∈ tables_1, d.before a0 Z = true) : EW Z a0 own_EL := EW.cons (text := "") (own_w hw 110 rfl) (fun c hc => by cases hc) EW.nil
theorem own_wS : ∀ d ∈ Bundle.stringAtoms, d ∈ tables_1 := by decide +kernel
def own_hs (c : Int32) : Prop := ¬ c < (55296 : Int32) ∧ c < (56320 : Int32)
def own_ls (c : Int32) : Prop := ¬ c < (56320 : Int32) ∧ c < (57344 : Int32)
theorem own_gtIH {c : Int32} (h : ¬ (56319 : Int32) < c) : c < (56320 : Int32) := by
  rw [Int32.lt_iff_toInt_lt] at *
  have e1 : (56319 : Int32).toInt = 56319 := rfl
  have e2 : (56320 : Int32).toInt = 56320 := rfl
  omega
theorem own_ngIH {c : Int32} (h : (56319 : Int32) < c) : ¬ c < (56320 : Int32) := by
  rw [Int32.lt_iff_toInt_lt] at *
  have e1 : (56319 : Int32).toInt = 56319 := rfl
  have e2 : (56320 : Int32).toInt = 56320 := rfl
  omega
theorem own_gtIL {c : Int32} (h : ¬ (57343 : Int32) < c) : c < (57344 : Int32) := by
  rw [Int32.lt_iff_toInt_lt] at *
  have e1 : (57343 : Int32).toInt = 57343 := rfl
  have e2 : (57344 : Int32).toInt = 57344 := rfl
  omega
theorem own_ngIL {c : Int32} (h : (57343 : Int32) < c) : ¬ c < (57344 : Int32) := by
  rw [Int32.lt_iff_toInt_lt] at *
  have e1 : (57343 : Int32).toInt = 57343 := rfl
  have e2 : (57344 : Int32).toInt = 57344 := rfl
  omega
theorem own_nhl {c : Int32} (h : own_ls c) : ¬ own_hs c := fun q => h.1 q.2
theorem own_nhs {c : Int32} (h : ¬ (255 : Int32) < c) : ¬ own_hs c := fun q => by
  have q1 := q.1
  rw [Int32.lt_iff_toInt_lt] at h q1
  have e1 : (255 : Int32).toInt = 255 := rfl
  have e2 : (55296 : Int32).toInt = 55296 := rfl
  omega
/-- r is the number of code points of the chars -/
def own_P0 (r : Int32) : Prop := r = 0
def own_P1 (x0 r : Int32) : Prop := r = 1
def own_P2 (x0 x1 r : Int32) : Prop := (own_hs x0 ∧ own_ls x1 → r = 1) ∧ (¬ (own_hs x0 ∧ own_ls x1) → r = 2)
def own_P3 (x0 x1 x2 r : Int32) : Prop := (own_hs x0 ∧ own_ls x1 → r = 2) ∧ (own_hs x1 ∧ own_ls x2 → r = 2) ∧ (¬ (own_hs x0 ∧ own_ls x1) → ¬ (own_hs x1 ∧ own_ls x2) → r = 3)
theorem own_P2a {x0 x1 : Int32} (h : own_hs x0) (k : own_ls x1) : own_P2 x0 x1 1 := ⟨fun _ => rfl, fun n => absurd ⟨h, k⟩ n⟩
theorem own_P2c {x0 x1 : Int32} (h : ¬ (own_hs x0 ∧ own_ls x1)) : own_P2 x0 x1 2 := ⟨fun q => absurd q h, fun _ => rfl⟩
theorem own_P3a {x0 x1 x2 : Int32} (h : own_hs x0) (k : own_ls x1) : own_P3 x0 x1 x2 2 := ⟨fun _ => rfl, fun _ => rfl, fun n => absurd ⟨h, k⟩ n⟩
theorem own_P3b {x0 x1 x2 : Int32} (h : own_hs x1) (k : own_ls x2) : own_P3 x0 x1 x2 2 := ⟨fun _ => rfl, fun _ => rfl, fun _ n => absurd ⟨h, k⟩ n⟩
theorem own_P3c {x0 x1 x2 : Int32} (h : ¬ (own_hs x0 ∧ own_ls x1)) (k : ¬ (own_hs x1 ∧ own_ls x2)) : own_P3 x0 x1 x2 3 := ⟨fun q => absurd q h, fun q => absurd q k, fun _ _ => rfl⟩
theorem own_U0 (a b : Int32) (h : own_P0 a) (k : own_P0 b) : a = b := h.trans k.symm
theorem own_U1 {x0 : Int32} (a b : Int32) (h : own_P1 x0 a) (k : own_P1 x0 b) : a = b := Eq.trans h (Eq.symm k)
theorem own_U2 {x0 x1 : Int32} (a b : Int32) (h : own_P2 x0 x1 a) (k : own_P2 x0 x1 b) : a = b := by
  by_cases q : own_hs x0 ∧ own_ls x1
  · rw [h.1 q, k.1 q]
  · rw [h.2 q, k.2 q]
theorem own_U3 {x0 x1 x2 : Int32} (a b : Int32) (h : own_P3 x0 x1 x2 a) (k : own_P3 x0 x1 x2 b) : a = b := by
  by_cases q : own_hs x0 ∧ own_ls x1
  · rw [h.1 q, k.1 q]
  · by_cases q' : own_hs x1 ∧ own_ls x2
    · rw [h.2.1 q', k.2.1 q']
    · rw [h.2.2 q q', k.2.2 q q']
theorem own_fin {P : Int32 → Prop} {A : Prop} {tc p cn r ex : Int32} (U : ∀ a b, P a → P b → a = b) (hP : P cn) (hr : (r = 1 ∧ A ∧ ∃ q, P q ∧ tc = (p + q)) ∨ (r = 0 ∧ (¬ A ∨ ∃ q, P q ∧ ¬ tc = (p + q)))) (hx : (ex = 1 ∧ A ∧ tc = (p + cn)) ∨ (ex = 0 ∧ (¬ A ∨ ¬ tc = (p + cn)))) : r = ex := by
  rcases hr with ⟨rfl, ha, q, hq, e⟩ | ⟨rfl, hr⟩
  · have u := U _ _ hq hP
    rw [u] at e
    rcases hx with ⟨rfl, -⟩ | ⟨-, n | n⟩
    · rfl
    · exact absurd ha n
    · exact absurd e n
  · rcases hx with ⟨-, ha, e⟩ | ⟨rfl, -⟩
    · rcases hr with n | ⟨q, hq, n⟩
      · exact absurd ha n
      · have u := U _ _ hq hP
        rw [u] at n
        exact absurd e n
    · rfl
section OwnSC
variable {Z : State} {h h' : Heap} {x t a : Addr} {kb : ClassId} {slt : Nat} {v : Value} {ws : List Addr} {A : Prop} {N0 N1 : Int32} {b0 b1 : List Value}
/-- a String, its bytes small or wide; A holds where they are small -/
def own_SC (Z : State) (h : Heap) (x t : Addr) (kb : ClassId) (A : Prop) (N0 N1 : Int32) (b0 b1 : List Value) : Prop := (A ∧ own_StrG Z h x t kb 0 N0 b0) ∨ own_StrG Z h x t kb 1 N1 b1
theorem own_SC.sl (S : own_SC Z h x t kb A N0 N1 b0 b1) : own_StrL Z h x t N0 N1 := S.elim (fun q => ⟨_, _, _, _, q.2, Or.inl ⟨rfl, rfl⟩⟩) (fun q => ⟨_, _, _, _, q, Or.inr ⟨rfl, rfl⟩⟩)
theorem own_SC.lt (S : own_SC Z h x t kb A N0 N1 b0 b1) : x < h.size := S.elim (fun q => q.2.lt) (fun q => q.lt)
theorem own_SC.ltT (S : own_SC Z h x t kb A N0 N1 b0 b1) : t < h.size := S.elim (fun q => q.2.ltT) (fun q => q.ltT)
theorem own_SC.ext (S : own_SC Z h x t kb A N0 N1 b0 b1) (E : Ext h h') : own_SC Z h' x t kb A N0 N1 b0 b1 := S.imp (fun q => ⟨q.1, q.2.ext E⟩) (fun q => q.ext E)
theorem own_SC.wr (S : own_SC Z h x t kb A N0 N1 b0 b1) (W : Wr h h' a slt v) (n1 : x ≠ a) (n2 : t ≠ a) : own_SC Z h' x t kb A N0 N1 b0 b1 := S.imp (fun q => ⟨q.1, q.2.wr W n1 n2⟩) (fun q => q.wr W n1 n2)
theorem own_SC.keep (S : own_SC Z h x t kb A N0 N1 b0 b1) (K : Keep h h' ws) (n1 : x ∉ ws) (n2 : t ∉ ws) : own_SC Z h' x t kb A N0 N1 b0 b1 := S.imp (fun q => ⟨q.1, q.2.keep K n1 n2⟩) (fun q => q.keep K n1 n2)
end OwnSC
theorem own_r4 (y : Int32) {n : Int32} (h : (y &&& (3 : Int32)) = n) : n = 0 ∨ n = 1 ∨ n = 2 ∨ n = 3 := by
  subst h
  have e1 : (y &&& 3).toInt = y.toInt % (2 ^ 2 : Nat) := c_mask y 3 2 (by decide) (by decide)
  rw [← Int32.toInt_inj, ← Int32.toInt_inj, ← Int32.toInt_inj, ← Int32.toInt_inj]
  show _ = 0 ∨ _ = 1 ∨ _ = 2 ∨ _ = 3
  rw [e1]; omega
abbrev own_S0 (Z : State) (h : Heap) (x t : Addr) (kb : ClassId)  : Prop := own_SC Z h x t kb (own_P0 (0 : Int32)) (0 : Int32) (0 : Int32) [] []
abbrev own_S1 (Z : State) (h : Heap) (x t : Addr) (kb : ClassId) (x0 : Int32) : Prop := own_SC Z h x t kb (own_P1 x0 (1 : Int32)) (1 : Int32) (2 : Int32) [(.int (x0.toInt8.toInt32))] [(.int ((x0 >>> ((0 : Int32) &&& 31)).toInt8.toInt32)), (.int ((x0 >>> ((8 : Int32) &&& 31)).toInt8.toInt32))]
abbrev own_S2 (Z : State) (h : Heap) (x t : Addr) (kb : ClassId) (x0 x1 : Int32) : Prop := own_SC Z h x t kb (own_P2 x0 x1 (2 : Int32)) (2 : Int32) (4 : Int32) [(.int (x0.toInt8.toInt32)), (.int (x1.toInt8.toInt32))] [(.int ((x0 >>> ((0 : Int32) &&& 31)).toInt8.toInt32)), (.int ((x0 >>> ((8 : Int32) &&& 31)).toInt8.toInt32)), (.int ((x1 >>> ((0 : Int32) &&& 31)).toInt8.toInt32)), (.int ((x1 >>> ((8 : Int32) &&& 31)).toInt8.toInt32))]
abbrev own_S3 (Z : State) (h : Heap) (x t : Addr) (kb : ClassId) (x0 x1 x2 : Int32) : Prop := own_SC Z h x t kb (own_P3 x0 x1 x2 (3 : Int32)) (3 : Int32) (6 : Int32) [(.int (x0.toInt8.toInt32)), (.int (x1.toInt8.toInt32)), (.int (x2.toInt8.toInt32))] [(.int ((x0 >>> ((0 : Int32) &&& 31)).toInt8.toInt32)), (.int ((x0 >>> ((8 : Int32) &&& 31)).toInt8.toInt32)), (.int ((x1 >>> ((0 : Int32) &&& 31)).toInt8.toInt32)), (.int ((x1 >>> ((8 : Int32) &&& 31)).toInt8.toInt32)), (.int ((x2 >>> ((0 : Int32) &&& 31)).toInt8.toInt32)), (.int ((x2 >>> ((8 : Int32) &&& 31)).toInt8.toInt32))]
theorem own_d0 : decode jdk_42_method_149_code 0 = .ok (.aload_n 0, 1) := by decide +kernel
theorem own_d1 : decode jdk_42_method_149_code 1 = .ok (.invokespecial 1, 3) := by decide +kernel
theorem own_d2 : decode jdk_42_method_149_code 4 = .ok (.iload_n 3, 1) := by decide +kernel
theorem own_d3 : decode jdk_42_method_149_code 5 = .ok (.ifCond .ne 22, 3) := by decide +kernel
theorem own_d4 : decode jdk_42_method_149_code 8 = .ok (.aload_n 0, 1) := by decide +kernel
theorem own_d5 : decode jdk_42_method_149_code 9 = .ok (.ldc 7, 2) := by decide +kernel
theorem own_d6 : decode jdk_42_method_149_code 11 = .ok (.getfield 9, 3) := by decide +kernel
theorem own_d7 : decode jdk_42_method_149_code 14 = .ok (.putfield 9, 3) := by decide +kernel
theorem own_d8 : decode jdk_42_method_149_code 17 = .ok (.aload_n 0, 1) := by decide +kernel
theorem own_d9 : decode jdk_42_method_149_code 18 = .ok (.ldc 7, 2) := by decide +kernel
theorem own_d10 : decode jdk_42_method_149_code 20 = .ok (.getfield 15, 3) := by decide +kernel
theorem own_d11 : decode jdk_42_method_149_code 23 = .ok (.putfield 15, 3) := by decide +kernel
theorem own_d12 : decode jdk_42_method_149_code 26 = .ok (.return_, 1) := by decide +kernel
theorem own_d13 : decode jdk_42_method_3_code 0 = .ok (.aload_n 0, 1) := by decide +kernel
theorem own_d14 : decode jdk_42_method_3_code 1 = .ok (.aload_n 1, 1) := by decide +kernel
theorem own_d15 : decode jdk_42_method_3_code 2 = .ok (.iconst 0, 1) := by decide +kernel
theorem own_d16 : decode jdk_42_method_3_code 3 = .ok (.aload_n 1, 1) := by decide +kernel
theorem own_d17 : decode jdk_42_method_3_code 4 = .ok (.arraylength, 1) := by decide +kernel
theorem own_d18 : decode jdk_42_method_3_code 5 = .ok (.aconst_null, 1) := by decide +kernel
theorem own_d19 : decode jdk_42_method_3_code 6 = .ok (.invokespecial 27, 3) := by decide +kernel
theorem own_d20 : decode jdk_42_method_3_code 9 = .ok (.return_, 1) := by decide +kernel
theorem own_d21 : decode jdk_52_method_21_code 0 = .ok (.iconst 0, 1) := by decide +kernel
theorem own_d22 : decode jdk_52_method_21_code 1 = .ok (.istore 5, 2) := by decide +kernel
theorem own_d23 : decode jdk_52_method_21_code 3 = .ok (.iload 5, 2) := by decide +kernel
theorem own_d24 : decode jdk_52_method_21_code 5 = .ok (.iload 4, 2) := by decide +kernel
theorem own_d25 : decode jdk_52_method_21_code 7 = .ok (.if_icmp .ge 37, 3) := by decide +kernel
theorem own_d26 : decode jdk_52_method_21_code 10 = .ok (.aload_n 0, 1) := by decide +kernel
theorem own_d27 : decode jdk_52_method_21_code 11 = .ok (.iload_n 1, 1) := by decide +kernel
theorem own_d28 : decode jdk_52_method_21_code 12 = .ok (.caload, 1) := by decide +kernel
theorem own_d29 : decode jdk_52_method_21_code 13 = .ok (.istore 6, 2) := by decide +kernel
theorem own_d30 : decode jdk_52_method_21_code 15 = .ok (.iload 6, 2) := by decide +kernel
theorem own_d31 : decode jdk_52_method_21_code 17 = .ok (.sipush 255, 3) := by decide +kernel
theorem own_d32 : decode jdk_52_method_21_code 20 = .ok (.if_icmp .le 6, 3) := by decide +kernel
theorem own_d33 : decode jdk_52_method_21_code 23 = .ok (.iload 5, 2) := by decide +kernel
theorem own_d34 : decode jdk_52_method_21_code 25 = .ok (.ireturn, 1) := by decide +kernel
theorem own_d35 : decode jdk_52_method_21_code 26 = .ok (.aload_n 2, 1) := by decide +kernel
theorem own_d36 : decode jdk_52_method_21_code 27 = .ok (.iload_n 3, 1) := by decide +kernel
theorem own_d37 : decode jdk_52_method_21_code 28 = .ok (.iload 6, 2) := by decide +kernel
theorem own_d38 : decode jdk_52_method_21_code 30 = .ok (.i2b, 1) := by decide +kernel
theorem own_d39 : decode jdk_52_method_21_code 31 = .ok (.bastore, 1) := by decide +kernel
theorem own_d40 : decode jdk_52_method_21_code 32 = .ok (.iinc 1 1, 3) := by decide +kernel
theorem own_d41 : decode jdk_52_method_21_code 35 = .ok (.iinc 3 1, 3) := by decide +kernel
theorem own_d42 : decode jdk_52_method_21_code 38 = .ok (.iinc 5 1, 3) := by decide +kernel
theorem own_d43 : decode jdk_52_method_21_code 41 = .ok (.goto (-38), 3) := by decide +kernel
theorem own_d44 : decode jdk_52_method_21_code 44 = .ok (.iload 4, 2) := by decide +kernel
theorem own_d45 : decode jdk_52_method_21_code 46 = .ok (.ireturn, 1) := by decide +kernel
theorem own_d46 : decode jdk_52_method_3_code 0 = .ok (.iload_n 0, 1) := by decide +kernel
theorem own_d47 : decode jdk_52_method_3_code 1 = .ok (.ifCond .ge 11, 3) := by decide +kernel
theorem own_d48 : decode jdk_52_method_3_code 12 = .ok (.iload_n 0, 1) := by decide +kernel
theorem own_d49 : decode jdk_52_method_3_code 13 = .ok (.ldc 20, 2) := by decide +kernel
theorem own_d50 : decode jdk_52_method_3_code 15 = .ok (.if_icmp .lt 40, 3) := by decide +kernel
theorem own_d51 : decode jdk_52_method_3_code 55 = .ok (.iload_n 0, 1) := by decide +kernel
theorem own_d52 : decode jdk_52_method_3_code 56 = .ok (.iconst 1, 1) := by decide +kernel
theorem own_d53 : decode jdk_52_method_3_code 57 = .ok (.ishl, 1) := by decide +kernel
theorem own_d54 : decode jdk_52_method_3_code 58 = .ok (.ireturn, 1) := by decide +kernel
theorem own_d55 : decode jdk_52_method_2_code 0 = .ok (.iload_n 0, 1) := by decide +kernel
theorem own_d56 : decode jdk_52_method_2_code 1 = .ok (.invokestatic 11, 3) := by decide +kernel
theorem own_d57 : decode jdk_52_method_2_code 4 = .ok (.newarray .byte, 2) := by decide +kernel
theorem own_d58 : decode jdk_52_method_2_code 6 = .ok (.areturn, 1) := by decide +kernel
theorem own_d59 : decode jdk_52_method_4_code 0 = .ok (.getstatic 44, 3) := by decide +kernel
theorem own_d60 : decode jdk_52_method_4_code 3 = .ok (.ifCond .ne 25, 3) := by decide +kernel
theorem own_d61 : decode jdk_52_method_4_code 28 = .ok (.iload_n 1, 1) := by decide +kernel
theorem own_d62 : decode jdk_52_method_4_code 29 = .ok (.iconst 1, 1) := by decide +kernel
theorem own_d63 : decode jdk_52_method_4_code 30 = .ok (.ishl, 1) := by decide +kernel
theorem own_d64 : decode jdk_52_method_4_code 31 = .ok (.istore_n 1, 1) := by decide +kernel
theorem own_d65 : decode jdk_52_method_4_code 32 = .ok (.aload_n 0, 1) := by decide +kernel
theorem own_d66 : decode jdk_52_method_4_code 33 = .ok (.iload_n 1, 1) := by decide +kernel
theorem own_d67 : decode jdk_52_method_4_code 34 = .ok (.iinc 1 1, 3) := by decide +kernel
theorem own_d68 : decode jdk_52_method_4_code 37 = .ok (.iload_n 2, 1) := by decide +kernel
theorem own_d69 : decode jdk_52_method_4_code 38 = .ok (.getstatic 59, 3) := by decide +kernel
theorem own_d70 : decode jdk_52_method_4_code 41 = .ok (.ishr, 1) := by decide +kernel
theorem own_d71 : decode jdk_52_method_4_code 42 = .ok (.i2b, 1) := by decide +kernel
theorem own_d72 : decode jdk_52_method_4_code 43 = .ok (.bastore, 1) := by decide +kernel
theorem own_d73 : decode jdk_52_method_4_code 44 = .ok (.aload_n 0, 1) := by decide +kernel
theorem own_d74 : decode jdk_52_method_4_code 45 = .ok (.iload_n 1, 1) := by decide +kernel
theorem own_d75 : decode jdk_52_method_4_code 46 = .ok (.iload_n 2, 1) := by decide +kernel
theorem own_d76 : decode jdk_52_method_4_code 47 = .ok (.getstatic 63, 3) := by decide +kernel
theorem own_d77 : decode jdk_52_method_4_code 50 = .ok (.ishr, 1) := by decide +kernel
theorem own_d78 : decode jdk_52_method_4_code 51 = .ok (.i2b, 1) := by decide +kernel
theorem own_d79 : decode jdk_52_method_4_code 52 = .ok (.bastore, 1) := by decide +kernel
theorem own_d80 : decode jdk_52_method_4_code 53 = .ok (.return_, 1) := by decide +kernel
theorem own_d81 : decode jdk_52_method_14_code 0 = .ok (.iload_n 2, 1) := by decide +kernel
theorem own_d82 : decode jdk_52_method_14_code 1 = .ok (.invokestatic 107, 3) := by decide +kernel
theorem own_d83 : decode jdk_52_method_14_code 4 = .ok (.astore_n 3, 1) := by decide +kernel
theorem own_d84 : decode jdk_52_method_14_code 5 = .ok (.iconst 0, 1) := by decide +kernel
theorem own_d85 : decode jdk_52_method_14_code 6 = .ok (.istore 4, 2) := by decide +kernel
theorem own_d86 : decode jdk_52_method_14_code 8 = .ok (.iload 4, 2) := by decide +kernel
theorem own_d87 : decode jdk_52_method_14_code 10 = .ok (.iload_n 2, 1) := by decide +kernel
theorem own_d88 : decode jdk_52_method_14_code 11 = .ok (.if_icmp .ge 21, 3) := by decide +kernel
theorem own_d89 : decode jdk_52_method_14_code 14 = .ok (.aload_n 3, 1) := by decide +kernel
theorem own_d90 : decode jdk_52_method_14_code 15 = .ok (.iload 4, 2) := by decide +kernel
theorem own_d91 : decode jdk_52_method_14_code 17 = .ok (.aload_n 0, 1) := by decide +kernel
theorem own_d92 : decode jdk_52_method_14_code 18 = .ok (.iload_n 1, 1) := by decide +kernel
theorem own_d93 : decode jdk_52_method_14_code 19 = .ok (.caload, 1) := by decide +kernel
theorem own_d94 : decode jdk_52_method_14_code 20 = .ok (.invokestatic 111, 3) := by decide +kernel
theorem own_d95 : decode jdk_52_method_14_code 23 = .ok (.iinc 1 1, 3) := by decide +kernel
theorem own_d96 : decode jdk_52_method_14_code 26 = .ok (.iinc 4 1, 3) := by decide +kernel
theorem own_d97 : decode jdk_52_method_14_code 29 = .ok (.goto (-21), 3) := by decide +kernel
theorem own_d98 : decode jdk_52_method_14_code 32 = .ok (.aload_n 3, 1) := by decide +kernel
theorem own_d99 : decode jdk_52_method_14_code 33 = .ok (.areturn, 1) := by decide +kernel
theorem own_d100 : decode jdk_52_method_5_code 0 = .ok (.getstatic 44, 3) := by decide +kernel
theorem own_d101 : decode jdk_52_method_5_code 3 = .ok (.ifCond .ne 25, 3) := by decide +kernel
theorem own_d102 : decode jdk_52_method_5_code 28 = .ok (.iload_n 1, 1) := by decide +kernel
theorem own_d103 : decode jdk_52_method_5_code 29 = .ok (.iconst 1, 1) := by decide +kernel
theorem own_d104 : decode jdk_52_method_5_code 30 = .ok (.ishl, 1) := by decide +kernel
theorem own_d105 : decode jdk_52_method_5_code 31 = .ok (.istore_n 1, 1) := by decide +kernel
theorem own_d106 : decode jdk_52_method_5_code 32 = .ok (.aload_n 0, 1) := by decide +kernel
theorem own_d107 : decode jdk_52_method_5_code 33 = .ok (.iload_n 1, 1) := by decide +kernel
theorem own_d108 : decode jdk_52_method_5_code 34 = .ok (.iinc 1 1, 3) := by decide +kernel
theorem own_d109 : decode jdk_52_method_5_code 37 = .ok (.baload, 1) := by decide +kernel
theorem own_d110 : decode jdk_52_method_5_code 38 = .ok (.sipush 255, 3) := by decide +kernel
theorem own_d111 : decode jdk_52_method_5_code 41 = .ok (.iand, 1) := by decide +kernel
theorem own_d112 : decode jdk_52_method_5_code 42 = .ok (.getstatic 59, 3) := by decide +kernel
theorem own_d113 : decode jdk_52_method_5_code 45 = .ok (.ishl, 1) := by decide +kernel
theorem own_d114 : decode jdk_52_method_5_code 46 = .ok (.aload_n 0, 1) := by decide +kernel
theorem own_d115 : decode jdk_52_method_5_code 47 = .ok (.iload_n 1, 1) := by decide +kernel
theorem own_d116 : decode jdk_52_method_5_code 48 = .ok (.baload, 1) := by decide +kernel
theorem own_d117 : decode jdk_52_method_5_code 49 = .ok (.sipush 255, 3) := by decide +kernel
theorem own_d118 : decode jdk_52_method_5_code 52 = .ok (.iand, 1) := by decide +kernel
theorem own_d119 : decode jdk_52_method_5_code 53 = .ok (.getstatic 63, 3) := by decide +kernel
theorem own_d120 : decode jdk_52_method_5_code 56 = .ok (.ishl, 1) := by decide +kernel
theorem own_d121 : decode jdk_52_method_5_code 57 = .ok (.ior, 1) := by decide +kernel
theorem own_d122 : decode jdk_52_method_5_code 58 = .ok (.i2c, 1) := by decide +kernel
theorem own_d123 : decode jdk_52_method_5_code 59 = .ok (.ireturn, 1) := by decide +kernel
theorem own_d124 : decode jdk_52_method_16_code 0 = .ok (.iload_n 2, 1) := by decide +kernel
theorem own_d125 : decode jdk_52_method_16_code 1 = .ok (.newarray .byte, 2) := by decide +kernel
theorem own_d126 : decode jdk_52_method_16_code 3 = .ok (.astore_n 3, 1) := by decide +kernel
theorem own_d127 : decode jdk_52_method_16_code 4 = .ok (.aload_n 0, 1) := by decide +kernel
theorem own_d128 : decode jdk_52_method_16_code 5 = .ok (.iload_n 1, 1) := by decide +kernel
theorem own_d129 : decode jdk_52_method_16_code 6 = .ok (.aload_n 3, 1) := by decide +kernel
theorem own_d130 : decode jdk_52_method_16_code 7 = .ok (.iconst 0, 1) := by decide +kernel
theorem own_d131 : decode jdk_52_method_16_code 8 = .ok (.iload_n 2, 1) := by decide +kernel
theorem own_d132 : decode jdk_52_method_16_code 9 = .ok (.invokestatic 115, 3) := by decide +kernel
theorem own_d133 : decode jdk_52_method_16_code 12 = .ok (.istore 4, 2) := by decide +kernel
theorem own_d134 : decode jdk_52_method_16_code 14 = .ok (.iload 4, 2) := by decide +kernel
theorem own_d135 : decode jdk_52_method_16_code 16 = .ok (.iload_n 2, 1) := by decide +kernel
theorem own_d136 : decode jdk_52_method_16_code 17 = .ok (.if_icmp .eq 40, 3) := by decide +kernel
theorem own_d137 : decode jdk_52_method_16_code 57 = .ok (.aload_n 3, 1) := by decide +kernel
theorem own_d138 : decode jdk_52_method_16_code 58 = .ok (.areturn, 1) := by decide +kernel
theorem own_d139 : decode jdk_52_method_16_code 20 = .ok (.aload_n 0, 1) := by decide +kernel
theorem own_d140 : decode jdk_52_method_16_code 21 = .ok (.iload_n 1, 1) := by decide +kernel
theorem own_d141 : decode jdk_52_method_16_code 22 = .ok (.iload_n 2, 1) := by decide +kernel
theorem own_d142 : decode jdk_52_method_16_code 23 = .ok (.invokestatic 119, 3) := by decide +kernel
theorem own_d143 : decode jdk_52_method_16_code 26 = .ok (.astore 5, 2) := by decide +kernel
theorem own_d144 : decode jdk_52_method_16_code 28 = .ok (.aload 5, 2) := by decide +kernel
theorem own_d145 : decode jdk_52_method_16_code 30 = .ok (.iload 4, 2) := by decide +kernel
theorem own_d146 : decode jdk_52_method_16_code 32 = .ok (.invokestatic 71, 3) := by decide +kernel
theorem own_d147 : decode jdk_52_method_16_code 35 = .ok (.sipush 255, 3) := by decide +kernel
theorem own_d148 : decode jdk_52_method_16_code 38 = .ok (.if_icmp .gt 16, 3) := by decide +kernel
theorem own_d149 : decode jdk_52_method_16_code 54 = .ok (.aload 5, 2) := by decide +kernel
theorem own_d150 : decode jdk_52_method_16_code 56 = .ok (.areturn, 1) := by decide +kernel
theorem own_d151 : decode jdk_52_method_15_code 0 = .ok (.iload_n 1, 1) := by decide +kernel
theorem own_d152 : decode jdk_52_method_15_code 1 = .ok (.aload_n 0, 1) := by decide +kernel
theorem own_d153 : decode jdk_52_method_15_code 2 = .ok (.arraylength, 1) := by decide +kernel
theorem own_d154 : decode jdk_52_method_15_code 3 = .ok (.isub, 1) := by decide +kernel
theorem own_d155 : decode jdk_52_method_15_code 4 = .ok (.bipush 31, 2) := by decide +kernel
theorem own_d156 : decode jdk_52_method_15_code 6 = .ok (.iushr, 1) := by decide +kernel
theorem own_d157 : decode jdk_52_method_15_code 7 = .ok (.i2b, 1) := by decide +kernel
theorem own_d158 : decode jdk_52_method_15_code 8 = .ok (.ireturn, 1) := by decide +kernel
theorem own_d159 : decode jdk_42_method_149_code 27 = .ok (.getstatic 38, 3) := by decide +kernel
theorem own_d160 : decode jdk_42_method_149_code 30 = .ok (.ifCond .eq 28, 3) := by decide +kernel
theorem own_d161 : decode jdk_42_method_149_code 33 = .ok (.aload_n 1, 1) := by decide +kernel
theorem own_d162 : decode jdk_42_method_149_code 34 = .ok (.iload_n 2, 1) := by decide +kernel
theorem own_d163 : decode jdk_42_method_149_code 35 = .ok (.iload_n 3, 1) := by decide +kernel
theorem own_d164 : decode jdk_42_method_149_code 36 = .ok (.invokestatic 177, 3) := by decide +kernel
theorem own_d165 : decode jdk_42_method_149_code 39 = .ok (.astore 5, 2) := by decide +kernel
theorem own_d166 : decode jdk_42_method_149_code 41 = .ok (.aload_n 0, 1) := by decide +kernel
theorem own_d167 : decode jdk_42_method_149_code 42 = .ok (.aload 5, 2) := by decide +kernel
theorem own_d168 : decode jdk_42_method_149_code 44 = .ok (.iload_n 3, 1) := by decide +kernel
theorem own_d169 : decode jdk_42_method_149_code 45 = .ok (.invokestatic 47, 3) := by decide +kernel
theorem own_d170 : decode jdk_42_method_149_code 48 = .ok (.putfield 15, 3) := by decide +kernel
theorem own_d171 : decode jdk_42_method_149_code 51 = .ok (.aload_n 0, 1) := by decide +kernel
theorem own_d172 : decode jdk_42_method_149_code 52 = .ok (.aload 5, 2) := by decide +kernel
theorem own_d173 : decode jdk_42_method_149_code 54 = .ok (.putfield 9, 3) := by decide +kernel
theorem own_d174 : decode jdk_42_method_149_code 57 = .ok (.return_, 1) := by decide +kernel
theorem own_d175 : decode jdk_42_method_152_code 0 = .ok (.getstatic 38, 3) := by decide +kernel
theorem own_d176 : decode jdk_42_method_152_code 3 = .ok (.ifCond .eq 10, 3) := by decide +kernel
theorem own_d177 : decode jdk_42_method_152_code 6 = .ok (.aload_n 0, 1) := by decide +kernel
theorem own_d178 : decode jdk_42_method_152_code 7 = .ok (.getfield 15, 3) := by decide +kernel
theorem own_d179 : decode jdk_42_method_152_code 10 = .ok (.goto 4, 3) := by decide +kernel
theorem own_d180 : decode jdk_42_method_152_code 14 = .ok (.ireturn, 1) := by decide +kernel
theorem own_d181 : decode jdk_42_method_54_code 0 = .ok (.aload_n 0, 1) := by decide +kernel
theorem own_d182 : decode jdk_42_method_54_code 1 = .ok (.getfield 9, 3) := by decide +kernel
theorem own_d183 : decode jdk_42_method_54_code 4 = .ok (.arraylength, 1) := by decide +kernel
theorem own_d184 : decode jdk_42_method_54_code 5 = .ok (.aload_n 0, 1) := by decide +kernel
theorem own_d185 : decode jdk_42_method_54_code 6 = .ok (.invokevirtual 335, 3) := by decide +kernel
theorem own_d186 : decode jdk_42_method_54_code 9 = .ok (.ishr, 1) := by decide +kernel
theorem own_d187 : decode jdk_42_method_54_code 10 = .ok (.ireturn, 1) := by decide +kernel
theorem own_d188 : decode jdk_43_method_3_code 0 = .ok (.iload_n 0, 1) := by decide +kernel
theorem own_d189 : decode jdk_43_method_3_code 1 = .ok (.sipush 255, 3) := by decide +kernel
theorem own_d190 : decode jdk_43_method_3_code 4 = .ok (.if_icmp .gt 7, 3) := by decide +kernel
theorem own_d191 : decode jdk_43_method_3_code 7 = .ok (.iconst 1, 1) := by decide +kernel
theorem own_d192 : decode jdk_43_method_3_code 8 = .ok (.goto 4, 3) := by decide +kernel
theorem own_d193 : decode jdk_43_method_3_code 12 = .ok (.ireturn, 1) := by decide +kernel
theorem own_d194 : decode jdk_43_method_46_code 0 = .ok (.iconst 1, 1) := by decide +kernel
theorem own_d195 : decode jdk_43_method_46_code 1 = .ok (.newarray .byte, 2) := by decide +kernel
theorem own_d196 : decode jdk_43_method_46_code 3 = .ok (.dup, 1) := by decide +kernel
theorem own_d197 : decode jdk_43_method_46_code 4 = .ok (.iconst 0, 1) := by decide +kernel
theorem own_d198 : decode jdk_43_method_46_code 5 = .ok (.iload_n 0, 1) := by decide +kernel
theorem own_d199 : decode jdk_43_method_46_code 6 = .ok (.i2b, 1) := by decide +kernel
theorem own_d200 : decode jdk_43_method_46_code 7 = .ok (.bastore, 1) := by decide +kernel
theorem own_d201 : decode jdk_43_method_46_code 8 = .ok (.areturn, 1) := by decide +kernel
theorem own_d202 : decode jdk_42_method_151_code 0 = .ok (.aload_n 0, 1) := by decide +kernel
theorem own_d203 : decode jdk_42_method_151_code 1 = .ok (.invokespecial 1, 3) := by decide +kernel
theorem own_d204 : decode jdk_42_method_151_code 4 = .ok (.aload_n 0, 1) := by decide +kernel
theorem own_d205 : decode jdk_42_method_151_code 5 = .ok (.aload_n 1, 1) := by decide +kernel
theorem own_d206 : decode jdk_42_method_151_code 6 = .ok (.putfield 9, 3) := by decide +kernel
theorem own_d207 : decode jdk_42_method_151_code 9 = .ok (.aload_n 0, 1) := by decide +kernel
theorem own_d208 : decode jdk_42_method_151_code 10 = .ok (.iload_n 2, 1) := by decide +kernel
theorem own_d209 : decode jdk_42_method_151_code 11 = .ok (.putfield 15, 3) := by decide +kernel
theorem own_d210 : decode jdk_42_method_151_code 14 = .ok (.return_, 1) := by decide +kernel
theorem own_d211 : decode jdk_42_method_139_code 0 = .ok (.getstatic 38, 3) := by decide +kernel
theorem own_d212 : decode jdk_42_method_139_code 3 = .ok (.ifCond .eq 23, 3) := by decide +kernel
theorem own_d213 : decode jdk_42_method_139_code 6 = .ok (.iload_n 0, 1) := by decide +kernel
theorem own_d214 : decode jdk_42_method_139_code 7 = .ok (.invokestatic 1015, 3) := by decide +kernel
theorem own_d215 : decode jdk_42_method_139_code 10 = .ok (.ifCond .eq 16, 3) := by decide +kernel
theorem own_d216 : decode jdk_42_method_139_code 13 = .ok (.new 10, 3) := by decide +kernel
theorem own_d217 : decode jdk_42_method_139_code 16 = .ok (.dup, 1) := by decide +kernel
theorem own_d218 : decode jdk_42_method_139_code 17 = .ok (.iload_n 0, 1) := by decide +kernel
theorem own_d219 : decode jdk_42_method_139_code 18 = .ok (.invokestatic 1018, 3) := by decide +kernel
theorem own_d220 : decode jdk_42_method_139_code 21 = .ok (.iconst 0, 1) := by decide +kernel
theorem own_d221 : decode jdk_42_method_139_code 22 = .ok (.invokespecial 209, 3) := by decide +kernel
theorem own_d222 : decode jdk_42_method_139_code 25 = .ok (.areturn, 1) := by decide +kernel
theorem own_d223 : decode method_3_code 0 = .ok (.iload_n 0, 1) := by decide +kernel
theorem own_d224 : decode method_3_code 1 = .ok (.ldc 46, 2) := by decide +kernel
theorem own_d225 : decode method_3_code 3 = .ok (.if_icmp .lt 13, 3) := by decide +kernel
theorem own_d226 : decode method_3_code 16 = .ok (.iconst 0, 1) := by decide +kernel
theorem own_d227 : decode method_3_code 17 = .ok (.ireturn, 1) := by decide +kernel
theorem own_d228 : decode method_3_code 6 = .ok (.iload_n 0, 1) := by decide +kernel
theorem own_d229 : decode method_3_code 7 = .ok (.ldc 47, 2) := by decide +kernel
theorem own_d230 : decode method_3_code 9 = .ok (.if_icmp .gt 7, 3) := by decide +kernel
theorem own_d231 : decode method_3_code 12 = .ok (.iconst 1, 1) := by decide +kernel
theorem own_d232 : decode method_3_code 13 = .ok (.goto 4, 3) := by decide +kernel
theorem own_d233 : decode method_4_code 0 = .ok (.iload_n 0, 1) := by decide +kernel
theorem own_d234 : decode method_4_code 1 = .ok (.ldc 48, 2) := by decide +kernel
theorem own_d235 : decode method_4_code 3 = .ok (.if_icmp .lt 13, 3) := by decide +kernel
theorem own_d236 : decode method_4_code 16 = .ok (.iconst 0, 1) := by decide +kernel
theorem own_d237 : decode method_4_code 17 = .ok (.ireturn, 1) := by decide +kernel
theorem own_d238 : decode method_4_code 6 = .ok (.iload_n 0, 1) := by decide +kernel
theorem own_d239 : decode method_4_code 7 = .ok (.ldc 49, 2) := by decide +kernel
theorem own_d240 : decode method_4_code 9 = .ok (.if_icmp .gt 7, 3) := by decide +kernel
theorem own_d241 : decode method_4_code 12 = .ok (.iconst 1, 1) := by decide +kernel
theorem own_d242 : decode method_4_code 13 = .ok (.goto 4, 3) := by decide +kernel
theorem own_d243 : decode jdk_89_method_14_code 0 = .ok (.iload_n 0, 1) := by decide +kernel
theorem own_d244 : decode jdk_89_method_14_code 1 = .ok (.ldc 75, 2) := by decide +kernel
theorem own_d245 : decode jdk_89_method_14_code 3 = .ok (.if_icmp .lt 13, 3) := by decide +kernel
theorem own_d246 : decode jdk_89_method_14_code 16 = .ok (.iconst 0, 1) := by decide +kernel
theorem own_d247 : decode jdk_89_method_14_code 17 = .ok (.ireturn, 1) := by decide +kernel
theorem own_d248 : decode jdk_89_method_14_code 6 = .ok (.iload_n 0, 1) := by decide +kernel
theorem own_d249 : decode jdk_89_method_14_code 7 = .ok (.ldc 76, 2) := by decide +kernel
theorem own_d250 : decode jdk_89_method_14_code 9 = .ok (.if_icmp .ge 7, 3) := by decide +kernel
theorem own_d251 : decode jdk_89_method_14_code 12 = .ok (.iconst 1, 1) := by decide +kernel
theorem own_d252 : decode jdk_89_method_14_code 13 = .ok (.goto 4, 3) := by decide +kernel
theorem own_d253 : decode jdk_89_method_15_code 0 = .ok (.iload_n 0, 1) := by decide +kernel
theorem own_d254 : decode jdk_89_method_15_code 1 = .ok (.ldc 76, 2) := by decide +kernel
theorem own_d255 : decode jdk_89_method_15_code 3 = .ok (.if_icmp .lt 13, 3) := by decide +kernel
theorem own_d256 : decode jdk_89_method_15_code 16 = .ok (.iconst 0, 1) := by decide +kernel
theorem own_d257 : decode jdk_89_method_15_code 17 = .ok (.ireturn, 1) := by decide +kernel
theorem own_d258 : decode jdk_89_method_15_code 6 = .ok (.iload_n 0, 1) := by decide +kernel
theorem own_d259 : decode jdk_89_method_15_code 7 = .ok (.ldc 77, 2) := by decide +kernel
theorem own_d260 : decode jdk_89_method_15_code 9 = .ok (.if_icmp .ge 7, 3) := by decide +kernel
theorem own_d261 : decode jdk_89_method_15_code 12 = .ok (.iconst 1, 1) := by decide +kernel
theorem own_d262 : decode jdk_89_method_15_code 13 = .ok (.goto 4, 3) := by decide +kernel
theorem own_d263 : decode method_5_code 0 = .ok (.iload_n 0, 1) := by decide +kernel
theorem own_d264 : decode method_5_code 1 = .ok (.ifCond .ne 6, 3) := by decide +kernel
theorem own_d265 : decode method_5_code 4 = .ok (.iload_n 1, 1) := by decide +kernel
theorem own_d266 : decode method_5_code 5 = .ok (.i2c, 1) := by decide +kernel
theorem own_d267 : decode method_5_code 6 = .ok (.ireturn, 1) := by decide +kernel
theorem own_d268 : decode method_5_code 7 = .ok (.iload_n 0, 1) := by decide +kernel
theorem own_d269 : decode method_5_code 8 = .ok (.iconst 1, 1) := by decide +kernel
theorem own_d270 : decode method_5_code 9 = .ok (.if_icmp .ne 17, 3) := by decide +kernel
theorem own_d271 : decode method_5_code 12 = .ok (.iload_n 1, 1) := by decide +kernel
theorem own_d272 : decode method_5_code 13 = .ok (.iconst 1, 1) := by decide +kernel
theorem own_d273 : decode method_5_code 14 = .ok (.iand, 1) := by decide +kernel
theorem own_d274 : decode method_5_code 15 = .ok (.ifCond .ne 8, 3) := by decide +kernel
theorem own_d275 : decode method_5_code 18 = .ok (.ldc 50, 2) := by decide +kernel
theorem own_d276 : decode method_5_code 20 = .ok (.goto 5, 3) := by decide +kernel
theorem own_d277 : decode method_5_code 25 = .ok (.ireturn, 1) := by decide +kernel
theorem own_d278 : decode method_5_code 23 = .ok (.ldc 51, 2) := by decide +kernel
theorem own_d279 : decode method_5_code 26 = .ok (.iload_n 0, 1) := by decide +kernel
theorem own_d280 : decode method_5_code 27 = .ok (.iconst 2, 1) := by decide +kernel
theorem own_d281 : decode method_5_code 28 = .ok (.if_icmp .ne 15, 3) := by decide +kernel
theorem own_d282 : decode method_5_code 31 = .ok (.ldc 46, 2) := by decide +kernel
theorem own_d283 : decode method_5_code 33 = .ok (.iload_n 1, 1) := by decide +kernel
theorem own_d284 : decode method_5_code 34 = .ok (.iconst 2, 1) := by decide +kernel
theorem own_d285 : decode method_5_code 35 = .ok (.ishl, 1) := by decide +kernel
theorem own_d286 : decode method_5_code 36 = .ok (.iadd, 1) := by decide +kernel
theorem own_d287 : decode method_5_code 37 = .ok (.iload_n 1, 1) := by decide +kernel
theorem own_d288 : decode method_5_code 38 = .ok (.iconst 3, 1) := by decide +kernel
theorem own_d289 : decode method_5_code 39 = .ok (.iand, 1) := by decide +kernel
theorem own_d290 : decode method_5_code 40 = .ok (.iadd, 1) := by decide +kernel
theorem own_d291 : decode method_5_code 41 = .ok (.i2c, 1) := by decide +kernel
theorem own_d292 : decode method_5_code 42 = .ok (.ireturn, 1) := by decide +kernel
theorem own_d293 : decode method_5_code 43 = .ok (.ldc 48, 2) := by decide +kernel
theorem own_d294 : decode method_5_code 45 = .ok (.iload_n 1, 1) := by decide +kernel
theorem own_d295 : decode method_5_code 46 = .ok (.iconst 2, 1) := by decide +kernel
theorem own_d296 : decode method_5_code 47 = .ok (.ishl, 1) := by decide +kernel
theorem own_d297 : decode method_5_code 48 = .ok (.iadd, 1) := by decide +kernel
theorem own_d298 : decode method_5_code 49 = .ok (.iload_n 1, 1) := by decide +kernel
theorem own_d299 : decode method_5_code 50 = .ok (.iconst 3, 1) := by decide +kernel
theorem own_d300 : decode method_5_code 51 = .ok (.iand, 1) := by decide +kernel
theorem own_d301 : decode method_5_code 52 = .ok (.iadd, 1) := by decide +kernel
theorem own_d302 : decode method_5_code 53 = .ok (.i2c, 1) := by decide +kernel
theorem own_d303 : decode method_5_code 54 = .ok (.ireturn, 1) := by decide +kernel
theorem own_d304 : decode method_6_code 0 = .ok (.iload_n 0, 1) := by decide +kernel
theorem own_d305 : decode method_6_code 1 = .ok (.ifCond .ne 7, 3) := by decide +kernel
theorem own_d306 : decode method_6_code 4 = .ok (.iconst 0, 1) := by decide +kernel
theorem own_d307 : decode method_6_code 5 = .ok (.newarray .char, 2) := by decide +kernel
theorem own_d308 : decode method_6_code 7 = .ok (.areturn, 1) := by decide +kernel
theorem own_d309 : decode method_6_code 8 = .ok (.iload_n 0, 1) := by decide +kernel
theorem own_d310 : decode method_6_code 9 = .ok (.iconst 1, 1) := by decide +kernel
theorem own_d311 : decode method_6_code 10 = .ok (.if_icmp .ne 11, 3) := by decide +kernel
theorem own_d312 : decode method_6_code 13 = .ok (.iconst 1, 1) := by decide +kernel
theorem own_d313 : decode method_6_code 14 = .ok (.newarray .char, 2) := by decide +kernel
theorem own_d314 : decode method_6_code 16 = .ok (.dup, 1) := by decide +kernel
theorem own_d315 : decode method_6_code 17 = .ok (.iconst 0, 1) := by decide +kernel
theorem own_d316 : decode method_6_code 18 = .ok (.iload_n 1, 1) := by decide +kernel
theorem own_d317 : decode method_6_code 19 = .ok (.castore, 1) := by decide +kernel
theorem own_d318 : decode method_6_code 20 = .ok (.areturn, 1) := by decide +kernel
theorem own_d319 : decode method_6_code 21 = .ok (.iload_n 0, 1) := by decide +kernel
theorem own_d320 : decode method_6_code 22 = .ok (.iconst 2, 1) := by decide +kernel
theorem own_d321 : decode method_6_code 23 = .ok (.if_icmp .ne 15, 3) := by decide +kernel
theorem own_d322 : decode method_6_code 26 = .ok (.iconst 2, 1) := by decide +kernel
theorem own_d323 : decode method_6_code 27 = .ok (.newarray .char, 2) := by decide +kernel
theorem own_d324 : decode method_6_code 29 = .ok (.dup, 1) := by decide +kernel
theorem own_d325 : decode method_6_code 30 = .ok (.iconst 0, 1) := by decide +kernel
theorem own_d326 : decode method_6_code 31 = .ok (.iload_n 1, 1) := by decide +kernel
theorem own_d327 : decode method_6_code 32 = .ok (.castore, 1) := by decide +kernel
theorem own_d328 : decode method_6_code 33 = .ok (.dup, 1) := by decide +kernel
theorem own_d329 : decode method_6_code 34 = .ok (.iconst 1, 1) := by decide +kernel
theorem own_d330 : decode method_6_code 35 = .ok (.iload_n 2, 1) := by decide +kernel
theorem own_d331 : decode method_6_code 36 = .ok (.castore, 1) := by decide +kernel
theorem own_d332 : decode method_6_code 37 = .ok (.areturn, 1) := by decide +kernel
theorem own_d333 : decode method_6_code 38 = .ok (.iconst 3, 1) := by decide +kernel
theorem own_d334 : decode method_6_code 39 = .ok (.newarray .char, 2) := by decide +kernel
theorem own_d335 : decode method_6_code 41 = .ok (.dup, 1) := by decide +kernel
theorem own_d336 : decode method_6_code 42 = .ok (.iconst 0, 1) := by decide +kernel
theorem own_d337 : decode method_6_code 43 = .ok (.iload_n 1, 1) := by decide +kernel
theorem own_d338 : decode method_6_code 44 = .ok (.castore, 1) := by decide +kernel
theorem own_d339 : decode method_6_code 45 = .ok (.dup, 1) := by decide +kernel
theorem own_d340 : decode method_6_code 46 = .ok (.iconst 1, 1) := by decide +kernel
theorem own_d341 : decode method_6_code 47 = .ok (.iload_n 2, 1) := by decide +kernel
theorem own_d342 : decode method_6_code 48 = .ok (.castore, 1) := by decide +kernel
theorem own_d343 : decode method_6_code 49 = .ok (.dup, 1) := by decide +kernel
theorem own_d344 : decode method_6_code 50 = .ok (.iconst 2, 1) := by decide +kernel
theorem own_d345 : decode method_6_code 51 = .ok (.iload_n 3, 1) := by decide +kernel
theorem own_d346 : decode method_6_code 52 = .ok (.castore, 1) := by decide +kernel
theorem own_d347 : decode method_6_code 53 = .ok (.areturn, 1) := by decide +kernel
theorem own_d348 : decode method_7_code 0 = .ok (.iload_n 0, 1) := by decide +kernel
theorem own_d349 : decode method_7_code 1 = .ok (.iconst 5, 1) := by decide +kernel
theorem own_d350 : decode method_7_code 2 = .ok (.irem, 1) := by decide +kernel
theorem own_d351 : decode method_7_code 3 = .ok (.istore_n 1, 1) := by decide +kernel
theorem own_d352 : decode method_7_code 4 = .ok (.iload_n 1, 1) := by decide +kernel
theorem own_d353 : decode method_7_code 5 = .ok (.ifCond .ne 7, 3) := by decide +kernel
theorem own_d354 : decode method_7_code 8 = .ok (.getstatic 52, 3) := by decide +kernel
theorem own_d355 : decode method_7_code 11 = .ok (.areturn, 1) := by decide +kernel
theorem own_d356 : decode method_7_code 12 = .ok (.iload_n 1, 1) := by decide +kernel
theorem own_d357 : decode method_7_code 13 = .ok (.iconst 1, 1) := by decide +kernel
theorem own_d358 : decode method_7_code 14 = .ok (.if_icmp .ne 7, 3) := by decide +kernel
theorem own_d359 : decode method_7_code 17 = .ok (.getstatic 58, 3) := by decide +kernel
theorem own_d360 : decode method_7_code 20 = .ok (.areturn, 1) := by decide +kernel
theorem own_d361 : decode method_7_code 21 = .ok (.iload_n 1, 1) := by decide +kernel
theorem own_d362 : decode method_7_code 22 = .ok (.iconst 2, 1) := by decide +kernel
theorem own_d363 : decode method_7_code 23 = .ok (.if_icmp .ne 7, 3) := by decide +kernel
theorem own_d364 : decode method_7_code 26 = .ok (.getstatic 61, 3) := by decide +kernel
theorem own_d365 : decode method_7_code 29 = .ok (.areturn, 1) := by decide +kernel
theorem own_d366 : decode method_7_code 30 = .ok (.iload_n 1, 1) := by decide +kernel
theorem own_d367 : decode method_7_code 31 = .ok (.iconst 3, 1) := by decide +kernel
theorem own_d368 : decode method_7_code 32 = .ok (.if_icmp .ne 7, 3) := by decide +kernel
theorem own_d369 : decode method_7_code 35 = .ok (.getstatic 64, 3) := by decide +kernel
theorem own_d370 : decode method_7_code 38 = .ok (.areturn, 1) := by decide +kernel
theorem own_d371 : decode method_7_code 39 = .ok (.getstatic 67, 3) := by decide +kernel
theorem own_d372 : decode method_7_code 42 = .ok (.areturn, 1) := by decide +kernel
theorem own_d373 : decode prog_18_method_1_code 0 = .ok (.aload_n 0, 1) := by decide +kernel
theorem own_d374 : decode prog_18_method_1_code 1 = .ok (.invokespecial 1, 3) := by decide +kernel
theorem own_d375 : decode prog_18_method_1_code 4 = .ok (.aload_n 0, 1) := by decide +kernel
theorem own_d376 : decode prog_18_method_1_code 5 = .ok (.aload_n 1, 1) := by decide +kernel
theorem own_d377 : decode prog_18_method_1_code 6 = .ok (.putfield 7, 3) := by decide +kernel
theorem own_d378 : decode prog_18_method_1_code 9 = .ok (.aload_n 0, 1) := by decide +kernel
theorem own_d379 : decode prog_18_method_1_code 10 = .ok (.aload_n 2, 1) := by decide +kernel
theorem own_d380 : decode prog_18_method_1_code 11 = .ok (.putfield 13, 3) := by decide +kernel
theorem own_d381 : decode prog_18_method_1_code 14 = .ok (.aload_n 0, 1) := by decide +kernel
theorem own_d382 : decode prog_18_method_1_code 15 = .ok (.aload_n 3, 1) := by decide +kernel
theorem own_d383 : decode prog_18_method_1_code 16 = .ok (.putfield 17, 3) := by decide +kernel
theorem own_d384 : decode prog_18_method_1_code 19 = .ok (.aload_n 0, 1) := by decide +kernel
theorem own_d385 : decode prog_18_method_1_code 20 = .ok (.iload 4, 2) := by decide +kernel
theorem own_d386 : decode prog_18_method_1_code 22 = .ok (.putfield 20, 3) := by decide +kernel
theorem own_d387 : decode prog_18_method_1_code 25 = .ok (.aload_n 0, 1) := by decide +kernel
theorem own_d388 : decode prog_18_method_1_code 26 = .ok (.iload 5, 2) := by decide +kernel
theorem own_d389 : decode prog_18_method_1_code 28 = .ok (.putfield 24, 3) := by decide +kernel
theorem own_d390 : decode prog_18_method_1_code 31 = .ok (.return_, 1) := by decide +kernel
theorem own_d391 : decode jdk_42_method_154_code 0 = .ok (.getstatic 38, 3) := by decide +kernel
theorem own_d392 : decode jdk_42_method_154_code 3 = .ok (.ifCond .eq 14, 3) := by decide +kernel
theorem own_d393 : decode jdk_42_method_154_code 6 = .ok (.aload_n 0, 1) := by decide +kernel
theorem own_d394 : decode jdk_42_method_154_code 7 = .ok (.getfield 15, 3) := by decide +kernel
theorem own_d395 : decode jdk_42_method_154_code 10 = .ok (.ifCond .ne 7, 3) := by decide +kernel
theorem own_d396 : decode jdk_42_method_154_code 13 = .ok (.iconst 1, 1) := by decide +kernel
theorem own_d397 : decode jdk_42_method_154_code 14 = .ok (.goto 4, 3) := by decide +kernel
theorem own_d398 : decode jdk_42_method_154_code 18 = .ok (.ireturn, 1) := by decide +kernel
theorem own_d399 : decode jdk_42_method_154_code 17 = .ok (.iconst 0, 1) := by decide +kernel
theorem own_d400 : decode jdk_41_method_12_code 0 = .ok (.iload_n 0, 1) := by decide +kernel
theorem own_d401 : decode jdk_41_method_12_code 1 = .ok (.ifCond .lt 13, 3) := by decide +kernel
theorem own_d402 : decode jdk_41_method_12_code 4 = .ok (.iload_n 0, 1) := by decide +kernel
theorem own_d403 : decode jdk_41_method_12_code 5 = .ok (.iload_n 1, 1) := by decide +kernel
theorem own_d404 : decode jdk_41_method_12_code 6 = .ok (.if_icmp .gt 8, 3) := by decide +kernel
theorem own_d405 : decode jdk_41_method_12_code 9 = .ok (.iload_n 1, 1) := by decide +kernel
theorem own_d406 : decode jdk_41_method_12_code 10 = .ok (.iload_n 2, 1) := by decide +kernel
theorem own_d407 : decode jdk_41_method_12_code 11 = .ok (.if_icmp .le 11, 3) := by decide +kernel
theorem own_d408 : decode jdk_41_method_12_code 22 = .ok (.iload_n 0, 1) := by decide +kernel
theorem own_d409 : decode jdk_41_method_12_code 23 = .ok (.ireturn, 1) := by decide +kernel
theorem own_d410 : decode jdk_31_method_18_code 0 = .ok (.iload_n 0, 1) := by decide +kernel
theorem own_d411 : decode jdk_31_method_18_code 1 = .ok (.iload_n 1, 1) := by decide +kernel
theorem own_d412 : decode jdk_31_method_18_code 2 = .ok (.iload_n 2, 1) := by decide +kernel
theorem own_d413 : decode jdk_31_method_18_code 3 = .ok (.aconst_null, 1) := by decide +kernel
theorem own_d414 : decode jdk_31_method_18_code 4 = .ok (.invokestatic 111, 3) := by decide +kernel
theorem own_d415 : decode jdk_31_method_18_code 7 = .ok (.ireturn, 1) := by decide +kernel
theorem own_d416 : decode jdk_52_method_11_code 0 = .ok (.getstatic 44, 3) := by decide +kernel
theorem own_d417 : decode jdk_52_method_11_code 3 = .ok (.ifCond .ne 16, 3) := by decide +kernel
theorem own_d418 : decode jdk_52_method_11_code 19 = .ok (.iload_n 2, 1) := by decide +kernel
theorem own_d419 : decode jdk_52_method_11_code 20 = .ok (.iload_n 1, 1) := by decide +kernel
theorem own_d420 : decode jdk_52_method_11_code 21 = .ok (.isub, 1) := by decide +kernel
theorem own_d421 : decode jdk_52_method_11_code 22 = .ok (.istore 4, 2) := by decide +kernel
theorem own_d422 : decode jdk_52_method_11_code 24 = .ok (.iload_n 1, 1) := by decide +kernel
theorem own_d423 : decode jdk_52_method_11_code 25 = .ok (.istore 5, 2) := by decide +kernel
theorem own_d424 : decode jdk_52_method_11_code 27 = .ok (.iload_n 3, 1) := by decide +kernel
theorem own_d425 : decode jdk_52_method_11_code 28 = .ok (.ifCond .eq 16, 3) := by decide +kernel
theorem own_d426 : decode jdk_52_method_11_code 44 = .ok (.iload 5, 2) := by decide +kernel
theorem own_d427 : decode jdk_52_method_11_code 46 = .ok (.iload_n 2, 1) := by decide +kernel
theorem own_d428 : decode jdk_52_method_11_code 47 = .ok (.iconst 1, 1) := by decide +kernel
theorem own_d429 : decode jdk_52_method_11_code 48 = .ok (.isub, 1) := by decide +kernel
theorem own_d430 : decode jdk_52_method_11_code 49 = .ok (.if_icmp .ge 39, 3) := by decide +kernel
theorem own_d431 : decode jdk_52_method_11_code 88 = .ok (.iload 4, 2) := by decide +kernel
theorem own_d432 : decode jdk_52_method_11_code 90 = .ok (.ireturn, 1) := by decide +kernel
theorem own_d433 : decode jdk_52_method_12_code 0 = .ok (.aload_n 0, 1) := by decide +kernel
theorem own_d434 : decode jdk_52_method_12_code 1 = .ok (.iload_n 1, 1) := by decide +kernel
theorem own_d435 : decode jdk_52_method_12_code 2 = .ok (.iload_n 2, 1) := by decide +kernel
theorem own_d436 : decode jdk_52_method_12_code 3 = .ok (.iconst 0, 1) := by decide +kernel
theorem own_d437 : decode jdk_52_method_12_code 4 = .ok (.invokestatic 100, 3) := by decide +kernel
theorem own_d438 : decode jdk_52_method_12_code 7 = .ok (.ireturn, 1) := by decide +kernel
theorem own_d439 : decode jdk_42_method_59_code 0 = .ok (.iload_n 1, 1) := by decide +kernel
theorem own_d440 : decode jdk_42_method_59_code 1 = .ok (.iload_n 2, 1) := by decide +kernel
theorem own_d441 : decode jdk_42_method_59_code 2 = .ok (.aload_n 0, 1) := by decide +kernel
theorem own_d442 : decode jdk_42_method_59_code 3 = .ok (.invokevirtual 505, 3) := by decide +kernel
theorem own_d443 : decode jdk_42_method_59_code 6 = .ok (.invokestatic 511, 3) := by decide +kernel
theorem own_d444 : decode jdk_42_method_59_code 9 = .ok (.pop, 1) := by decide +kernel
theorem own_d445 : decode jdk_42_method_59_code 10 = .ok (.aload_n 0, 1) := by decide +kernel
theorem own_d446 : decode jdk_42_method_59_code 11 = .ok (.invokevirtual 492, 3) := by decide +kernel
theorem own_d447 : decode jdk_42_method_59_code 14 = .ok (.ifCond .eq 7, 3) := by decide +kernel
theorem own_d448 : decode jdk_42_method_59_code 17 = .ok (.iload_n 2, 1) := by decide +kernel
theorem own_d449 : decode jdk_42_method_59_code 18 = .ok (.iload_n 1, 1) := by decide +kernel
theorem own_d450 : decode jdk_42_method_59_code 19 = .ok (.isub, 1) := by decide +kernel
theorem own_d451 : decode jdk_42_method_59_code 20 = .ok (.ireturn, 1) := by decide +kernel
theorem own_d452 : decode jdk_42_method_59_code 21 = .ok (.aload_n 0, 1) := by decide +kernel
theorem own_d453 : decode jdk_42_method_59_code 22 = .ok (.getfield 9, 3) := by decide +kernel
theorem own_d454 : decode jdk_42_method_59_code 25 = .ok (.iload_n 1, 1) := by decide +kernel
theorem own_d455 : decode jdk_42_method_59_code 26 = .ok (.iload_n 2, 1) := by decide +kernel
theorem own_d456 : decode jdk_42_method_59_code 27 = .ok (.invokestatic 514, 3) := by decide +kernel
theorem own_d457 : decode jdk_42_method_59_code 30 = .ok (.ireturn, 1) := by decide +kernel
theorem own_d458 : decode prog_18_method_8_code 0 = .ok (.aload_n 0, 1) := by decide +kernel
theorem own_d459 : decode prog_18_method_8_code 1 = .ok (.getfield 20, 3) := by decide +kernel
theorem own_d460 : decode prog_18_method_8_code 4 = .ok (.aload_n 1, 1) := by decide +kernel
theorem own_d461 : decode prog_18_method_8_code 5 = .ok (.getfield 20, 3) := by decide +kernel
theorem own_d462 : decode prog_18_method_8_code 8 = .ok (.if_icmp .ne 34, 3) := by decide +kernel
theorem own_d463 : decode prog_18_method_8_code 42 = .ok (.iconst 0, 1) := by decide +kernel
theorem own_d464 : decode prog_18_method_8_code 43 = .ok (.ireturn, 1) := by decide +kernel
theorem own_d465 : decode prog_18_method_8_code 11 = .ok (.aload_n 0, 1) := by decide +kernel
theorem own_d466 : decode prog_18_method_8_code 12 = .ok (.getfield 24, 3) := by decide +kernel
theorem own_d467 : decode prog_18_method_8_code 15 = .ok (.aload_n 1, 1) := by decide +kernel
theorem own_d468 : decode prog_18_method_8_code 16 = .ok (.getfield 24, 3) := by decide +kernel
theorem own_d469 : decode prog_18_method_8_code 19 = .ok (.aload_n 1, 1) := by decide +kernel
theorem own_d470 : decode prog_18_method_8_code 20 = .ok (.getfield 13, 3) := by decide +kernel
theorem own_d471 : decode prog_18_method_8_code 23 = .ok (.iconst 0, 1) := by decide +kernel
theorem own_d472 : decode prog_18_method_8_code 24 = .ok (.aload_n 1, 1) := by decide +kernel
theorem own_d473 : decode prog_18_method_8_code 25 = .ok (.getfield 13, 3) := by decide +kernel
theorem own_d474 : decode prog_18_method_8_code 28 = .ok (.invokevirtual 41, 3) := by decide +kernel
theorem own_d475 : decode prog_18_method_8_code 31 = .ok (.invokevirtual 45, 3) := by decide +kernel
theorem own_d476 : decode prog_18_method_8_code 34 = .ok (.iadd, 1) := by decide +kernel
theorem own_d477 : decode prog_18_method_8_code 35 = .ok (.if_icmp .ne 7, 3) := by decide +kernel
theorem own_d478 : decode prog_18_method_8_code 38 = .ok (.iconst 1, 1) := by decide +kernel
theorem own_d479 : decode prog_18_method_8_code 39 = .ok (.goto 4, 3) := by decide +kernel
theorem own_d480 : decode jdk_52_method_11_code 52 = .ok (.aload_n 0, 1) := by decide +kernel
theorem own_d481 : decode jdk_52_method_11_code 53 = .ok (.iload 5, 2) := by decide +kernel
theorem own_d482 : decode jdk_52_method_11_code 55 = .ok (.iinc 5 1, 3) := by decide +kernel
theorem own_d483 : decode jdk_52_method_11_code 58 = .ok (.invokestatic 71, 3) := by decide +kernel
theorem own_d484 : decode jdk_52_method_11_code 61 = .ok (.invokestatic 75, 3) := by decide +kernel
theorem own_d485 : decode jdk_52_method_11_code 64 = .ok (.ifCond .eq (-20), 3) := by decide +kernel
theorem own_d486 : decode jdk_52_method_11_code 67 = .ok (.aload_n 0, 1) := by decide +kernel
theorem own_d487 : decode jdk_52_method_11_code 68 = .ok (.iload 5, 2) := by decide +kernel
theorem own_d488 : decode jdk_52_method_11_code 70 = .ok (.invokestatic 71, 3) := by decide +kernel
theorem own_d489 : decode jdk_52_method_11_code 73 = .ok (.invokestatic 81, 3) := by decide +kernel
theorem own_d490 : decode jdk_52_method_11_code 76 = .ok (.ifCond .eq (-32), 3) := by decide +kernel
theorem own_d491 : decode jdk_52_method_11_code 79 = .ok (.iinc 4 (-1), 3) := by decide +kernel
theorem own_d492 : decode jdk_52_method_11_code 82 = .ok (.iinc 5 1, 3) := by decide +kernel
theorem own_d493 : decode jdk_52_method_11_code 85 = .ok (.goto (-41), 3) := by decide +kernel
theorem own_pd0 : parseMethodDescriptor "([CIILjava/lang/Void;)V" = some ⟨[(.array .char), .int, .int, (.object "java/lang/Void")], none⟩ := by decide +kernel
theorem own_pd1 : parseMethodDescriptor "(I)I" = some ⟨[.int], some .int⟩ := by decide +kernel
theorem own_pd2 : parseMethodDescriptor "(I)[B" = some ⟨[.int], some (.array .byte)⟩ := by decide +kernel
theorem own_pd3 : parseMethodDescriptor "([BII)V" = some ⟨[(.array .byte), .int, .int], none⟩ := by decide +kernel
theorem own_pd4 : parseMethodDescriptor "([CI[BII)I" = some ⟨[(.array .char), .int, (.array .byte), .int, .int], some .int⟩ := by decide +kernel
theorem own_pd5 : parseMethodDescriptor "([CII)[B" = some ⟨[(.array .char), .int, .int], some (.array .byte)⟩ := by decide +kernel
theorem own_pd6 : parseMethodDescriptor "([BI)C" = some ⟨[(.array .byte), .int], some .char⟩ := by decide +kernel
theorem own_pd7 : parseMethodDescriptor "([BI)B" = some ⟨[(.array .byte), .int], some .byte⟩ := by decide +kernel
theorem own_pd8 : parseMethodDescriptor "()B" = some ⟨[], some .byte⟩ := by decide +kernel
theorem own_pd9 : parseMethodDescriptor "(C)Z" = some ⟨[.char], some .boolean⟩ := by decide +kernel
theorem own_pd10 : parseMethodDescriptor "(C)[B" = some ⟨[.char], some (.array .byte)⟩ := by decide +kernel
theorem own_pd11 : parseMethodDescriptor "([BB)V" = some ⟨[(.array .byte), .byte], none⟩ := by decide +kernel
theorem own_pd12 : parseMethodDescriptor "(IIILjava/util/function/BiFunction;)I" = some ⟨[.int, .int, .int, (.object "java/util/function/BiFunction")], some .int⟩ := by decide +kernel
theorem own_pd13 : parseMethodDescriptor "([BIIZ)I" = some ⟨[(.array .byte), .int, .int, .boolean], some .int⟩ := by decide +kernel
theorem own_pd14 : parseMethodDescriptor "()I" = some ⟨[], some .int⟩ := by decide +kernel
theorem own_pd15 : parseMethodDescriptor "(III)I" = some ⟨[.int, .int, .int], some .int⟩ := by decide +kernel
theorem own_pd16 : parseMethodDescriptor "()Z" = some ⟨[], some .boolean⟩ := by decide +kernel
theorem own_pd17 : parseMethodDescriptor "([BII)I" = some ⟨[(.array .byte), .int, .int], some .int⟩ := by decide +kernel
theorem own_pd18 : parseMethodDescriptor "(II)I" = some ⟨[.int, .int], some .int⟩ := by decide +kernel
theorem own_pd19 : parseMethodDescriptor "(II)C" = some ⟨[.int, .int], some .char⟩ := by decide +kernel
theorem own_pd20 : parseMethodDescriptor "(ICCC)[C" = some ⟨[.int, .char, .char, .char], some (.array .char)⟩ := by decide +kernel
theorem own_pd21 : parseMethodDescriptor "([C)V" = some ⟨[(.array .char)], none⟩ := by decide +kernel
theorem own_pd22 : parseMethodDescriptor "(C)Ljava/lang/String;" = some ⟨[.char], some (.object "java/lang/String")⟩ := by decide +kernel
theorem own_pd23 : parseMethodDescriptor "(I)Lcom/example/ianus/ianus/Token$Kind;" = some ⟨[.int], some (.object "com/example/ianus/ianus/Token$Kind")⟩ := by decide +kernel
theorem own_pd24 : parseMethodDescriptor "(Lcom/example/ianus/ianus/Token$Kind;Ljava/lang/String;Ljava/lang/String;II)V" = some ⟨[(.object "com/example/ianus/ianus/Token$Kind"), (.object "java/lang/String"), (.object "java/lang/String"), .int, .int], none⟩ := by decide +kernel
theorem own_pd25 : parseMethodDescriptor "(Lcom/example/ianus/ianus/Token;)Z" = some ⟨[(.object "com/example/ianus/ianus/Token")], some .boolean⟩ := by decide +kernel
theorem own_pn0 : plainName "java/lang/String" = true := by first | (simp [plainName, overriddenIn]; done) | decide +kernel
theorem own_pn1 : plainName "java/lang/StringUTF16" = true := by first | (simp [plainName, overriddenIn]; done) | decide +kernel
theorem own_pn2 : plainName "java/lang/StringLatin1" = true := by first | (simp [plainName, overriddenIn]; done) | decide +kernel
theorem own_pn3 : plainName "com/example/ianus/ianus/TokenFollowsPinLaw" = true := by first | (simp [plainName, overriddenIn]; done) | decide +kernel
theorem own_pn4 : plainName "java/lang/Character" = true := by first | (simp [plainName, overriddenIn]; done) | decide +kernel
theorem own_pn5 : plainName "com/example/ianus/ianus/Token" = true := by first | (simp [plainName, overriddenIn]; done) | decide +kernel
theorem own_pn6 : plainName "jdk/internal/util/Preconditions" = true := by first | (simp [plainName, overriddenIn]; done) | decide +kernel
theorem own_pn7 : plainName "java/util/Objects" = true := by first | (simp [plainName, overriddenIn]; done) | decide +kernel
theorem own_ef_I4_0 (m : MethodId) (x0 : Addr) (x1 : Addr) (x2 : Int32) (x3 : Int32) : entryFrame m #[(.ref x0), (.ref x1), (.int x2), (.int x3), .null] 6 = mkF m 0 #[.val (.ref x0), .val (.ref x1), .val (.int x2), .val (.int x3), .val .null, .unset] [] := by first | (simp [entryFrame, mkF, argsToLocals, Value.category]; done) | rfl
theorem own_ef_I1_0 (m : MethodId) (x0 : Addr) (x1 : Addr) : entryFrame m #[(.ref x0), (.ref x1)] 2 = mkF m 0 #[.val (.ref x0), .val (.ref x1)] [] := by first | (simp [entryFrame, mkF, argsToLocals, Value.category]; done) | rfl
theorem own_ef_C5_1 (m : MethodId) (x0 : Addr) (x1 : Int32) (x2 : Addr) (x3 : Int32) (x4 : Int32) : entryFrame m #[(.ref x0), (.int x1), (.ref x2), (.int x3), (.int x4)] 7 = mkF m 0 #[.val (.ref x0), .val (.int x1), .val (.ref x2), .val (.int x3), .val (.int x4), .unset, .unset] [] := by first | (simp [entryFrame, mkF, argsToLocals, Value.category]; done) | rfl
theorem own_ef_NL_1 (m : MethodId) (x0 : Int32) : entryFrame m #[(.int x0)] 1 = mkF m 0 #[.val (.int x0)] [] := by first | (simp [entryFrame, mkF, argsToLocals, Value.category]; done) | rfl
theorem own_ef_NF_1 (m : MethodId) (x0 : Int32) : entryFrame m #[(.int x0)] 1 = mkF m 0 #[.val (.int x0)] [] := by first | (simp [entryFrame, mkF, argsToLocals, Value.category]; done) | rfl
theorem own_ef_PC_1_0 (m : MethodId) (x0 : Addr) (x1 : Int32) (x2 : Int32) : entryFrame m #[(.ref x0), (.int x1), (.int x2)] 3 = mkF m 0 #[.val (.ref x0), .val (.int x1), .val (.int x2)] [] := by first | (simp [entryFrame, mkF, argsToLocals, Value.category]; done) | rfl
theorem own_ef_TS_1 (m : MethodId) (x0 : Addr) (x1 : Int32) (x2 : Int32) : entryFrame m #[(.ref x0), (.int x1), (.int x2)] 5 = mkF m 0 #[.val (.ref x0), .val (.int x1), .val (.int x2), .unset, .unset] [] := by first | (simp [entryFrame, mkF, argsToLocals, Value.category]; done) | rfl
theorem own_ef_GC_1_0 (m : MethodId) (x0 : Addr) (x1 : Int32) : entryFrame m #[(.ref x0), (.int x1)] 2 = mkF m 0 #[.val (.ref x0), .val (.int x1)] [] := by first | (simp [entryFrame, mkF, argsToLocals, Value.category]; done) | rfl
theorem own_ef_C3_1 (m : MethodId) (x0 : Addr) (x1 : Int32) (x2 : Int32) : entryFrame m #[(.ref x0), (.int x1), (.int x2)] 6 = mkF m 0 #[.val (.ref x0), .val (.int x1), .val (.int x2), .unset, .unset, .unset] [] := by first | (simp [entryFrame, mkF, argsToLocals, Value.category]; done) | rfl
theorem own_ef_CF_1_0 (m : MethodId) (x0 : Addr) (x1 : Int32) : entryFrame m #[(.ref x0), (.int x1)] 2 = mkF m 0 #[.val (.ref x0), .val (.int x1)] [] := by first | (simp [entryFrame, mkF, argsToLocals, Value.category]; done) | rfl
theorem own_ef_CF_1_1 (m : MethodId) (x0 : Addr) (x1 : Int32) : entryFrame m #[(.ref x0), (.int x1)] 2 = mkF m 0 #[.val (.ref x0), .val (.int x1)] [] := by first | (simp [entryFrame, mkF, argsToLocals, Value.category]; done) | rfl
theorem own_ef_I4_1 (m : MethodId) (x0 : Addr) (x1 : Addr) (x2 : Int32) (x3 : Int32) : entryFrame m #[(.ref x0), (.ref x1), (.int x2), (.int x3), .null] 6 = mkF m 0 #[.val (.ref x0), .val (.ref x1), .val (.int x2), .val (.int x3), .val .null, .unset] [] := by first | (simp [entryFrame, mkF, argsToLocals, Value.category]; done) | rfl
theorem own_ef_I1_1 (m : MethodId) (x0 : Addr) (x1 : Addr) : entryFrame m #[(.ref x0), (.ref x1)] 2 = mkF m 0 #[.val (.ref x0), .val (.ref x1)] [] := by first | (simp [entryFrame, mkF, argsToLocals, Value.category]; done) | rfl
theorem own_ef_C5_2 (m : MethodId) (x0 : Addr) (x1 : Int32) (x2 : Addr) (x3 : Int32) (x4 : Int32) : entryFrame m #[(.ref x0), (.int x1), (.ref x2), (.int x3), (.int x4)] 7 = mkF m 0 #[.val (.ref x0), .val (.int x1), .val (.ref x2), .val (.int x3), .val (.int x4), .unset, .unset] [] := by first | (simp [entryFrame, mkF, argsToLocals, Value.category]; done) | rfl
theorem own_ef_NL_2 (m : MethodId) (x0 : Int32) : entryFrame m #[(.int x0)] 1 = mkF m 0 #[.val (.int x0)] [] := by first | (simp [entryFrame, mkF, argsToLocals, Value.category]; done) | rfl
theorem own_ef_NF_2 (m : MethodId) (x0 : Int32) : entryFrame m #[(.int x0)] 1 = mkF m 0 #[.val (.int x0)] [] := by first | (simp [entryFrame, mkF, argsToLocals, Value.category]; done) | rfl
theorem own_ef_PC_2_0 (m : MethodId) (x0 : Addr) (x1 : Int32) (x2 : Int32) : entryFrame m #[(.ref x0), (.int x1), (.int x2)] 3 = mkF m 0 #[.val (.ref x0), .val (.int x1), .val (.int x2)] [] := by first | (simp [entryFrame, mkF, argsToLocals, Value.category]; done) | rfl
theorem own_ef_PC_2_1 (m : MethodId) (x0 : Addr) (x1 : Int32) (x2 : Int32) : entryFrame m #[(.ref x0), (.int x1), (.int x2)] 3 = mkF m 0 #[.val (.ref x0), .val (.int x1), .val (.int x2)] [] := by first | (simp [entryFrame, mkF, argsToLocals, Value.category]; done) | rfl
theorem own_ef_TS_2 (m : MethodId) (x0 : Addr) (x1 : Int32) (x2 : Int32) : entryFrame m #[(.ref x0), (.int x1), (.int x2)] 5 = mkF m 0 #[.val (.ref x0), .val (.int x1), .val (.int x2), .unset, .unset] [] := by first | (simp [entryFrame, mkF, argsToLocals, Value.category]; done) | rfl
theorem own_ef_GC_2_0 (m : MethodId) (x0 : Addr) (x1 : Int32) : entryFrame m #[(.ref x0), (.int x1)] 2 = mkF m 0 #[.val (.ref x0), .val (.int x1)] [] := by first | (simp [entryFrame, mkF, argsToLocals, Value.category]; done) | rfl
theorem own_ef_GC_2_1 (m : MethodId) (x0 : Addr) (x1 : Int32) : entryFrame m #[(.ref x0), (.int x1)] 2 = mkF m 0 #[.val (.ref x0), .val (.int x1)] [] := by first | (simp [entryFrame, mkF, argsToLocals, Value.category]; done) | rfl
theorem own_ef_C3_2 (m : MethodId) (x0 : Addr) (x1 : Int32) (x2 : Int32) : entryFrame m #[(.ref x0), (.int x1), (.int x2)] 6 = mkF m 0 #[.val (.ref x0), .val (.int x1), .val (.int x2), .unset, .unset, .unset] [] := by first | (simp [entryFrame, mkF, argsToLocals, Value.category]; done) | rfl
theorem own_ef_CF_2_0 (m : MethodId) (x0 : Addr) (x1 : Int32) : entryFrame m #[(.ref x0), (.int x1)] 2 = mkF m 0 #[.val (.ref x0), .val (.int x1)] [] := by first | (simp [entryFrame, mkF, argsToLocals, Value.category]; done) | rfl
theorem own_ef_CF_2_1 (m : MethodId) (x0 : Addr) (x1 : Int32) : entryFrame m #[(.ref x0), (.int x1)] 2 = mkF m 0 #[.val (.ref x0), .val (.int x1)] [] := by first | (simp [entryFrame, mkF, argsToLocals, Value.category]; done) | rfl
theorem own_ef_I4_2 (m : MethodId) (x0 : Addr) (x1 : Addr) (x2 : Int32) (x3 : Int32) : entryFrame m #[(.ref x0), (.ref x1), (.int x2), (.int x3), .null] 6 = mkF m 0 #[.val (.ref x0), .val (.ref x1), .val (.int x2), .val (.int x3), .val .null, .unset] [] := by first | (simp [entryFrame, mkF, argsToLocals, Value.category]; done) | rfl
theorem own_ef_I1_2 (m : MethodId) (x0 : Addr) (x1 : Addr) : entryFrame m #[(.ref x0), (.ref x1)] 2 = mkF m 0 #[.val (.ref x0), .val (.ref x1)] [] := by first | (simp [entryFrame, mkF, argsToLocals, Value.category]; done) | rfl
theorem own_ef_C5_3 (m : MethodId) (x0 : Addr) (x1 : Int32) (x2 : Addr) (x3 : Int32) (x4 : Int32) : entryFrame m #[(.ref x0), (.int x1), (.ref x2), (.int x3), (.int x4)] 7 = mkF m 0 #[.val (.ref x0), .val (.int x1), .val (.ref x2), .val (.int x3), .val (.int x4), .unset, .unset] [] := by first | (simp [entryFrame, mkF, argsToLocals, Value.category]; done) | rfl
theorem own_ef_NL_3 (m : MethodId) (x0 : Int32) : entryFrame m #[(.int x0)] 1 = mkF m 0 #[.val (.int x0)] [] := by first | (simp [entryFrame, mkF, argsToLocals, Value.category]; done) | rfl
theorem own_ef_NF_3 (m : MethodId) (x0 : Int32) : entryFrame m #[(.int x0)] 1 = mkF m 0 #[.val (.int x0)] [] := by first | (simp [entryFrame, mkF, argsToLocals, Value.category]; done) | rfl
theorem own_ef_PC_3_0 (m : MethodId) (x0 : Addr) (x1 : Int32) (x2 : Int32) : entryFrame m #[(.ref x0), (.int x1), (.int x2)] 3 = mkF m 0 #[.val (.ref x0), .val (.int x1), .val (.int x2)] [] := by first | (simp [entryFrame, mkF, argsToLocals, Value.category]; done) | rfl
theorem own_ef_PC_3_1 (m : MethodId) (x0 : Addr) (x1 : Int32) (x2 : Int32) : entryFrame m #[(.ref x0), (.int x1), (.int x2)] 3 = mkF m 0 #[.val (.ref x0), .val (.int x1), .val (.int x2)] [] := by first | (simp [entryFrame, mkF, argsToLocals, Value.category]; done) | rfl
theorem own_ef_PC_3_2 (m : MethodId) (x0 : Addr) (x1 : Int32) (x2 : Int32) : entryFrame m #[(.ref x0), (.int x1), (.int x2)] 3 = mkF m 0 #[.val (.ref x0), .val (.int x1), .val (.int x2)] [] := by first | (simp [entryFrame, mkF, argsToLocals, Value.category]; done) | rfl
theorem own_ef_TS_3 (m : MethodId) (x0 : Addr) (x1 : Int32) (x2 : Int32) : entryFrame m #[(.ref x0), (.int x1), (.int x2)] 5 = mkF m 0 #[.val (.ref x0), .val (.int x1), .val (.int x2), .unset, .unset] [] := by first | (simp [entryFrame, mkF, argsToLocals, Value.category]; done) | rfl
theorem own_ef_GC_3_0 (m : MethodId) (x0 : Addr) (x1 : Int32) : entryFrame m #[(.ref x0), (.int x1)] 2 = mkF m 0 #[.val (.ref x0), .val (.int x1)] [] := by first | (simp [entryFrame, mkF, argsToLocals, Value.category]; done) | rfl
theorem own_ef_GC_3_1 (m : MethodId) (x0 : Addr) (x1 : Int32) : entryFrame m #[(.ref x0), (.int x1)] 2 = mkF m 0 #[.val (.ref x0), .val (.int x1)] [] := by first | (simp [entryFrame, mkF, argsToLocals, Value.category]; done) | rfl
theorem own_ef_GC_3_2 (m : MethodId) (x0 : Addr) (x1 : Int32) : entryFrame m #[(.ref x0), (.int x1)] 2 = mkF m 0 #[.val (.ref x0), .val (.int x1)] [] := by first | (simp [entryFrame, mkF, argsToLocals, Value.category]; done) | rfl
theorem own_ef_C3_3 (m : MethodId) (x0 : Addr) (x1 : Int32) (x2 : Int32) : entryFrame m #[(.ref x0), (.int x1), (.int x2)] 6 = mkF m 0 #[.val (.ref x0), .val (.int x1), .val (.int x2), .unset, .unset, .unset] [] := by first | (simp [entryFrame, mkF, argsToLocals, Value.category]; done) | rfl
theorem own_ef_CF_3_0 (m : MethodId) (x0 : Addr) (x1 : Int32) : entryFrame m #[(.ref x0), (.int x1)] 2 = mkF m 0 #[.val (.ref x0), .val (.int x1)] [] := by first | (simp [entryFrame, mkF, argsToLocals, Value.category]; done) | rfl
theorem own_ef_CF_3_1 (m : MethodId) (x0 : Addr) (x1 : Int32) : entryFrame m #[(.ref x0), (.int x1)] 2 = mkF m 0 #[.val (.ref x0), .val (.int x1)] [] := by first | (simp [entryFrame, mkF, argsToLocals, Value.category]; done) | rfl
theorem own_ef_I4_3 (m : MethodId) (x0 : Addr) (x1 : Addr) (x2 : Int32) (x3 : Int32) : entryFrame m #[(.ref x0), (.ref x1), (.int x2), (.int x3), .null] 6 = mkF m 0 #[.val (.ref x0), .val (.ref x1), .val (.int x2), .val (.int x3), .val .null, .unset] [] := by first | (simp [entryFrame, mkF, argsToLocals, Value.category]; done) | rfl
theorem own_ef_I1_3 (m : MethodId) (x0 : Addr) (x1 : Addr) : entryFrame m #[(.ref x0), (.ref x1)] 2 = mkF m 0 #[.val (.ref x0), .val (.ref x1)] [] := by first | (simp [entryFrame, mkF, argsToLocals, Value.category]; done) | rfl
theorem own_ef_CD_0 (m : MethodId) (x0 : Addr) : entryFrame m #[(.ref x0)] 1 = mkF m 0 #[.val (.ref x0)] [] := by first | (simp [entryFrame, mkF, argsToLocals, Value.category]; done) | rfl
theorem own_ef_CD_1 (m : MethodId) (x0 : Addr) : entryFrame m #[(.ref x0)] 1 = mkF m 0 #[.val (.ref x0)] [] := by first | (simp [entryFrame, mkF, argsToLocals, Value.category]; done) | rfl
theorem own_ef_LN_0 (m : MethodId) (x0 : Addr) : entryFrame m #[(.ref x0)] 1 = mkF m 0 #[.val (.ref x0)] [] := by first | (simp [entryFrame, mkF, argsToLocals, Value.category]; done) | rfl
theorem own_ef_LN_1 (m : MethodId) (x0 : Addr) : entryFrame m #[(.ref x0)] 1 = mkF m 0 #[.val (.ref x0)] [] := by first | (simp [entryFrame, mkF, argsToLocals, Value.category]; done) | rfl
theorem own_ef_LN_2 (m : MethodId) (x0 : Addr) : entryFrame m #[(.ref x0)] 1 = mkF m 0 #[.val (.ref x0)] [] := by first | (simp [entryFrame, mkF, argsToLocals, Value.category]; done) | rfl
theorem own_ef_LN_3 (m : MethodId) (x0 : Addr) : entryFrame m #[(.ref x0)] 1 = mkF m 0 #[.val (.ref x0)] [] := by first | (simp [entryFrame, mkF, argsToLocals, Value.category]; done) | rfl
theorem own_ef_CE1 (m : MethodId) (x0 : Int32) : entryFrame m #[(.int x0)] 1 = mkF m 0 #[.val (.int x0)] [] := by first | (simp [entryFrame, mkF, argsToLocals, Value.category]; done) | rfl
theorem own_ef_TB1 (m : MethodId) (x0 : Int32) : entryFrame m #[(.int x0)] 1 = mkF m 0 #[.val (.int x0)] [] := by first | (simp [entryFrame, mkF, argsToLocals, Value.category]; done) | rfl
theorem own_ef_IB0 (m : MethodId) (x0 : Addr) (x1 : Addr) (x2 : Int32) : entryFrame m #[(.ref x0), (.ref x1), (.int x2)] 3 = mkF m 0 #[.val (.ref x0), .val (.ref x1), .val (.int x2)] [] := by first | (simp [entryFrame, mkF, argsToLocals, Value.category]; done) | rfl
theorem own_ef_VO (m : MethodId) (x0 : Int32) : entryFrame m #[(.int x0)] 1 = mkF m 0 #[.val (.int x0)] [] := by first | (simp [entryFrame, mkF, argsToLocals, Value.category]; done) | rfl
theorem own_ef_IH (m : MethodId) (x0 : Int32) : entryFrame m #[(.int x0)] 1 = mkF m 0 #[.val (.int x0)] [] := by first | (simp [entryFrame, mkF, argsToLocals, Value.category]; done) | rfl
theorem own_ef_IL (m : MethodId) (x0 : Int32) : entryFrame m #[(.int x0)] 1 = mkF m 0 #[.val (.int x0)] [] := by first | (simp [entryFrame, mkF, argsToLocals, Value.category]; done) | rfl
theorem own_ef_HS (m : MethodId) (x0 : Int32) : entryFrame m #[(.int x0)] 1 = mkF m 0 #[.val (.int x0)] [] := by first | (simp [entryFrame, mkF, argsToLocals, Value.category]; done) | rfl
theorem own_ef_LS (m : MethodId) (x0 : Int32) : entryFrame m #[(.int x0)] 1 = mkF m 0 #[.val (.int x0)] [] := by first | (simp [entryFrame, mkF, argsToLocals, Value.category]; done) | rfl
theorem own_ef_DR (m : MethodId) (x0 : Int32) (x1 : Int32) : entryFrame m #[(.int x0), (.int x1)] 2 = mkF m 0 #[.val (.int x0), .val (.int x1)] [] := by first | (simp [entryFrame, mkF, argsToLocals, Value.category]; done) | rfl
theorem own_ef_PK_0 (m : MethodId) (x0 : Int32) (x1 : Int32) (x2 : Int32) (x3 : Int32) : entryFrame m #[(.int x0), (.int x1), (.int x2), (.int x3)] 4 = mkF m 0 #[.val (.int x0), .val (.int x1), .val (.int x2), .val (.int x3)] [] := by first | (simp [entryFrame, mkF, argsToLocals, Value.category]; done) | rfl
theorem own_ef_PK_1 (m : MethodId) (x0 : Int32) (x1 : Int32) (x2 : Int32) (x3 : Int32) : entryFrame m #[(.int x0), (.int x1), (.int x2), (.int x3)] 4 = mkF m 0 #[.val (.int x0), .val (.int x1), .val (.int x2), .val (.int x3)] [] := by first | (simp [entryFrame, mkF, argsToLocals, Value.category]; done) | rfl
theorem own_ef_PK_2 (m : MethodId) (x0 : Int32) (x1 : Int32) (x2 : Int32) (x3 : Int32) : entryFrame m #[(.int x0), (.int x1), (.int x2), (.int x3)] 4 = mkF m 0 #[.val (.int x0), .val (.int x1), .val (.int x2), .val (.int x3)] [] := by first | (simp [entryFrame, mkF, argsToLocals, Value.category]; done) | rfl
theorem own_ef_PK_3 (m : MethodId) (x0 : Int32) (x1 : Int32) (x2 : Int32) (x3 : Int32) : entryFrame m #[(.int x0), (.int x1), (.int x2), (.int x3)] 4 = mkF m 0 #[.val (.int x0), .val (.int x1), .val (.int x2), .val (.int x3)] [] := by first | (simp [entryFrame, mkF, argsToLocals, Value.category]; done) | rfl
theorem own_ef_KO (m : MethodId) (x0 : Int32) : entryFrame m #[(.int x0)] 2 = mkF m 0 #[.val (.int x0), .unset] [] := by first | (simp [entryFrame, mkF, argsToLocals, Value.category]; done) | rfl
theorem own_ef_CT (m : MethodId) (x0 : Addr) (x1 : Addr) (x2 : Addr) (x3 : Addr) (x4 : Int32) (x5 : Int32) : entryFrame m #[(.ref x0), (.ref x1), (.ref x2), (.ref x3), (.int x4), (.int x5)] 6 = mkF m 0 #[.val (.ref x0), .val (.ref x1), .val (.ref x2), .val (.ref x3), .val (.int x4), .val (.int x5)] [] := by first | (simp [entryFrame, mkF, argsToLocals, Value.category]; done) | rfl
theorem own_ef_IS_0 (m : MethodId) (x0 : Addr) : entryFrame m #[(.ref x0)] 1 = mkF m 0 #[.val (.ref x0)] [] := by first | (simp [entryFrame, mkF, argsToLocals, Value.category]; done) | rfl
theorem own_ef_IS_1 (m : MethodId) (x0 : Addr) : entryFrame m #[(.ref x0)] 1 = mkF m 0 #[.val (.ref x0)] [] := by first | (simp [entryFrame, mkF, argsToLocals, Value.category]; done) | rfl
theorem own_ef_PC0_0 (m : MethodId) (x0 : Int32) (x1 : Int32) (x2 : Int32) : entryFrame m #[(.int x0), (.int x1), (.int x2), .null] 4 = mkF m 0 #[.val (.int x0), .val (.int x1), .val (.int x2), .val .null] [] := by first | (simp [entryFrame, mkF, argsToLocals, Value.category]; done) | rfl
theorem own_ef_OC_0 (m : MethodId) (x0 : Int32) (x1 : Int32) (x2 : Int32) : entryFrame m #[(.int x0), (.int x1), (.int x2)] 3 = mkF m 0 #[.val (.int x0), .val (.int x1), .val (.int x2)] [] := by first | (simp [entryFrame, mkF, argsToLocals, Value.category]; done) | rfl
theorem own_ef_CZ_0 (m : MethodId) (x0 : Addr) (x1 : Int32) (x2 : Int32) (x3 : Int32) : entryFrame m #[(.ref x0), (.int x1), (.int x2), (.int x3)] 6 = mkF m 0 #[.val (.ref x0), .val (.int x1), .val (.int x2), .val (.int x3), .unset, .unset] [] := by first | (simp [entryFrame, mkF, argsToLocals, Value.category]; done) | rfl
theorem own_ef_CU_0 (m : MethodId) (x0 : Addr) (x1 : Int32) (x2 : Int32) : entryFrame m #[(.ref x0), (.int x1), (.int x2)] 3 = mkF m 0 #[.val (.ref x0), .val (.int x1), .val (.int x2)] [] := by first | (simp [entryFrame, mkF, argsToLocals, Value.category]; done) | rfl
theorem own_ef_CP_0 (m : MethodId) (x0 : Addr) (x1 : Int32) (x2 : Int32) : entryFrame m #[(.ref x0), (.int x1), (.int x2)] 3 = mkF m 0 #[.val (.ref x0), .val (.int x1), .val (.int x2)] [] := by first | (simp [entryFrame, mkF, argsToLocals, Value.category]; done) | rfl
theorem own_ef_FO_0 (m : MethodId) (x0 : Addr) (x1 : Addr) : entryFrame m #[(.ref x0), (.ref x1)] 2 = mkF m 0 #[.val (.ref x0), .val (.ref x1)] [] := by first | (simp [entryFrame, mkF, argsToLocals, Value.category]; done) | rfl
theorem own_ef_PC0_1 (m : MethodId) (x0 : Int32) (x1 : Int32) (x2 : Int32) : entryFrame m #[(.int x0), (.int x1), (.int x2), .null] 4 = mkF m 0 #[.val (.int x0), .val (.int x1), .val (.int x2), .val .null] [] := by first | (simp [entryFrame, mkF, argsToLocals, Value.category]; done) | rfl
theorem own_ef_OC_1 (m : MethodId) (x0 : Int32) (x1 : Int32) (x2 : Int32) : entryFrame m #[(.int x0), (.int x1), (.int x2)] 3 = mkF m 0 #[.val (.int x0), .val (.int x1), .val (.int x2)] [] := by first | (simp [entryFrame, mkF, argsToLocals, Value.category]; done) | rfl
theorem own_ef_CZ_1 (m : MethodId) (x0 : Addr) (x1 : Int32) (x2 : Int32) (x3 : Int32) : entryFrame m #[(.ref x0), (.int x1), (.int x2), (.int x3)] 6 = mkF m 0 #[.val (.ref x0), .val (.int x1), .val (.int x2), .val (.int x3), .unset, .unset] [] := by first | (simp [entryFrame, mkF, argsToLocals, Value.category]; done) | rfl
theorem own_ef_CU_1 (m : MethodId) (x0 : Addr) (x1 : Int32) (x2 : Int32) : entryFrame m #[(.ref x0), (.int x1), (.int x2)] 3 = mkF m 0 #[.val (.ref x0), .val (.int x1), .val (.int x2)] [] := by first | (simp [entryFrame, mkF, argsToLocals, Value.category]; done) | rfl
theorem own_ef_CP_1 (m : MethodId) (x0 : Addr) (x1 : Int32) (x2 : Int32) : entryFrame m #[(.ref x0), (.int x1), (.int x2)] 3 = mkF m 0 #[.val (.ref x0), .val (.int x1), .val (.int x2)] [] := by first | (simp [entryFrame, mkF, argsToLocals, Value.category]; done) | rfl
theorem own_ef_FO_1 (m : MethodId) (x0 : Addr) (x1 : Addr) : entryFrame m #[(.ref x0), (.ref x1)] 2 = mkF m 0 #[.val (.ref x0), .val (.ref x1)] [] := by first | (simp [entryFrame, mkF, argsToLocals, Value.category]; done) | rfl
theorem own_ef_PC0_2 (m : MethodId) (x0 : Int32) (x1 : Int32) (x2 : Int32) : entryFrame m #[(.int x0), (.int x1), (.int x2), .null] 4 = mkF m 0 #[.val (.int x0), .val (.int x1), .val (.int x2), .val .null] [] := by first | (simp [entryFrame, mkF, argsToLocals, Value.category]; done) | rfl
theorem own_ef_OC_2 (m : MethodId) (x0 : Int32) (x1 : Int32) (x2 : Int32) : entryFrame m #[(.int x0), (.int x1), (.int x2)] 3 = mkF m 0 #[.val (.int x0), .val (.int x1), .val (.int x2)] [] := by first | (simp [entryFrame, mkF, argsToLocals, Value.category]; done) | rfl
theorem own_ef_CZ_2 (m : MethodId) (x0 : Addr) (x1 : Int32) (x2 : Int32) (x3 : Int32) : entryFrame m #[(.ref x0), (.int x1), (.int x2), (.int x3)] 6 = mkF m 0 #[.val (.ref x0), .val (.int x1), .val (.int x2), .val (.int x3), .unset, .unset] [] := by first | (simp [entryFrame, mkF, argsToLocals, Value.category]; done) | rfl
theorem own_ef_CU_2 (m : MethodId) (x0 : Addr) (x1 : Int32) (x2 : Int32) : entryFrame m #[(.ref x0), (.int x1), (.int x2)] 3 = mkF m 0 #[.val (.ref x0), .val (.int x1), .val (.int x2)] [] := by first | (simp [entryFrame, mkF, argsToLocals, Value.category]; done) | rfl
theorem own_ef_CP_2 (m : MethodId) (x0 : Addr) (x1 : Int32) (x2 : Int32) : entryFrame m #[(.ref x0), (.int x1), (.int x2)] 3 = mkF m 0 #[.val (.ref x0), .val (.int x1), .val (.int x2)] [] := by first | (simp [entryFrame, mkF, argsToLocals, Value.category]; done) | rfl
theorem own_ef_FO_2 (m : MethodId) (x0 : Addr) (x1 : Addr) : entryFrame m #[(.ref x0), (.ref x1)] 2 = mkF m 0 #[.val (.ref x0), .val (.ref x1)] [] := by first | (simp [entryFrame, mkF, argsToLocals, Value.category]; done) | rfl
theorem own_ef_PC0_3 (m : MethodId) (x0 : Int32) (x1 : Int32) (x2 : Int32) : entryFrame m #[(.int x0), (.int x1), (.int x2), .null] 4 = mkF m 0 #[.val (.int x0), .val (.int x1), .val (.int x2), .val .null] [] := by first | (simp [entryFrame, mkF, argsToLocals, Value.category]; done) | rfl
theorem own_ef_OC_3 (m : MethodId) (x0 : Int32) (x1 : Int32) (x2 : Int32) : entryFrame m #[(.int x0), (.int x1), (.int x2)] 3 = mkF m 0 #[.val (.int x0), .val (.int x1), .val (.int x2)] [] := by first | (simp [entryFrame, mkF, argsToLocals, Value.category]; done) | rfl
theorem own_ef_CZ_3 (m : MethodId) (x0 : Addr) (x1 : Int32) (x2 : Int32) (x3 : Int32) : entryFrame m #[(.ref x0), (.int x1), (.int x2), (.int x3)] 6 = mkF m 0 #[.val (.ref x0), .val (.int x1), .val (.int x2), .val (.int x3), .unset, .unset] [] := by first | (simp [entryFrame, mkF, argsToLocals, Value.category]; done) | rfl
theorem own_ef_CU_3 (m : MethodId) (x0 : Addr) (x1 : Int32) (x2 : Int32) : entryFrame m #[(.ref x0), (.int x1), (.int x2)] 3 = mkF m 0 #[.val (.ref x0), .val (.int x1), .val (.int x2)] [] := by first | (simp [entryFrame, mkF, argsToLocals, Value.category]; done) | rfl
theorem own_ef_CP_3 (m : MethodId) (x0 : Addr) (x1 : Int32) (x2 : Int32) : entryFrame m #[(.ref x0), (.int x1), (.int x2)] 3 = mkF m 0 #[.val (.ref x0), .val (.int x1), .val (.int x2)] [] := by first | (simp [entryFrame, mkF, argsToLocals, Value.category]; done) | rfl
theorem own_ef_FO_3 (m : MethodId) (x0 : Addr) (x1 : Addr) : entryFrame m #[(.ref x0), (.ref x1)] 2 = mkF m 0 #[.val (.ref x0), .val (.ref x1)] [] := by first | (simp [entryFrame, mkF, argsToLocals, Value.category]; done) | rfl
theorem own_ef_0 (m : MethodId) (x0 : Int32) (x1 : Int32) (x2 : Int32) (x3 : Int32) (x4 : Int32) (x5 : Int32) : entryFrame m #[(.int x0), (.int x1), (.int x2), (.int x3), (.int x4), (.int x5)] maxLocals = mkF m 0 #[.val (.int x0), .val (.int x1), .val (.int x2), .val (.int x3), .val (.int x4), .val (.int x5), .unset, .unset, .unset, .unset, .unset, .unset, .unset, .unset, .unset, .unset, .unset, .unset, .unset, .unset] [] := by first | (simp [entryFrame, mkF, argsToLocals, Value.category, maxLocals]; done) | rfl
def own_QI4_0 (Z : State) (sx a : Addr) (h0 : Heap) (n0 : Nat) (v : Option Value) (h : Heap) (L : List Loc) : Prop := v = none ∧ Fr n0 L ∧ Keep h0 h [sx] ∧ ∃ (t : Addr) (kb : ClassId), own_Str Z h sx t kb []
set_option maxRecDepth 65536 in
set_option maxHeartbeats 40000000 in
theorem own_rmI4_0 (l : Launch) (Z : State) (a0 : Array Value) (hw : ∀ d ∈ tables_1, d.before a0 Z = true) (ws : List Jvm.Cond) (sx a : Addr) (h0 : Heap) (n0 : Nat) (Z0 : n0 ≤ h0.size) (OL : Old Z n0 h0) (ge_sx : n0 ≤ sx) (E_sx : Exa Z h0 sx "java/lang/String") (F_value_sx : Fld Z h0 sx "java/lang/String" "value" "[B" .null) (F_coder_sx : Fld Z h0 sx "java/lang/String" "coder" "B" (.int (0 : Int32))) :
    MetFree l (⟨"java/lang/String", "<init>", "([CIILjava/lang/Void;)V"⟩ : MethodName) (head1 (Jvm.Cond.code (⟨"java/lang/String", "<init>", "([CIILjava/lang/Void;)V"⟩ : MethodName) jdk_42_method_149_code 6 none :: ws) ({ frames := 1, cells := 4, slots := 8, locals := 12 } : Room)) (fun aa_ U => aa_ = #[(.ref sx), (.ref a), (.int (0 : Int32)), (.int (0 : Int32)), .null] ∧ Z.Warmed39 U.vm ∧ U.heap = h0 ∧ CHv Z own_EL U.vm h0) (fun _ _ _ _ _ => True) (fun _ U o U' => ∃ v L, o = .returned v ∧ own_QI4_0 Z sx a h0 n0 v U'.heap L ∧ CHr Z own_EL U.vm U.heap U'.vm U'.heap ∧ ReturnedEndW U o U' L ({ frames := 1, cells := 4, slots := 8, locals := 12 } : Room).cells ({ frames := 1, cells := 4, slots := 8, locals := 12 } : Room).slots) := by
  refine MetFree.of_bodySF (plainFor_of_name own_pn0) hisR ?_
  intro p e s m args below meth c s₁ Bd hml0 hP hK
  obtain ⟨rfl, hZ, hh, CH⟩ := hP
  have hx := Bd.exec
  have hby := Bd.bytes
  have hlk : meth.locks = false := BodyLoose.notSynchronized Bd
  have hml : c.maxLocals = 6 := hml0
  have hown : s.vm.findClass "java/lang/String" = some m.cls := findClass_of_methodNamed Bd.named
  have hnm := (name_of_methodNamed Bd.named Bd.method).1
  have X0 : Stand p l e ({ frames := 1, cells := 4, slots := 8, locals := 12 } : Room) s m #[(.ref sx), (.ref a), (.int (0 : Int32)), (.int (0 : Int32)), .null] below meth c s₁ [] 0 0 := Stand.of_body Bd
  have e0 : s₁.heap = h0 := by rw [← hh, Bd.state]; rfl
  have N0 := Fr.nil n0
  have KP : Keep h0 h0 [sx] := Keep.refl _ _
  have hS : s.Since s.vm 0 := (State.WarmedH.refl s).since 0
  have hk1 : 0 ≤ h0.size := Nat.zero_le _
  have CHR : CHr Z own_EL s.vm h0 s.vm h0 := CHr.refl CH
  have hEW : EW Z a0 own_EL := own_EWof hw
  have hwsS : ∀ d ∈ Bundle.stringAtoms, d.before a0 Z = true := fun d hd => hw d (own_wS d hd)
  refine own_start (Fin := (own_FinH Z s (own_QI4_0 Z sx a h0 n0) ({ frames := 1, cells := 4, slots := 8, locals := 12 } : Room).cells ({ frames := 1, cells := 4, slots := 8, locals := 12 } : Room).slots)) (own_from (mkF m 0 #[rv sx, rv a, iv 0, iv 0, .val .null, .unset] []) (castTop (own_ef_I4_0 m sx a (0 : Int32) (0 : Int32))) ?_)
  have SF_sx := own_safeN (EL := own_EL) (vm := s.vm) hZ.alike E_sx F_value_sx
  refine own_aln 1 X0 hx (hb hby own_d0) rfl rfl rfl ?_
  obtain ⟨T1, X1, e1, st1⟩ := initO X0 hx hZ hown (own_w hw 18 rfl) (own_w hw 19 rfl) (own_w hw 20 rfl) e0 (g := (mkF m 1 #[rv sx, rv a, iv 0, iv 0, .val .null, .unset] [(.ref sx)])) rfl (by rw [hml]; rfl) rfl (hb hby own_d1) (by decide) (W := 0) (by show 2 * 0 + _ ≤ _; exact Nat.le_of_eq rfl) (by decide)
  refine own_to (mkF m 4 #[rv sx, rv a, iv 0, iv 0, .val .null, .unset] []) st1 ?_
  refine own_iln 5 X1 hx (hb hby own_d2) rfl rfl ?_
  refine own_ifN 8 X1 hx (hb hby own_d3) ((if0 _ _).trans (teq (by decide : (0 : Int32) = (0 : Int32))).2) rfl ?_
  refine own_aln 9 X1 hx (hb hby own_d4) rfl rfl rfl ?_
  have lts_sx := E_sx.lt
  obtain ⟨la1, T2, h2, k1, lb1, lk1, X2, e2, E2, hS, hk2, hZ, hown, E_la1, F_coder_la1, F_value_la1, V_lb1, -, -, CR2, -, sfe2, st2⟩ := ldcCH (s := s) (vm0 := s.vm) X1 hx hZ hown (own_w hw 110 rfl) hwsS e1 hS hk1 hEW (List.mem_of_getElem? (i := 0) rfl) CH (vs := []) (z := (0 : Int32)) ⟨fun c hc => (by cases hc), rfl⟩ (by decide) rfl (g := (mkF m 9 #[rv sx, rv a, iv 0, iv 0, .val .null, .unset] [(.ref sx)])) rfl (hb hby own_d5) (n := 0) (by decide) (by decide) (by decide) (by decide)
  have OL := OL.ext E2
  have KP := KP.ext E2
  have E_sx := E_sx.ext E2
  have F_value_sx := F_value_sx.ext E2
  have F_coder_sx := F_coder_sx.ext E2
  have hk1 := hk2
  have SF_sx := CR2.safe lts_sx SF_sx
  have ne_sx_la1 := (sfe2 sx SF_sx).1
  have ne_sx_lb1 := (sfe2 sx SF_sx).2
  have CHR := CHR.trans CR2
  have CH := CR2.1
  refine own_to (mkF m 11 #[rv sx, rv a, iv 0, iv 0, .val .null, .unset] [(.ref la1), (.ref sx)]) st2 ?_
  obtain ⟨T3, X3, e3, st3⟩ := getF X2 hx hZ hown (host := "") (Or.inl (own_w hw 35 rfl)) Via.refl e2 F_value_la1 (g := (mkF m 11 #[rv sx, rv a, iv 0, iv 0, .val .null, .unset] [(.ref la1), (.ref sx)])) rfl rfl (hb hby own_d6)
  refine own_to (mkF m 14 #[rv sx, rv a, iv 0, iv 0, .val .null, .unset] [(.ref lb1), (.ref sx)]) st3 ?_
  obtain ⟨T4, h4, X4, e4, W4, st4⟩ := putF X3 hx hZ hown (host := "") (Or.inl (own_w hw 35 rfl)) Via.refl e3 F_value_sx E_sx (Or.inr ⟨(own_w hw 36 rfl), rfl, hnm⟩) (own_w hw 5 rfl) (ty := (.array .byte)) (by decide) rfl rfl (g := (mkF m 14 #[rv sx, rv a, iv 0, iv 0, .val .null, .unset] [(.ref lb1), (.ref sx)])) rfl rfl (hb hby own_d7)
  refine own_to (mkF m 17 #[rv sx, rv a, iv 0, iv 0, .val .null, .unset] []) st4 ?_
  have N4 := Fr.snoc X4 N0 ge_sx
  have tmp4 : Fld Z h4 sx "java/lang/String" "value" "[B" (.ref lb1) := F_value_sx.same W4
  have SFa : Safe Z own_EL T2.vm h2 sx := SF_sx
  have SF_sx := Safe.wr W4 SFa CH SF_sx
  have CHR := CHR.trans (CHr.wr W4 SFa CH)
  have CH := CH.wr W4 SFa
  have OL := OL.wr W4 ge_sx
  have KP := KP.wr W4 (Or.inl (List.mem_of_getElem? (i := 0) rfl))
  have hk1 := Nat.le_trans hk1 (Keep.of_wr W4).1
  have E_sx := E_sx.wr W4
  have F_coder_sx := F_coder_sx.other W4 (Or.inr (slot_ne (Or.inr (own_w hw 34 rfl)) (Or.inr (own_w hw 36 rfl)) (by decide) (t := .byte) (t' := (.array .byte)) (by decide) (by decide)))
  have E_la1 := E_la1.wr W4
  have F_coder_la1 := F_coder_la1.other W4 (Or.inl (Ne.symm ne_sx_la1))
  have F_value_la1 := F_value_la1.other W4 (Or.inl (Ne.symm ne_sx_la1))
  have V_lb1 := V_lb1.other W4 (Ne.symm ne_sx_lb1)
  have F_value_sx := tmp4
  refine own_aln 18 X4 hx (hb hby own_d8) rfl rfl rfl ?_
  have lts_sx := E_sx.lt
  obtain ⟨la2, T5, h5, k1, lb2, lk2, X5, e5, E5, hS, hk2, hZ, hown, E_la2, F_coder_la2, F_value_la2, V_lb2, -, -, CR5, -, sfe5, st5⟩ := ldcCH (s := s) (vm0 := T2.vm) X4 hx hZ hown (own_w hw 110 rfl) hwsS e4 hS hk1 hEW (List.mem_of_getElem? (i := 0) rfl) CH (vs := []) (z := (0 : Int32)) ⟨fun c hc => (by cases hc), rfl⟩ (by decide) rfl (g := (mkF m 18 #[rv sx, rv a, iv 0, iv 0, .val .null, .unset] [(.ref sx)])) rfl (hb hby own_d9) (n := 0) (by decide) (by decide) (by decide) (by decide)
  have OL := OL.ext E5
  have KP := KP.ext E5
  have E_sx := E_sx.ext E5
  have F_value_sx := F_value_sx.ext E5
  have F_coder_sx := F_coder_sx.ext E5
  have V_lb1 := V_lb1.ext E5
  have hk1 := hk2
  have SF_sx := CR5.safe lts_sx SF_sx
  have ne_sx_la2 := (sfe5 sx SF_sx).1
  have ne_sx_lb2 := (sfe5 sx SF_sx).2
  have CHR := CHR.trans CR5
  have CH := CR5.1
  refine own_to (mkF m 20 #[rv sx, rv a, iv 0, iv 0, .val .null, .unset] [(.ref la2), (.ref sx)]) st5 ?_
  obtain ⟨T6, X6, e6, st6⟩ := getF X5 hx hZ hown (host := "") (Or.inl (own_w hw 33 rfl)) Via.refl e5 F_coder_la2 (g := (mkF m 20 #[rv sx, rv a, iv 0, iv 0, .val .null, .unset] [(.ref la2), (.ref sx)])) rfl rfl (hb hby own_d10)
  refine own_to (mkF m 23 #[rv sx, rv a, iv 0, iv 0, .val .null, .unset] [(.int (0 : Int32)), (.ref sx)]) st6 ?_
  obtain ⟨T7, h7, X7, e7, W7, st7⟩ := putFN X6 hx hZ hown (own_w hw 33 rfl) Via.refl e6 F_coder_sx E_sx (Or.inr ⟨(own_w hw 34 rfl), rfl, hnm⟩) (own_w hw 5 rfl) (ty := .byte) (v' := (.int (0 : Int32))) (by decide) rfl rfl (g := (mkF m 23 #[rv sx, rv a, iv 0, iv 0, .val .null, .unset] [(.int (0 : Int32)), (.ref sx)])) rfl rfl (hb hby own_d11)
  refine own_to (mkF m 26 #[rv sx, rv a, iv 0, iv 0, .val .null, .unset] []) st7 ?_
  have N7 := Fr.snoc X7 N4 ge_sx
  have tmp7 : Fld Z h7 sx "java/lang/String" "coder" "B" (.int (0 : Int32)) := F_coder_sx.same W7
  have SFa : Safe Z own_EL T5.vm h5 sx := SF_sx
  have SF_sx := Safe.wr W7 SFa CH SF_sx
  have CHR := CHR.trans (CHr.wr W7 SFa CH)
  have CH := CH.wr W7 SFa
  have OL := OL.wr W7 ge_sx
  have KP := KP.wr W7 (Or.inl (List.mem_of_getElem? (i := 0) rfl))
  have hk1 := Nat.le_trans hk1 (Keep.of_wr W7).1
  have E_sx := E_sx.wr W7
  have F_value_sx := F_value_sx.other W7 (Or.inr (slot_ne (Or.inr (own_w hw 36 rfl)) (Or.inr (own_w hw 34 rfl)) (by decide) (t := (.array .byte)) (t' := .byte) (by decide) (by decide)))
  have V_lb1 := V_lb1.other W7 (Ne.symm ne_sx_lb1)
  have E_la2 := E_la2.wr W7
  have F_coder_la2 := F_coder_la2.other W7 (Or.inl (Ne.symm ne_sx_la2))
  have F_value_la2 := F_value_la2.other W7 (Or.inl (Ne.symm ne_sx_la2))
  have V_lb2 := V_lb2.other W7 (Ne.symm ne_sx_lb2)
  have F_coder_sx := tmp7
  exact own_ret0H (s := s) (vm₁ := T5.vm) X7 hS (by rw [e7]; exact hk1) hZ hEW (by rw [e7]; exact CH) (by rw [hh, e7]; exact CHR) hx Bd.returns hlk (hb hby own_d12) (by decide) (by decide) (by rw [e7]; exact ⟨rfl, N7, KP, lb1, lk1, E_sx, F_value_sx, F_coder_sx, V_lb1, own_all0, Nat.zero_le _⟩)
def own_QI1_0 (Z : State) (sx a : Addr) (ka : ClassId) (h0 : Heap) (n0 : Nat) (v : Option Value) (h : Heap) (L : List Loc) : Prop := v = none ∧ Fr n0 L ∧ Keep h0 h [sx] ∧ ∃ (t : Addr) (kb : ClassId), own_Str Z h sx t kb []
set_option maxRecDepth 65536 in
set_option maxHeartbeats 40000000 in
theorem own_rmI1_0 (l : Launch) (Z : State) (a0 : Array Value) (hw : ∀ d ∈ tables_1, d.before a0 Z = true) (ws : List Jvm.Cond) (sx a : Addr) (ka : ClassId) (h0 : Heap) (n0 : Nat) (Z0 : n0 ≤ h0.size) (OL : Old Z n0 h0) (ge_sx : n0 ≤ sx) (E_sx : Exa Z h0 sx "java/lang/String") (F_value_sx : Fld Z h0 sx "java/lang/String" "value" "[B" .null) (F_coder_sx : Fld Z h0 sx "java/lang/String" "coder" "B" (.int (0 : Int32))) (Va : Arv Z h0 a ka .char (0 : Int32) [] (.int (0 : Int32))) :
    MetFree l (⟨"java/lang/String", "<init>", "([C)V"⟩ : MethodName) (head1 (Jvm.Cond.code (⟨"java/lang/String", "<init>", "([C)V"⟩ : MethodName) jdk_42_method_3_code 2 none :: ws) ({ frames := 2, cells := 4, slots := 8, locals := 29 } : Room)) (fun aa_ U => aa_ = #[(.ref sx), (.ref a)] ∧ Z.Warmed39 U.vm ∧ U.heap = h0 ∧ CHv Z own_EL U.vm h0) (fun _ _ _ _ _ => True) (fun _ U o U' => ∃ v L, o = .returned v ∧ own_QI1_0 Z sx a ka h0 n0 v U'.heap L ∧ CHr Z own_EL U.vm U.heap U'.vm U'.heap ∧ ReturnedEndW U o U' L ({ frames := 2, cells := 4, slots := 8, locals := 29 } : Room).cells ({ frames := 2, cells := 4, slots := 8, locals := 29 } : Room).slots) := by
  refine MetFree.of_bodySF (plainFor_of_name own_pn0) hisR ?_
  intro p e s m args below meth c s₁ Bd hml0 hP hK
  obtain ⟨rfl, hZ, hh, CH⟩ := hP
  have hx := Bd.exec
  have hby := Bd.bytes
  have hlk : meth.locks = false := BodyLoose.notSynchronized Bd
  have hml : c.maxLocals = 2 := hml0
  have hown : s.vm.findClass "java/lang/String" = some m.cls := findClass_of_methodNamed Bd.named
  have hnm := (name_of_methodNamed Bd.named Bd.method).1
  have X0 : Stand p l e ({ frames := 2, cells := 4, slots := 8, locals := 29 } : Room) s m #[(.ref sx), (.ref a)] below meth c s₁ [] 0 0 := Stand.of_body Bd
  have e0 : s₁.heap = h0 := by rw [← hh, Bd.state]; rfl
  have N0 := Fr.nil n0
  have KP : Keep h0 h0 [sx] := Keep.refl _ _
  have hS : s.Since s.vm 0 := (State.WarmedH.refl s).since 0
  have hk1 : 0 ≤ h0.size := Nat.zero_le _
  have CHR : CHr Z own_EL s.vm h0 s.vm h0 := CHr.refl CH
  have hEW : EW Z a0 own_EL := own_EWof hw
  have hwsS : ∀ d ∈ Bundle.stringAtoms, d.before a0 Z = true := fun d hd => hw d (own_wS d hd)
  refine own_start (Fin := (own_FinH Z s (own_QI1_0 Z sx a ka h0 n0) ({ frames := 2, cells := 4, slots := 8, locals := 29 } : Room).cells ({ frames := 2, cells := 4, slots := 8, locals := 29 } : Room).slots)) (own_from (mkF m 0 #[rv sx, rv a] []) (castTop (own_ef_I1_0 m sx a)) ?_)
  refine own_aln 1 X0 hx (hb hby own_d13) rfl rfl rfl ?_
  refine own_aln 2 X0 hx (hb hby own_d14) rfl rfl rfl ?_
  refine own_ic 3 0 X0 hx (hb hby own_d15) rfl rfl ?_
  refine own_aln 4 X0 hx (hb hby own_d16) rfl rfl rfl ?_
  obtain ⟨cl8, Ar8, -, S8, M8, -, -⟩ := id Va
  refine own_to (mkF m 5 #[rv sx, rv a] [(.int (0 : Int32)), (.int (0 : Int32)), (.ref a), (.ref sx)]) (by have q := X0.arraylength hx (by rw [e0]; exact Ar8.1) (State.isArrayOf_alike hZ.alike Ar8.2.1) (g := (mkF m 4 #[rv sx, rv a] [(.ref a), (.int (0 : Int32)), (.ref a), (.ref sx)])) rfl rfl (hb hby own_d17); rw [len_of S8 M8] at q; exact q) ?_
  refine own_nul 6 X0 hx (hb hby own_d18) rfl ?_
  obtain ⟨_, _, ⟨T9, L9, k9, n9⟩, -, X9, hS9, gr9, ⟨Lc9, hQ9, l9, y9, z9, CR9⟩, st9⟩ := Stand.specialBackS (s := s.setVm s.vm) X0 hx (y := (⟨"java/lang/String", "<init>", "([CIILjava/lang/Void;)V"⟩ : MethodName)) rfl hown (mvT hZ (own_w hw 14 rfl)) (mvT hZ (own_w hw 15 rfl)) (mvT hZ (own_w hw 17 rfl)) (by decide) (backOfSH (s := s) (vm0 := s.vm) (W := 0) (own_rmI4_0 l Z a0 hw [] sx a h0 n0 (Nat.le_trans Z0 KP.1) OL ge_sx E_sx F_value_sx F_coder_sx) hZ (own_w hw 17 rfl) (own_w hw 6 rfl) (by decide) (by decide) hEW CH) (g := (mkF m 6 #[rv sx, rv a] [.null, (.int (0 : Int32)), (.int (0 : Int32)), (.ref a), (.ref sx)])) rfl (by rw [hml]; rfl) (Steps.refl _) (a := sx) (argsL := [(.ref a), (.int (0 : Int32)), (.int (0 : Int32)), .null]) (rest := []) (lenOf own_pd0 rfl) rfl (by show 2 * 0 + _ ≤ _; exact Nat.le_of_eq rfl) (hb hby own_d19) (fun _ _ => ⟨rfl, e0, (by decide : 0 + 4 ≤ _), (by decide : 0 + 8 ≤ _)⟩)
  dsimp only [Pt.U, Pt.locs, Pt.cells, Pt.slots] at X9 hS9 gr9 l9 y9 z9 CR9 st9 hQ9
  subst l9 y9 z9
  obtain ⟨rfl, N9q, K9, hrest9⟩ := hQ9
  have N9 := Fr.app N0 N9q
  obtain ⟨X9, hS, hZ, hown⟩ := rebS hS (hk1 : _ ≤ (h0).size) X9 hS9 (by rw [e0] at gr9; exact gr9) hZ hown
  have OL := OL.keep K9 (allS ge_sx all0)
  have KP := KP.trans K9 (allS (Or.inl (List.mem_of_getElem? (i := 0) rfl)) all0)
  have hk1 : T9.heap.size ≤ T9.heap.size := Nat.le_refl _
  have CHR := CHR.trans CR9
  have CH := CR9.1
  have X9 : Stand p l e ({ frames := 2, cells := 4, slots := 8, locals := 29 } : Room) (s.setVm T9.vm) m #[(.ref sx), (.ref a)] below meth c T9 _ 4 8 := X9
  refine own_via (mkF m 9 #[rv sx, rv a] []) st9 ?_
  exact own_ret0H (s := s) (vm₁ := T9.vm) X9 hS (by exact hk1) hZ hEW (by exact CH) (by rw [hh]; exact CHR) hx Bd.returns hlk (hb hby own_d20) (by decide) (by decide) (by exact ⟨rfl, N9, KP, hrest9⟩)
def own_QC5_1 (Z : State) (x0 : Int32) (a : Addr) (ka : ClassId) (b : Addr) (kb : ClassId) (h0 : Heap) (n0 : Nat) (v : Option Value) (h : Heap) (L : List Loc) : Prop := Fr n0 L ∧ Keep h0 h [b] ∧ ((v = some (.int (1 : Int32)) ∧ ¬ ((255 : Int32) < x0) ∧ Arv Z h b kb .byte (1 : Int32) [(.int (x0.toInt8.toInt32))] (.int (0 : Int32))) ∨ (v = some (.int (0 : Int32)) ∧ (255 : Int32) < x0))
set_option maxRecDepth 65536 in
set_option maxHeartbeats 40000000 in
theorem own_rmC5_1 (l : Launch) (Z : State) (a0 : Array Value) (hw : ∀ d ∈ tables_1, d.before a0 Z = true) (ws : List Jvm.Cond) (x0 : Int32) (a : Addr) (ka : ClassId) (b : Addr) (kb : ClassId) (h0 : Heap) (n0 : Nat) (Z0 : n0 ≤ h0.size) (OL : Old Z n0 h0) (ne_a_b : a ≠ b) (ge_b : n0 ≤ b) (Va : Arv Z h0 a ka .char (1 : Int32) [(.int x0)] (.int (0 : Int32))) (Vb : Arv Z h0 b kb .byte (1 : Int32) [(.int (0 : Int32))] (.int (0 : Int32))) :
    own_MF l (⟨"java/lang/StringUTF16", "compress", "([CI[BII)I"⟩ : MethodName) (Jvm.Cond.code (⟨"java/lang/StringUTF16", "compress", "([CI[BII)I"⟩ : MethodName) jdk_52_method_21_code 7 (some .int) :: ws) ({ frames := 0, cells := 0, slots := 0, locals := 0 } : Room) #[(.ref a), (.int (0 : Int32)), (.ref b), (.int (0 : Int32)), (.int (1 : Int32))] Z h0 (own_QC5_1 Z x0 a ka b kb h0 n0) := by
  refine MetFree.of_bodySF (plainFor_of_name own_pn1) hisR ?_
  intro p e s m args below meth c s₁ Bd hml0 hP hK
  obtain ⟨rfl, hZ, hh⟩ := hP
  have hx := Bd.exec
  have hby := Bd.bytes
  have hlk : meth.locks = false := BodyLoose.notSynchronized Bd
  have hml : c.maxLocals = 7 := hml0
  have hown : s.vm.findClass "java/lang/StringUTF16" = some m.cls := findClass_of_methodNamed Bd.named
  have hnm := (name_of_methodNamed Bd.named Bd.method).1
  have X0 : Stand p l e ({ frames := 0, cells := 0, slots := 0, locals := 0 } : Room) s m #[(.ref a), (.int (0 : Int32)), (.ref b), (.int (0 : Int32)), (.int (1 : Int32))] below meth c s₁ [] 0 0 := Stand.of_body Bd
  have e0 : s₁.heap = h0 := by rw [← hh, Bd.state]; rfl
  have N0 := Fr.nil n0
  have KP : Keep h0 h0 [b] := Keep.refl _ _
  refine own_start (Fin := (own_Fin s (own_QC5_1 Z x0 a ka b kb h0 n0) ({ frames := 0, cells := 0, slots := 0, locals := 0 } : Room).cells ({ frames := 0, cells := 0, slots := 0, locals := 0 } : Room).slots)) (own_from (mkF m 0 #[rv a, iv 0, rv b, iv 0, iv 1, .unset, .unset] []) (castTop (own_ef_C5_1 m a (0 : Int32) b (0 : Int32) (1 : Int32))) ?_)
  refine own_ic 1 0 X0 hx (hb hby own_d21) rfl rfl ?_
  refine own_is 3 #[rv a, iv 0, rv b, iv 0, iv 1, iv 0, .unset] X0 hx (hb hby own_d22) rfl rfl ?_
  refine own_il 5 X0 hx (hb hby own_d23) rfl rfl ?_
  refine own_il 7 X0 hx (hb hby own_d24) rfl rfl ?_
  refine own_icN 10 X0 hx (hb hby own_d25) (tlt (by decide : (0 : Int32) < (1 : Int32))).2.1 rfl ?_
  refine own_aln 11 X0 hx (hb hby own_d26) rfl rfl rfl ?_
  refine own_iln 12 X0 hx (hb hby own_d27) rfl rfl ?_
  obtain ⟨cl10, Ar10, -, S10, -, H10, -⟩ := id Va
  refine own_to (mkF m 13 #[rv a, iv 0, rv b, iv 0, iv 1, iv 0, .unset] [(.int x0)]) (X0.caload hx (j := (0 : Int32)) (v := (.int x0)) (by rw [e0]; exact Ar10.1) (State.isArrayOf_alike hZ.alike Ar10.2.1) Ar10.2.2 (inb_of S10 ⟨by decide, by decide⟩) (H10.at (inb_of S10 ⟨by decide, by decide⟩) rfl) (g := (mkF m 12 #[rv a, iv 0, rv b, iv 0, iv 1, iv 0, .unset] [(.int (0 : Int32)), (.ref a)])) rfl rfl (hb hby own_d28)) ?_
  refine own_is 15 #[rv a, iv 0, rv b, iv 0, iv 1, iv 0, iv x0] X0 hx (hb hby own_d29) rfl rfl ?_
  refine own_il 17 X0 hx (hb hby own_d30) rfl rfl ?_
  refine own_si 20 255 X0 hx (hb hby own_d31) rfl rfl ?_
  by_cases hb0 : (255 : Int32) < x0
  · refine own_icN 23 X0 hx (hb hby own_d32) (tlt hb0).2.2.2 rfl ?_
    refine own_il 25 X0 hx (hb hby own_d33) rfl rfl ?_
    exact own_retI X0 hx Bd.returns hlk (hb hby own_d34) (by decide) (by decide) (by rw [e0]; exact ⟨N0, KP, (Or.inr ⟨rfl, hb0⟩)⟩)
  · refine own_icY 26 X0 hx (hb hby own_d32) (flt hb0).2.2.2 (by decide) (by decide) ?_
    refine own_aln 27 X0 hx (hb hby own_d35) rfl rfl rfl ?_
    refine own_iln 28 X0 hx (hb hby own_d36) rfl rfl ?_
    refine own_il 30 X0 hx (hb hby own_d37) rfl rfl ?_
    refine own_i2b 31 X0 hx (hb hby own_d38) rfl rfl ?_
    obtain ⟨cl11, Ar11, q11, S11, M11, H11, G11⟩ := id Vb
    obtain ⟨T11, h11, X11, e11, W11, st11⟩ := stB X0 hx hZ e0 Ar11 (j := (0 : Int32)) (inb_of S11 ⟨by decide, by decide⟩) (g := (mkF m 31 #[rv a, iv 0, rv b, iv 0, iv 1, iv 0, iv x0] [(.int (x0.toInt8.toInt32)), (.int (0 : Int32)), (.ref b)])) rfl rfl (hb hby own_d39)
    refine own_to (mkF m 32 #[rv a, iv 0, rv b, iv 0, iv 1, iv 0, iv x0] []) st11 ?_
    have N11 := Fr.snoc X11 N0 ge_b
    have tmp11 : Arv Z h11 b kb .byte (1 : Int32) [(.int ((x0.toInt8.toInt32).toInt8.toInt32))] (.int (0 : Int32)) := Arv.set Ar11 q11 S11 M11 H11 G11 (fits_nar_byte _) W11 0 rfl (Nat.le_of_ble_eq_true rfl)
    rw [own_b8] at tmp11
    have OL := OL.wr W11 ge_b
    have KP := KP.wr W11 (Or.inl (List.mem_of_getElem? (i := 0) rfl))
    have Va := Va.other W11 ne_a_b
    have Vb := tmp11
    refine own_inc 35 #[rv a, iv 1, rv b, iv 0, iv 1, iv 0, iv x0] X11 hx (hb hby own_d40) rfl rfl rfl ?_
    refine own_inc 38 #[rv a, iv 1, rv b, iv 1, iv 1, iv 0, iv x0] X11 hx (hb hby own_d41) rfl rfl rfl ?_
    refine own_inc 41 #[rv a, iv 1, rv b, iv 1, iv 1, iv 1, iv x0] X11 hx (hb hby own_d42) rfl rfl rfl ?_
    refine own_go 3 X11 hx (hb hby own_d43) (by decide) (by decide) ?_
    refine own_il 5 X11 hx (hb hby own_d23) rfl rfl ?_
    refine own_il 7 X11 hx (hb hby own_d24) rfl rfl ?_
    refine own_icY 44 X11 hx (hb hby own_d25) (flt (by decide : ¬ ((1 : Int32) < (1 : Int32)))).2.1 (by decide) (by decide) ?_
    refine own_il 46 X11 hx (hb hby own_d44) rfl rfl ?_
    exact own_retI X11 hx Bd.returns hlk (hb hby own_d45) (by decide) (by decide) (by rw [e11]; exact ⟨N11, KP, Or.inl ⟨rfl, hb0, Vb⟩⟩)
def own_QNL_1 (Z : State)  (h0 : Heap) (n0 : Nat) (v : Option Value) (h : Heap) (L : List Loc) : Prop := v = some (.int (2 : Int32)) ∧ Fr n0 L ∧ h = h0
set_option maxRecDepth 65536 in
set_option maxHeartbeats 40000000 in
theorem own_rmNL_1 (l : Launch) (Z : State) (a0 : Array Value) (hw : ∀ d ∈ tables_1, d.before a0 Z = true) (ws : List Jvm.Cond)  (h0 : Heap) (n0 : Nat) (Z0 : n0 ≤ h0.size) (OL : Old Z n0 h0)  :
    own_MF l (⟨"java/lang/StringUTF16", "newBytesLength", "(I)I"⟩ : MethodName) (Jvm.Cond.code (⟨"java/lang/StringUTF16", "newBytesLength", "(I)I"⟩ : MethodName) jdk_52_method_3_code 1 (some .int) :: ws) ({ frames := 0, cells := 0, slots := 0, locals := 0 } : Room) #[(.int (1 : Int32))] Z h0 (own_QNL_1 Z  h0 n0) := by
  refine MetFree.of_bodySF (plainFor_of_name own_pn1) hisR ?_
  intro p e s m args below meth c s₁ Bd hml0 hP hK
  obtain ⟨rfl, hZ, hh⟩ := hP
  have hx := Bd.exec
  have hby := Bd.bytes
  have hlk : meth.locks = false := BodyLoose.notSynchronized Bd
  have hml : c.maxLocals = 1 := hml0
  have hown : s.vm.findClass "java/lang/StringUTF16" = some m.cls := findClass_of_methodNamed Bd.named
  have hnm := (name_of_methodNamed Bd.named Bd.method).1
  have X0 : Stand p l e ({ frames := 0, cells := 0, slots := 0, locals := 0 } : Room) s m #[(.int (1 : Int32))] below meth c s₁ [] 0 0 := Stand.of_body Bd
  have e0 : s₁.heap = h0 := by rw [← hh, Bd.state]; rfl
  have N0 := Fr.nil n0
  have KP : Keep h0 h0 [] := Keep.refl _ _
  refine own_start (Fin := (own_Fin s (own_QNL_1 Z  h0 n0) ({ frames := 0, cells := 0, slots := 0, locals := 0 } : Room).cells ({ frames := 0, cells := 0, slots := 0, locals := 0 } : Room).slots)) (own_from (mkF m 0 #[iv 1] []) (castTop (own_ef_NL_1 m (1 : Int32))) ?_)
  refine own_iln 1 X0 hx (hb hby own_d46) rfl rfl ?_
  refine own_ifY 12 X0 hx (hb hby own_d47) ((if0 _ _).trans (flt (by decide : ¬ ((1 : Int32) < (0 : Int32)))).2.1) (by decide) (by decide) ?_
  refine own_iln 13 X0 hx (hb hby own_d48) rfl rfl ?_
  refine own_to (mkF m 15 #[iv 1] [(.int (1073741823 : Int32)), (.int (1 : Int32))]) (X0.ldcInt hx hown (mvT hZ (own_w hw 93 rfl)) (g := (mkF m 13 #[iv 1] [(.int (1 : Int32))])) rfl (hb hby own_d49)) ?_
  refine own_icY 55 X0 hx (hb hby own_d50) (tlt (by decide : (1 : Int32) < (1073741823 : Int32))).1 (by decide) (by decide) ?_
  refine own_iln 56 X0 hx (hb hby own_d51) rfl rfl ?_
  refine own_ic 57 1 X0 hx (hb hby own_d52) rfl rfl ?_
  refine own_ishl 58 X0 hx (hb hby own_d53) (z := (2 : Int32)) rfl rfl ?_
  exact own_retI X0 hx Bd.returns hlk (hb hby own_d54) (by decide) (by decide) (by rw [e0]; exact ⟨rfl, N0, rfl⟩)
def own_QNF_1 (Z : State)  (h0 : Heap) (n0 : Nat) (v : Option Value) (h : Heap) (L : List Loc) : Prop := ∃ (b : Addr) (kb : ClassId), v = some (.ref b) ∧ Fr n0 L ∧ Keep h0 h [] ∧ n0 ≤ b ∧ h0.size ≤ b ∧ Arv Z h b kb .byte (2 : Int32) [(.int (0 : Int32)), (.int (0 : Int32))] (.int (0 : Int32))
set_option maxRecDepth 65536 in
set_option maxHeartbeats 40000000 in
theorem own_rmNF_1 (l : Launch) (Z : State) (a0 : Array Value) (hw : ∀ d ∈ tables_1, d.before a0 Z = true) (ws : List Jvm.Cond)  (h0 : Heap) (n0 : Nat) (Z0 : n0 ≤ h0.size) (OL : Old Z n0 h0)  :
    own_MF l (⟨"java/lang/StringUTF16", "newBytesFor", "(I)[B"⟩ : MethodName) (Jvm.Cond.code (⟨"java/lang/StringUTF16", "newBytesFor", "(I)[B"⟩ : MethodName) jdk_52_method_2_code 1 (some (.array .byte)) :: ws) ({ frames := 1, cells := 1, slots := 2, locals := 20 } : Room) #[(.int (1 : Int32))] Z h0 (own_QNF_1 Z  h0 n0) := by
  refine MetFree.of_bodySF (plainFor_of_name own_pn1) hisR ?_
  intro p e s m args below meth c s₁ Bd hml0 hP hK
  obtain ⟨rfl, hZ, hh⟩ := hP
  have hx := Bd.exec
  have hby := Bd.bytes
  have hlk : meth.locks = false := BodyLoose.notSynchronized Bd
  have hml : c.maxLocals = 1 := hml0
  have hown : s.vm.findClass "java/lang/StringUTF16" = some m.cls := findClass_of_methodNamed Bd.named
  have hnm := (name_of_methodNamed Bd.named Bd.method).1
  have X0 : Stand p l e ({ frames := 1, cells := 1, slots := 2, locals := 20 } : Room) s m #[(.int (1 : Int32))] below meth c s₁ [] 0 0 := Stand.of_body Bd
  have e0 : s₁.heap = h0 := by rw [← hh, Bd.state]; rfl
  have N0 := Fr.nil n0
  have KP : Keep h0 h0 [] := Keep.refl _ _
  refine own_start (Fin := (own_Fin s (own_QNF_1 Z  h0 n0) ({ frames := 1, cells := 1, slots := 2, locals := 20 } : Room).cells ({ frames := 1, cells := 1, slots := 2, locals := 20 } : Room).slots)) (own_from (mkF m 0 #[iv 1] []) (castTop (own_ef_NF_1 m (1 : Int32))) ?_)
  refine own_iln 1 X0 hx (hb hby own_d55) rfl rfl ?_
  obtain ⟨_, T12, Lc12, X12, hQ12, st12⟩ := own_callS X0 hx (y := (⟨"java/lang/StringUTF16", "newBytesLength", "(I)I"⟩ : MethodName)) hown (mvT hZ (own_w hw 90 rfl)) (mvT hZ (own_w hw 91 rfl)) (mvT hZ (own_w hw 24 rfl)) (mvT hZ (own_w hw 92 rfl)) (by decide) (backOf (W := 0) (own_rmNL_1 l Z a0 hw [] h0 n0 (Nat.le_trans Z0 KP.1) OL) hZ (own_w hw 92 rfl) (own_w hw 24 rfl) (by decide) (by decide)) (g := (mkF m 1 #[iv 1] [(.int (1 : Int32))])) rfl (by rw [hml]; rfl) (argsL := [(.int (1 : Int32))]) (rest := []) (lenOf own_pd1 rfl) rfl (by show 2 * 0 + _ ≤ _; exact Nat.le_of_eq rfl) (hb hby own_d56) rfl e0 (kc := 0) (ks := 0) rfl rfl (by decide) (by decide)
  obtain ⟨rfl, N12q, e12⟩ := hQ12
  have N12 := Fr.app N0 N12q
  refine own_to (mkF m 4 #[iv 1] [(.int (2 : Int32))]) st12 ?_
  obtain ⟨T13, h13, k13, X13, e13, E13, A13, B13, st13⟩ := newPE X12 hx hZ (own_w hw 26 rfl) e12 (g := (mkF m 4 #[iv 1] [(.int (2 : Int32))])) rfl (hb hby own_d57) rfl (by decide) (cap := 2) (by decide) (by decide) (by decide) (by decide) (ad := "[B") (by decide)
  obtain ⟨b13, g13⟩ : ∃ z, z = h0.size := ⟨_, rfl⟩
  rw [← g13] at A13 B13 st13
  have sz_b13 : h0.size ≤ b13 := Nat.le_trans KP.1 (Nat.le_of_eq g13.symm)
  have ge_b13 : n0 ≤ b13 := Nat.le_trans Z0 sz_b13
  have OL := OL.ext E13
  have KP := KP.ext E13
  have V_b13 : Arv Z h13 b13 k13 .byte (2 : Int32) [(.int (0 : Int32)), (.int (0 : Int32))] (.int (0 : Int32)) := (Arv.new A13 (by decide)).pad (pad_rep [] (.int (0 : Int32)) 2)
  refine own_to (mkF m 6 #[iv 1] [(.ref b13)]) st13 ?_
  exact own_retA X13 hx Bd.returns rfl hlk (hb hby own_d58) rfl (by decide) (by decide) (by rw [e13]; exact ⟨b13, k13, rfl, N12, KP, ge_b13, sz_b13, V_b13⟩)
def own_QPC_1_0 (Z : State) (u0 u1 cc : Int32) (G1 : Int32) (b : Addr) (kb : ClassId) (h0 : Heap) (n0 : Nat) (v : Option Value) (h : Heap) (L : List Loc) : Prop := v = none ∧ Fr n0 L ∧ Keep h0 h [b] ∧ Arv Z h b kb .byte (2 : Int32) [(.int ((cc >>> ((0 : Int32) &&& 31)).toInt8.toInt32)), (.int ((cc >>> ((8 : Int32) &&& 31)).toInt8.toInt32))] (.int (0 : Int32))
set_option maxRecDepth 65536 in
set_option maxHeartbeats 40000000 in
theorem own_rmPC_1_0 (l : Launch) (Z : State) (a0 : Array Value) (hw : ∀ d ∈ tables_1, d.before a0 Z = true) (ws : List Jvm.Cond) (u0 u1 cc : Int32) (G1 : Int32) (b : Addr) (kb : ClassId) (h0 : Heap) (n0 : Nat) (Z0 : n0 ≤ h0.size) (OL : Old Z n0 h0) (ge_b : n0 ≤ b) (Vb : Arv Z h0 b kb .byte (2 : Int32) [(.int u0), (.int u1)] (.int (0 : Int32))) (O2 : Sta Z Z.heap "java/lang/String" "COMPACT_STRINGS" "Z" (.int G1)) (P5 : ¬ (G1 = (0 : Int32))) (OAD : Sta Z Z.heap "java/lang/StringUTF16" "$assertionsDisabled" "Z" (.int (1 : Int32))) (OHI : Sta Z Z.heap "java/lang/StringUTF16" "HI_BYTE_SHIFT" "I" (.int (0 : Int32))) (OLO : Sta Z Z.heap "java/lang/StringUTF16" "LO_BYTE_SHIFT" "I" (.int (8 : Int32))) :
    own_MF l (⟨"java/lang/StringUTF16", "putChar", "([BII)V"⟩ : MethodName) (Jvm.Cond.code (⟨"java/lang/StringUTF16", "putChar", "([BII)V"⟩ : MethodName) jdk_52_method_4_code 3 none :: ws) ({ frames := 0, cells := 0, slots := 0, locals := 0 } : Room) #[(.ref b), (.int (0 : Int32)), (.int cc)] Z h0 (own_QPC_1_0 Z u0 u1 cc G1 b kb h0 n0) := by
  refine MetFree.of_bodySF (plainFor_of_name own_pn1) hisR ?_
  intro p e s m args below meth c s₁ Bd hml0 hP hK
  obtain ⟨rfl, hZ, hh⟩ := hP
  have hx := Bd.exec
  have hby := Bd.bytes
  have hlk : meth.locks = false := BodyLoose.notSynchronized Bd
  have hml : c.maxLocals = 3 := hml0
  have hown : s.vm.findClass "java/lang/StringUTF16" = some m.cls := findClass_of_methodNamed Bd.named
  have hnm := (name_of_methodNamed Bd.named Bd.method).1
  have X0 : Stand p l e ({ frames := 0, cells := 0, slots := 0, locals := 0 } : Room) s m #[(.ref b), (.int (0 : Int32)), (.int cc)] below meth c s₁ [] 0 0 := Stand.of_body Bd
  have e0 : s₁.heap = h0 := by rw [← hh, Bd.state]; rfl
  have N0 := Fr.nil n0
  have KP : Keep h0 h0 [b] := Keep.refl _ _
  refine own_start (Fin := (own_Fin s (own_QPC_1_0 Z u0 u1 cc G1 b kb h0 n0) ({ frames := 0, cells := 0, slots := 0, locals := 0 } : Room).cells ({ frames := 0, cells := 0, slots := 0, locals := 0 } : Room).slots)) (own_from (mkF m 0 #[rv b, iv 0, iv cc] []) (castTop (own_ef_PC_1_0 m b (0 : Int32) cc)) ?_)
  obtain ⟨T14, X14, e14, st14⟩ := getS2 X0 hx hZ hown (host := "") (Or.inl (own_w hw 97 rfl)) Via.refl e0 (OAD.ext OL.2) (g := (mkF m 0 #[rv b, iv 0, iv cc] [])) rfl (hb hby own_d59)
  refine own_to (mkF m 3 #[rv b, iv 0, iv cc] [(.int (1 : Int32))]) st14 ?_
  refine own_ifY 28 X14 hx (hb hby own_d60) ((if0 _ _).trans (feq (by decide : ¬ ((1 : Int32) = (0 : Int32)))).2) (by decide) (by decide) ?_
  refine own_iln 29 X14 hx (hb hby own_d61) rfl rfl ?_
  refine own_ic 30 1 X14 hx (hb hby own_d62) rfl rfl ?_
  refine own_ishl 31 X14 hx (hb hby own_d63) (z := (0 : Int32)) rfl rfl ?_
  refine own_isn 32 #[rv b, iv 0, iv cc] X14 hx (hb hby own_d64) rfl rfl ?_
  refine own_aln 33 X14 hx (hb hby own_d65) rfl rfl rfl ?_
  refine own_iln 34 X14 hx (hb hby own_d66) rfl rfl ?_
  refine own_inc 37 #[rv b, iv 1, iv cc] X14 hx (hb hby own_d67) rfl rfl rfl ?_
  refine own_iln 38 X14 hx (hb hby own_d68) rfl rfl ?_
  obtain ⟨T15, X15, e15, st15⟩ := getS2 X14 hx hZ hown (host := "") (Or.inl (own_w hw 98 rfl)) Via.refl e14 (OHI.ext OL.2) (g := (mkF m 38 #[rv b, iv 1, iv cc] [(.int cc), (.int (0 : Int32)), (.ref b)])) rfl (hb hby own_d69)
  refine own_to (mkF m 41 #[rv b, iv 1, iv cc] [(.int (0 : Int32)), (.int cc), (.int (0 : Int32)), (.ref b)]) st15 ?_
  refine own_ishr 42 X15 hx (hb hby own_d70) rfl rfl ?_
  refine own_i2b 43 X15 hx (hb hby own_d71) rfl rfl ?_
  obtain ⟨cl16, Ar16, q16, S16, M16, H16, G16⟩ := id Vb
  obtain ⟨T16, h16, X16, e16, W16, st16⟩ := stB X15 hx hZ e15 Ar16 (j := (0 : Int32)) (inb_of S16 ⟨by decide, by decide⟩) (g := (mkF m 43 #[rv b, iv 1, iv cc] [(.int ((cc >>> ((0 : Int32) &&& 31)).toInt8.toInt32)), (.int (0 : Int32)), (.ref b)])) rfl rfl (hb hby own_d72)
  refine own_to (mkF m 44 #[rv b, iv 1, iv cc] []) st16 ?_
  have N16 := Fr.snoc X16 N0 ge_b
  have tmp16 : Arv Z h16 b kb .byte (2 : Int32) [(.int (((cc >>> ((0 : Int32) &&& 31)).toInt8.toInt32).toInt8.toInt32)), (.int u1)] (.int (0 : Int32)) := Arv.set Ar16 q16 S16 M16 H16 G16 (fits_nar_byte _) W16 0 rfl (Nat.le_of_ble_eq_true rfl)
  rw [own_b8] at tmp16
  have OL := OL.wr W16 ge_b
  have KP := KP.wr W16 (Or.inl (List.mem_of_getElem? (i := 0) rfl))
  have Vb := tmp16
  refine own_aln 45 X16 hx (hb hby own_d73) rfl rfl rfl ?_
  refine own_iln 46 X16 hx (hb hby own_d74) rfl rfl ?_
  refine own_iln 47 X16 hx (hb hby own_d75) rfl rfl ?_
  obtain ⟨T17, X17, e17, st17⟩ := getS2 X16 hx hZ hown (host := "") (Or.inl (own_w hw 99 rfl)) Via.refl e16 (OLO.ext OL.2) (g := (mkF m 47 #[rv b, iv 1, iv cc] [(.int cc), (.int (1 : Int32)), (.ref b)])) rfl (hb hby own_d76)
  refine own_to (mkF m 50 #[rv b, iv 1, iv cc] [(.int (8 : Int32)), (.int cc), (.int (1 : Int32)), (.ref b)]) st17 ?_
  refine own_ishr 51 X17 hx (hb hby own_d77) rfl rfl ?_
  refine own_i2b 52 X17 hx (hb hby own_d78) rfl rfl ?_
  obtain ⟨cl18, Ar18, q18, S18, M18, H18, G18⟩ := id Vb
  obtain ⟨T18, h18, X18, e18, W18, st18⟩ := stB X17 hx hZ e17 Ar18 (j := (1 : Int32)) (inb_of S18 ⟨by decide, by decide⟩) (g := (mkF m 52 #[rv b, iv 1, iv cc] [(.int ((cc >>> ((8 : Int32) &&& 31)).toInt8.toInt32)), (.int (1 : Int32)), (.ref b)])) rfl rfl (hb hby own_d79)
  refine own_to (mkF m 53 #[rv b, iv 1, iv cc] []) st18 ?_
  have N18 := Fr.snoc X18 N16 ge_b
  have tmp18 : Arv Z h18 b kb .byte (2 : Int32) [(.int ((cc >>> ((0 : Int32) &&& 31)).toInt8.toInt32)), (.int (((cc >>> ((8 : Int32) &&& 31)).toInt8.toInt32).toInt8.toInt32))] (.int (0 : Int32)) := Arv.set Ar18 q18 S18 M18 H18 G18 (fits_nar_byte _) W18 1 rfl (Nat.le_of_ble_eq_true rfl)
  rw [own_b8] at tmp18
  have OL := OL.wr W18 ge_b
  have KP := KP.wr W18 (Or.inl (List.mem_of_getElem? (i := 0) rfl))
  have Vb := tmp18
  exact own_ret0 X18 hx Bd.returns hlk (hb hby own_d80) (by decide) (by decide) (by rw [e18]; exact ⟨rfl, N18, KP, Vb⟩)
def own_QTS_1 (Z : State) (x0 : Int32) (G1 : Int32) (a : Addr) (ka : ClassId) (h0 : Heap) (n0 : Nat) (v : Option Value) (h : Heap) (L : List Loc) : Prop := ∃ (b : Addr) (kb : ClassId), v = some (.ref b) ∧ Fr n0 L ∧ Keep h0 h [] ∧ n0 ≤ b ∧ h0.size ≤ b ∧ Arv Z h b kb .byte (2 : Int32) [(.int ((x0 >>> ((0 : Int32) &&& 31)).toInt8.toInt32)), (.int ((x0 >>> ((8 : Int32) &&& 31)).toInt8.toInt32))] (.int (0 : Int32))
set_option maxRecDepth 65536 in
set_option maxHeartbeats 40000000 in
theorem own_rmTS_1 (l : Launch) (Z : State) (a0 : Array Value) (hw : ∀ d ∈ tables_1, d.before a0 Z = true) (ws : List Jvm.Cond) (x0 : Int32) (G1 : Int32) (a : Addr) (ka : ClassId) (h0 : Heap) (n0 : Nat) (Z0 : n0 ≤ h0.size) (OL : Old Z n0 h0) (Va : Arv Z h0 a ka .char (1 : Int32) [(.int x0)] (.int (0 : Int32))) (O2 : Sta Z Z.heap "java/lang/String" "COMPACT_STRINGS" "Z" (.int G1)) (P5 : ¬ (G1 = (0 : Int32))) (OAD : Sta Z Z.heap "java/lang/StringUTF16" "$assertionsDisabled" "Z" (.int (1 : Int32))) (OHI : Sta Z Z.heap "java/lang/StringUTF16" "HI_BYTE_SHIFT" "I" (.int (0 : Int32))) (OLO : Sta Z Z.heap "java/lang/StringUTF16" "LO_BYTE_SHIFT" "I" (.int (8 : Int32))) :
    own_MF l (⟨"java/lang/StringUTF16", "toBytes", "([CII)[B"⟩ : MethodName) (Jvm.Cond.code (⟨"java/lang/StringUTF16", "toBytes", "([CII)[B"⟩ : MethodName) jdk_52_method_14_code 5 (some (.array .byte)) :: ws) ({ frames := 2, cells := 1, slots := 2, locals := 40 } : Room) #[(.ref a), (.int (0 : Int32)), (.int (1 : Int32))] Z h0 (own_QTS_1 Z x0 G1 a ka h0 n0) := by
  refine MetFree.of_bodySF (plainFor_of_name own_pn1) hisR ?_
  intro p e s m args below meth c s₁ Bd hml0 hP hK
  obtain ⟨rfl, hZ, hh⟩ := hP
  have hx := Bd.exec
  have hby := Bd.bytes
  have hlk : meth.locks = false := BodyLoose.notSynchronized Bd
  have hml : c.maxLocals = 5 := hml0
  have hown : s.vm.findClass "java/lang/StringUTF16" = some m.cls := findClass_of_methodNamed Bd.named
  have hnm := (name_of_methodNamed Bd.named Bd.method).1
  have X0 : Stand p l e ({ frames := 2, cells := 1, slots := 2, locals := 40 } : Room) s m #[(.ref a), (.int (0 : Int32)), (.int (1 : Int32))] below meth c s₁ [] 0 0 := Stand.of_body Bd
  have e0 : s₁.heap = h0 := by rw [← hh, Bd.state]; rfl
  have N0 := Fr.nil n0
  have KP : Keep h0 h0 [] := Keep.refl _ _
  refine own_start (Fin := (own_Fin s (own_QTS_1 Z x0 G1 a ka h0 n0) ({ frames := 2, cells := 1, slots := 2, locals := 40 } : Room).cells ({ frames := 2, cells := 1, slots := 2, locals := 40 } : Room).slots)) (own_from (mkF m 0 #[rv a, iv 0, iv 1, .unset, .unset] []) (castTop (own_ef_TS_1 m a (0 : Int32) (1 : Int32))) ?_)
  refine own_iln 1 X0 hx (hb hby own_d81) rfl rfl ?_
  have KP0 := KP
  have lt0_a := Va.lt
  obtain ⟨_, T19, Lc19, X19, hQ19, st19⟩ := own_callS X0 hx (y := (⟨"java/lang/StringUTF16", "newBytesFor", "(I)[B"⟩ : MethodName)) hown (mvT hZ (own_w hw 87 rfl)) (mvT hZ (own_w hw 88 rfl)) (mvT hZ (own_w hw 24 rfl)) (mvT hZ (own_w hw 89 rfl)) (by decide) (backOf (W := 0) (own_rmNF_1 l Z a0 hw [] h0 n0 (Nat.le_trans Z0 KP.1) OL) hZ (own_w hw 89 rfl) (own_w hw 24 rfl) (by decide) (by decide)) (g := (mkF m 1 #[rv a, iv 0, iv 1, .unset, .unset] [(.int (1 : Int32))])) rfl (by rw [hml]; rfl) (argsL := [(.int (1 : Int32))]) (rest := []) (lenOf own_pd2 rfl) rfl (by show 2 * 0 + _ ≤ _; exact Nat.le_of_eq rfl) (hb hby own_d82) rfl e0 (kc := 1) (ks := 2) rfl rfl (by decide) (by decide)
  obtain ⟨bu, kbu, rfl, N19q, K19, ge_bu, sz0_bu, V0_bu⟩ := hQ19
  have N19 := Fr.app N0 N19q
  have OL := OL.keep K19 all0
  have KP := KP.trans K19 all0
  have Va := Va.keep K19 nin0
  refine own_to (mkF m 4 #[rv a, iv 0, iv 1, .unset, .unset] [(.ref bu)]) st19 ?_
  have sz_bu : h0.size ≤ bu := Nat.le_trans KP0.1 sz0_bu
  have ne_a_bu : a ≠ bu := Nat.ne_of_lt (Nat.lt_of_lt_of_le lt0_a sz0_bu)
  have Vu : Arv Z T19.heap bu kbu .byte (2 : Int32) [(.int (0 : Int32)), (.int (0 : Int32))] (.int (0 : Int32)) := V0_bu
  refine own_asn 5 #[rv a, iv 0, iv 1, rv bu, .unset] X19 hx (hb hby own_d83) rfl rfl rfl ?_
  refine own_ic 6 0 X19 hx (hb hby own_d84) rfl rfl ?_
  refine own_is 8 #[rv a, iv 0, iv 1, rv bu, iv 0] X19 hx (hb hby own_d85) rfl rfl ?_
  refine own_il 10 X19 hx (hb hby own_d86) rfl rfl ?_
  refine own_iln 11 X19 hx (hb hby own_d87) rfl rfl ?_
  refine own_icN 14 X19 hx (hb hby own_d88) (tlt (by decide : (0 : Int32) < (1 : Int32))).2.1 rfl ?_
  refine own_aln 15 X19 hx (hb hby own_d89) rfl rfl rfl ?_
  refine own_il 17 X19 hx (hb hby own_d90) rfl rfl ?_
  refine own_aln 18 X19 hx (hb hby own_d91) rfl rfl rfl ?_
  refine own_iln 19 X19 hx (hb hby own_d92) rfl rfl ?_
  obtain ⟨cl20, Ar20, -, S20, -, H20, -⟩ := id Va
  refine own_to (mkF m 20 #[rv a, iv 0, iv 1, rv bu, iv 0] [(.int x0), (.int (0 : Int32)), (.ref bu)]) (X19.caload hx (j := (0 : Int32)) (v := (.int x0)) Ar20.1 (State.isArrayOf_alike hZ.alike Ar20.2.1) Ar20.2.2 (inb_of S20 ⟨by decide, by decide⟩) (H20.at (inb_of S20 ⟨by decide, by decide⟩) rfl) (g := (mkF m 19 #[rv a, iv 0, iv 1, rv bu, iv 0] [(.int (0 : Int32)), (.ref a), (.int (0 : Int32)), (.ref bu)])) rfl rfl (hb hby own_d93)) ?_
  obtain ⟨_, T21, Lc21, X21, hQ21, st21⟩ := own_callS X19 hx (y := (⟨"java/lang/StringUTF16", "putChar", "([BII)V"⟩ : MethodName)) hown (mvT hZ (own_w hw 94 rfl)) (mvT hZ (own_w hw 95 rfl)) (mvT hZ (own_w hw 24 rfl)) (mvT hZ (own_w hw 96 rfl)) (by decide) (backOf (W := 0) (own_rmPC_1_0 l Z a0 hw [] (0 : Int32) (0 : Int32) x0 G1 bu kbu T19.heap n0 (Nat.le_trans Z0 KP.1) OL ge_bu Vu O2 P5 OAD OHI OLO) hZ (own_w hw 96 rfl) (own_w hw 24 rfl) (by decide) (by decide)) (g := (mkF m 20 #[rv a, iv 0, iv 1, rv bu, iv 0] [(.int x0), (.int (0 : Int32)), (.ref bu)])) rfl (by rw [hml]; rfl) (argsL := [(.ref bu), (.int (0 : Int32)), (.int x0)]) (rest := []) (lenOf own_pd3 rfl) rfl (by show 2 * 0 + _ ≤ _; exact Nat.le_of_eq rfl) (hb hby own_d94) rfl rfl (kc := 1) (ks := 2) rfl rfl (by decide) (by decide)
  obtain ⟨rfl, N21q, K21, Vq21⟩ := hQ21
  have N21 := Fr.app N19 N21q
  have OL := OL.keep K21 (allS ge_bu all0)
  have KP := KP.trans K21 (allS (Or.inr sz_bu) all0)
  have Va := Va.keep K21 (ninS ne_a_bu nin0)
  refine own_to (mkF m 23 #[rv a, iv 0, iv 1, rv bu, iv 0] []) st21 ?_
  have Vu : Arv Z T21.heap bu kbu .byte (2 : Int32) [(.int ((x0 >>> ((0 : Int32) &&& 31)).toInt8.toInt32)), (.int ((x0 >>> ((8 : Int32) &&& 31)).toInt8.toInt32))] (.int (0 : Int32)) := Vq21
  refine own_inc 26 #[rv a, iv 1, iv 1, rv bu, iv 0] X21 hx (hb hby own_d95) rfl rfl rfl ?_
  refine own_inc 29 #[rv a, iv 1, iv 1, rv bu, iv 1] X21 hx (hb hby own_d96) rfl rfl rfl ?_
  refine own_go 8 X21 hx (hb hby own_d97) (by decide) (by decide) ?_
  refine own_il 10 X21 hx (hb hby own_d86) rfl rfl ?_
  refine own_iln 11 X21 hx (hb hby own_d87) rfl rfl ?_
  refine own_icY 32 X21 hx (hb hby own_d88) (flt (by decide : ¬ ((1 : Int32) < (1 : Int32)))).2.1 (by decide) (by decide) ?_
  refine own_aln 33 X21 hx (hb hby own_d98) rfl rfl rfl ?_
  exact own_retA X21 hx Bd.returns rfl hlk (hb hby own_d99) rfl (by decide) (by decide) (by exact ⟨bu, kbu, rfl, N21, KP, ge_bu, sz_bu, Vu⟩)
def own_QGC_1_0 (Z : State) (x0 : Int32) (G1 : Int32) (b : Addr) (kb : ClassId) (h0 : Heap) (n0 : Nat) (v : Option Value) (h : Heap) (L : List Loc) : Prop := v = some (.int x0) ∧ Fr n0 L ∧ h = h0
set_option maxRecDepth 65536 in
set_option maxHeartbeats 40000000 in
theorem own_rmGC_1_0 (l : Launch) (Z : State) (a0 : Array Value) (hw : ∀ d ∈ tables_1, d.before a0 Z = true) (ws : List Jvm.Cond) (x0 : Int32) (G1 : Int32) (b : Addr) (kb : ClassId) (h0 : Heap) (n0 : Nat) (Z0 : n0 ≤ h0.size) (OL : Old Z n0 h0) (hx0 : own_C16 x0) (Vb : Arv Z h0 b kb .byte (2 : Int32) [(.int ((x0 >>> ((0 : Int32) &&& 31)).toInt8.toInt32)), (.int ((x0 >>> ((8 : Int32) &&& 31)).toInt8.toInt32))] (.int (0 : Int32))) (O2 : Sta Z Z.heap "java/lang/String" "COMPACT_STRINGS" "Z" (.int G1)) (P5 : ¬ (G1 = (0 : Int32))) (OAD : Sta Z Z.heap "java/lang/StringUTF16" "$assertionsDisabled" "Z" (.int (1 : Int32))) (OHI : Sta Z Z.heap "java/lang/StringUTF16" "HI_BYTE_SHIFT" "I" (.int (0 : Int32))) (OLO : Sta Z Z.heap "java/lang/StringUTF16" "LO_BYTE_SHIFT" "I" (.int (8 : Int32))) :
    own_MF l (⟨"java/lang/StringUTF16", "getChar", "([BI)C"⟩ : MethodName) (Jvm.Cond.code (⟨"java/lang/StringUTF16", "getChar", "([BI)C"⟩ : MethodName) jdk_52_method_5_code 2 (some .char) :: ws) ({ frames := 0, cells := 0, slots := 0, locals := 0 } : Room) #[(.ref b), (.int (0 : Int32))] Z h0 (own_QGC_1_0 Z x0 G1 b kb h0 n0) := by
  refine MetFree.of_bodySF (plainFor_of_name own_pn1) hisR ?_
  intro p e s m args below meth c s₁ Bd hml0 hP hK
  obtain ⟨rfl, hZ, hh⟩ := hP
  have hx := Bd.exec
  have hby := Bd.bytes
  have hlk : meth.locks = false := BodyLoose.notSynchronized Bd
  have hml : c.maxLocals = 2 := hml0
  have hown : s.vm.findClass "java/lang/StringUTF16" = some m.cls := findClass_of_methodNamed Bd.named
  have hnm := (name_of_methodNamed Bd.named Bd.method).1
  have X0 : Stand p l e ({ frames := 0, cells := 0, slots := 0, locals := 0 } : Room) s m #[(.ref b), (.int (0 : Int32))] below meth c s₁ [] 0 0 := Stand.of_body Bd
  have e0 : s₁.heap = h0 := by rw [← hh, Bd.state]; rfl
  have N0 := Fr.nil n0
  have KP : Keep h0 h0 [] := Keep.refl _ _
  refine own_start (Fin := (own_Fin s (own_QGC_1_0 Z x0 G1 b kb h0 n0) ({ frames := 0, cells := 0, slots := 0, locals := 0 } : Room).cells ({ frames := 0, cells := 0, slots := 0, locals := 0 } : Room).slots)) (own_from (mkF m 0 #[rv b, iv 0] []) (castTop (own_ef_GC_1_0 m b (0 : Int32))) ?_)
  obtain ⟨T22, X22, e22, st22⟩ := getS2 X0 hx hZ hown (host := "") (Or.inl (own_w hw 97 rfl)) Via.refl e0 (OAD.ext OL.2) (g := (mkF m 0 #[rv b, iv 0] [])) rfl (hb hby own_d100)
  refine own_to (mkF m 3 #[rv b, iv 0] [(.int (1 : Int32))]) st22 ?_
  refine own_ifY 28 X22 hx (hb hby own_d101) ((if0 _ _).trans (feq (by decide : ¬ ((1 : Int32) = (0 : Int32)))).2) (by decide) (by decide) ?_
  refine own_iln 29 X22 hx (hb hby own_d102) rfl rfl ?_
  refine own_ic 30 1 X22 hx (hb hby own_d103) rfl rfl ?_
  refine own_ishl 31 X22 hx (hb hby own_d104) (z := (0 : Int32)) rfl rfl ?_
  refine own_isn 32 #[rv b, iv 0] X22 hx (hb hby own_d105) rfl rfl ?_
  refine own_aln 33 X22 hx (hb hby own_d106) rfl rfl rfl ?_
  refine own_iln 34 X22 hx (hb hby own_d107) rfl rfl ?_
  refine own_inc 37 #[rv b, iv 1] X22 hx (hb hby own_d108) rfl rfl rfl ?_
  obtain ⟨cl23, Ar23, -, S23, -, H23, -⟩ := id Vb
  refine own_to (mkF m 38 #[rv b, iv 1] [(.int ((x0 >>> ((0 : Int32) &&& 31)).toInt8.toInt32))]) (X22.baloadBytes hx (j := (0 : Int32)) (v := (.int ((x0 >>> ((0 : Int32) &&& 31)).toInt8.toInt32))) (by rw [e22]; exact Ar23.1) (State.isArrayOf_alike hZ.alike Ar23.2.1) Ar23.2.2 (inb_of S23 ⟨by decide, by decide⟩) (H23.at (inb_of S23 ⟨by decide, by decide⟩) rfl) (g := (mkF m 37 #[rv b, iv 1] [(.int (0 : Int32)), (.ref b)])) rfl rfl (hb hby own_d109)) ?_
  refine own_si 41 255 X22 hx (hb hby own_d110) rfl rfl ?_
  refine own_iand 42 X22 hx (hb hby own_d111) rfl rfl ?_
  obtain ⟨T24, X24, e24, st24⟩ := getS2 X22 hx hZ hown (host := "") (Or.inl (own_w hw 98 rfl)) Via.refl e22 (OHI.ext OL.2) (g := (mkF m 42 #[rv b, iv 1] [(.int (((x0 >>> ((0 : Int32) &&& 31)).toInt8.toInt32) &&& (255 : Int32)))])) rfl (hb hby own_d112)
  refine own_to (mkF m 45 #[rv b, iv 1] [(.int (0 : Int32)), (.int (((x0 >>> ((0 : Int32) &&& 31)).toInt8.toInt32) &&& (255 : Int32)))]) st24 ?_
  refine own_ishl 46 X24 hx (hb hby own_d113) rfl rfl ?_
  refine own_aln 47 X24 hx (hb hby own_d114) rfl rfl rfl ?_
  refine own_iln 48 X24 hx (hb hby own_d115) rfl rfl ?_
  obtain ⟨cl25, Ar25, -, S25, -, H25, -⟩ := id Vb
  refine own_to (mkF m 49 #[rv b, iv 1] [(.int ((x0 >>> ((8 : Int32) &&& 31)).toInt8.toInt32)), (.int ((((x0 >>> ((0 : Int32) &&& 31)).toInt8.toInt32) &&& (255 : Int32)) <<< ((0 : Int32) &&& 31)))]) (X24.baloadBytes hx (j := (1 : Int32)) (v := (.int ((x0 >>> ((8 : Int32) &&& 31)).toInt8.toInt32))) (by rw [e24]; exact Ar25.1) (State.isArrayOf_alike hZ.alike Ar25.2.1) Ar25.2.2 (inb_of S25 ⟨by decide, by decide⟩) (H25.at (inb_of S25 ⟨by decide, by decide⟩) rfl) (g := (mkF m 48 #[rv b, iv 1] [(.int (1 : Int32)), (.ref b), (.int ((((x0 >>> ((0 : Int32) &&& 31)).toInt8.toInt32) &&& (255 : Int32)) <<< ((0 : Int32) &&& 31)))])) rfl rfl (hb hby own_d116)) ?_
  refine own_si 52 255 X24 hx (hb hby own_d117) rfl rfl ?_
  refine own_iand 53 X24 hx (hb hby own_d118) rfl rfl ?_
  obtain ⟨T26, X26, e26, st26⟩ := getS2 X24 hx hZ hown (host := "") (Or.inl (own_w hw 99 rfl)) Via.refl e24 (OLO.ext OL.2) (g := (mkF m 53 #[rv b, iv 1] [(.int (((x0 >>> ((8 : Int32) &&& 31)).toInt8.toInt32) &&& (255 : Int32))), (.int ((((x0 >>> ((0 : Int32) &&& 31)).toInt8.toInt32) &&& (255 : Int32)) <<< ((0 : Int32) &&& 31)))])) rfl (hb hby own_d119)
  refine own_to (mkF m 56 #[rv b, iv 1] [(.int (8 : Int32)), (.int (((x0 >>> ((8 : Int32) &&& 31)).toInt8.toInt32) &&& (255 : Int32))), (.int ((((x0 >>> ((0 : Int32) &&& 31)).toInt8.toInt32) &&& (255 : Int32)) <<< ((0 : Int32) &&& 31)))]) st26 ?_
  refine own_ishl 57 X26 hx (hb hby own_d120) rfl rfl ?_
  refine own_ior 58 X26 hx (hb hby own_d121) rfl rfl ?_
  refine own_i2c 59 X26 hx (hb hby own_d122) rfl rfl ?_
  exact own_retN X26 hx (t := .char) Bd.returns (by simp) hlk (hb hby own_d123) (by decide) (by decide) (by rw [e26]; exact ⟨by rw [own_hi hx0, own_nar16 hx0], N0, rfl⟩)
def own_QC3_1 (Z : State) (x0 : Int32) (G1 : Int32) (a : Addr) (ka : ClassId) (h0 : Heap) (n0 : Nat) (v : Option Value) (h : Heap) (L : List Loc) : Prop := ∃ (b : Addr) (kb : ClassId), v = some (.ref b) ∧ Fr n0 L ∧ Keep h0 h [] ∧ n0 ≤ b ∧ h0.size ≤ b ∧ ((¬ ((255 : Int32) < x0) ∧ Arv Z h b kb .byte (1 : Int32) [(.int (x0.toInt8.toInt32))] (.int (0 : Int32))) ∨ Arv Z h b kb .byte (2 : Int32) [(.int ((x0 >>> ((0 : Int32) &&& 31)).toInt8.toInt32)), (.int ((x0 >>> ((8 : Int32) &&& 31)).toInt8.toInt32))] (.int (0 : Int32)))
set_option maxRecDepth 65536 in
set_option maxHeartbeats 40000000 in
theorem own_rmC3_1 (l : Launch) (Z : State) (a0 : Array Value) (hw : ∀ d ∈ tables_1, d.before a0 Z = true) (ws : List Jvm.Cond) (x0 : Int32) (G1 : Int32) (a : Addr) (ka : ClassId) (h0 : Heap) (n0 : Nat) (Z0 : n0 ≤ h0.size) (OL : Old Z n0 h0) (hx0 : own_C16 x0) (Va : Arv Z h0 a ka .char (1 : Int32) [(.int x0)] (.int (0 : Int32))) (O2 : Sta Z Z.heap "java/lang/String" "COMPACT_STRINGS" "Z" (.int G1)) (P5 : ¬ (G1 = (0 : Int32))) (OAD : Sta Z Z.heap "java/lang/StringUTF16" "$assertionsDisabled" "Z" (.int (1 : Int32))) (OHI : Sta Z Z.heap "java/lang/StringUTF16" "HI_BYTE_SHIFT" "I" (.int (0 : Int32))) (OLO : Sta Z Z.heap "java/lang/StringUTF16" "LO_BYTE_SHIFT" "I" (.int (8 : Int32))) :
    own_MF l (⟨"java/lang/StringUTF16", "compress", "([CII)[B"⟩ : MethodName) (Jvm.Cond.code (⟨"java/lang/StringUTF16", "compress", "([CII)[B"⟩ : MethodName) jdk_52_method_16_code 6 (some (.array .byte)) :: ws) ({ frames := 3, cells := 2, slots := 3, locals := 70 } : Room) #[(.ref a), (.int (0 : Int32)), (.int (1 : Int32))] Z h0 (own_QC3_1 Z x0 G1 a ka h0 n0) := by
  refine MetFree.of_bodySF (plainFor_of_name own_pn1) hisR ?_
  intro p e s m args below meth c s₁ Bd hml0 hP hK
  obtain ⟨rfl, hZ, hh⟩ := hP
  have hx := Bd.exec
  have hby := Bd.bytes
  have hlk : meth.locks = false := BodyLoose.notSynchronized Bd
  have hml : c.maxLocals = 6 := hml0
  have hown : s.vm.findClass "java/lang/StringUTF16" = some m.cls := findClass_of_methodNamed Bd.named
  have hnm := (name_of_methodNamed Bd.named Bd.method).1
  have X0 : Stand p l e ({ frames := 3, cells := 2, slots := 3, locals := 70 } : Room) s m #[(.ref a), (.int (0 : Int32)), (.int (1 : Int32))] below meth c s₁ [] 0 0 := Stand.of_body Bd
  have e0 : s₁.heap = h0 := by rw [← hh, Bd.state]; rfl
  have N0 := Fr.nil n0
  have KP : Keep h0 h0 [] := Keep.refl _ _
  refine own_start (Fin := (own_Fin s (own_QC3_1 Z x0 G1 a ka h0 n0) ({ frames := 3, cells := 2, slots := 3, locals := 70 } : Room).cells ({ frames := 3, cells := 2, slots := 3, locals := 70 } : Room).slots)) (own_from (mkF m 0 #[rv a, iv 0, iv 1, .unset, .unset, .unset] []) (castTop (own_ef_C3_1 m a (0 : Int32) (1 : Int32))) ?_)
  refine own_iln 1 X0 hx (hb hby own_d124) rfl rfl ?_
  obtain ⟨T27, h27, k27, X27, e27, E27, A27, B27, st27⟩ := newPE X0 hx hZ (own_w hw 26 rfl) e0 (g := (mkF m 1 #[rv a, iv 0, iv 1, .unset, .unset, .unset] [(.int (1 : Int32))])) rfl (hb hby own_d125) rfl (by decide) (cap := 1) (by decide) (by decide) (by decide) (by decide) (ad := "[B") (by decide)
  obtain ⟨b27, g27⟩ : ∃ z, z = h0.size := ⟨_, rfl⟩
  rw [← g27] at A27 B27 st27
  have sz_b27 : h0.size ≤ b27 := Nat.le_trans KP.1 (Nat.le_of_eq g27.symm)
  have ge_b27 : n0 ≤ b27 := Nat.le_trans Z0 sz_b27
  have ne_a_b27 : a ≠ b27 := Nat.ne_of_lt (Nat.lt_of_lt_of_le Va.lt (Nat.le_of_eq g27.symm))
  have OL := OL.ext E27
  have KP := KP.ext E27
  have Va := Va.ext E27
  have V_b27 : Arv Z h27 b27 k27 .byte (1 : Int32) [(.int (0 : Int32))] (.int (0 : Int32)) := (Arv.new A27 (by decide)).pad (pad_rep [] (.int (0 : Int32)) 1)
  refine own_to (mkF m 3 #[rv a, iv 0, iv 1, .unset, .unset, .unset] [(.ref b27)]) st27 ?_
  refine own_asn 4 #[rv a, iv 0, iv 1, rv b27, .unset, .unset] X27 hx (hb hby own_d126) rfl rfl rfl ?_
  refine own_aln 5 X27 hx (hb hby own_d127) rfl rfl rfl ?_
  refine own_iln 6 X27 hx (hb hby own_d128) rfl rfl ?_
  refine own_aln 7 X27 hx (hb hby own_d129) rfl rfl rfl ?_
  refine own_ic 8 0 X27 hx (hb hby own_d130) rfl rfl ?_
  refine own_iln 9 X27 hx (hb hby own_d131) rfl rfl ?_
  obtain ⟨_, T28, Lc28, X28, hQ28, st28⟩ := own_callS X27 hx (y := (⟨"java/lang/StringUTF16", "compress", "([CI[BII)I"⟩ : MethodName)) hown (mvT hZ (own_w hw 27 rfl)) (mvT hZ (own_w hw 28 rfl)) (mvT hZ (own_w hw 24 rfl)) (mvT hZ (own_w hw 29 rfl)) (by decide) (backOf (W := 0) (own_rmC5_1 l Z a0 hw [] x0 a ka b27 k27 h27 n0 (Nat.le_trans Z0 KP.1) OL ne_a_b27 ge_b27 Va V_b27) hZ (own_w hw 29 rfl) (own_w hw 24 rfl) (by decide) (by decide)) (g := (mkF m 9 #[rv a, iv 0, iv 1, rv b27, .unset, .unset] [(.int (1 : Int32)), (.int (0 : Int32)), (.ref b27), (.int (0 : Int32)), (.ref a)])) rfl (by rw [hml]; rfl) (argsL := [(.ref a), (.int (0 : Int32)), (.ref b27), (.int (0 : Int32)), (.int (1 : Int32))]) (rest := []) (lenOf own_pd4 rfl) rfl (by show 2 * 0 + _ ≤ _; exact Nat.le_of_eq rfl) (hb hby own_d132) rfl e27 (kc := 1) (ks := 1) rfl rfl (by decide) (by decide)
  obtain ⟨N28q, K28, hor28⟩ := hQ28
  have N28 := Fr.app N0 N28q
  have OL := OL.keep K28 (allS ge_b27 all0)
  have KP := KP.trans K28 (allS (Or.inr sz_b27) all0)
  have Va := Va.keep K28 (ninS ne_a_b27 nin0)
  rcases hor28 with ⟨rfl, hg0, Vg⟩ | ⟨rfl, hbad⟩
  · refine own_to (mkF m 12 #[rv a, iv 0, iv 1, rv b27, .unset, .unset] [(.int (1 : Int32))]) st28 ?_
    refine own_is 14 #[rv a, iv 0, iv 1, rv b27, iv 1, .unset] X28 hx (hb hby own_d133) rfl rfl ?_
    refine own_il 16 X28 hx (hb hby own_d134) rfl rfl ?_
    refine own_iln 17 X28 hx (hb hby own_d135) rfl rfl ?_
    refine own_icY 57 X28 hx (hb hby own_d136) (teq (by decide : (1 : Int32) = (1 : Int32))).1 (by decide) (by decide) ?_
    refine own_aln 58 X28 hx (hb hby own_d137) rfl rfl rfl ?_
    exact own_retA X28 hx Bd.returns rfl hlk (hb hby own_d138) rfl (by decide) (by decide) (by exact ⟨b27, k27, rfl, N28, KP, ge_b27, sz_b27, Or.inl ⟨hg0, Vg⟩⟩)
  · refine own_to (mkF m 12 #[rv a, iv 0, iv 1, rv b27, .unset, .unset] [(.int (0 : Int32))]) st28 ?_
    refine own_is 14 #[rv a, iv 0, iv 1, rv b27, iv 0, .unset] X28 hx (hb hby own_d133) rfl rfl ?_
    refine own_il 16 X28 hx (hb hby own_d134) rfl rfl ?_
    refine own_iln 17 X28 hx (hb hby own_d135) rfl rfl ?_
    refine own_icN 20 X28 hx (hb hby own_d136) (feq (by decide : ¬ ((0 : Int32) = (1 : Int32)))).1 rfl ?_
    refine own_aln 21 X28 hx (hb hby own_d139) rfl rfl rfl ?_
    refine own_iln 22 X28 hx (hb hby own_d140) rfl rfl ?_
    refine own_iln 23 X28 hx (hb hby own_d141) rfl rfl ?_
    have KP0 := KP
    have lt0_a := Va.lt
    obtain ⟨_, T29, Lc29, X29, hQ29, st29⟩ := own_callS X28 hx (y := (⟨"java/lang/StringUTF16", "toBytes", "([CII)[B"⟩ : MethodName)) hown (mvT hZ (own_w hw 84 rfl)) (mvT hZ (own_w hw 85 rfl)) (mvT hZ (own_w hw 24 rfl)) (mvT hZ (own_w hw 86 rfl)) (by decide) (backOf (W := 0) (own_rmTS_1 l Z a0 hw [] x0 G1 a ka T28.heap n0 (Nat.le_trans Z0 KP.1) OL Va O2 P5 OAD OHI OLO) hZ (own_w hw 86 rfl) (own_w hw 24 rfl) (by decide) (by decide)) (g := (mkF m 23 #[rv a, iv 0, iv 1, rv b27, iv 0, .unset] [(.int (1 : Int32)), (.int (0 : Int32)), (.ref a)])) rfl (by rw [hml]; rfl) (argsL := [(.ref a), (.int (0 : Int32)), (.int (1 : Int32))]) (rest := []) (lenOf own_pd5 rfl) rfl (by show 2 * 0 + _ ≤ _; exact Nat.le_of_eq rfl) (hb hby own_d142) rfl rfl (kc := 2) (ks := 3) rfl rfl (by decide) (by decide)
    obtain ⟨bu, kbu, rfl, N29q, K29, ge_bu, sz0_bu, Vu⟩ := hQ29
    have N29 := Fr.app N28 N29q
    have OL := OL.keep K29 all0
    have KP := KP.trans K29 all0
    have Va := Va.keep K29 nin0
    refine own_to (mkF m 26 #[rv a, iv 0, iv 1, rv b27, iv 0, .unset] [(.ref bu)]) st29 ?_
    have sz_bu : h0.size ≤ bu := Nat.le_trans KP0.1 sz0_bu
    have ne_a_bu : a ≠ bu := Nat.ne_of_lt (Nat.lt_of_lt_of_le lt0_a sz0_bu)
    refine own_as 28 #[rv a, iv 0, iv 1, rv b27, iv 0, rv bu] X29 hx (hb hby own_d143) rfl rfl rfl ?_
    refine own_al 30 X29 hx (hb hby own_d144) rfl rfl rfl ?_
    refine own_il 32 X29 hx (hb hby own_d145) rfl rfl ?_
    obtain ⟨_, T30, Lc30, X30, hQ30, st30⟩ := own_callS X29 hx (y := (⟨"java/lang/StringUTF16", "getChar", "([BI)C"⟩ : MethodName)) hown (mvT hZ (own_w hw 100 rfl)) (mvT hZ (own_w hw 101 rfl)) (mvT hZ (own_w hw 24 rfl)) (mvT hZ (own_w hw 102 rfl)) (by decide) (backOf (W := 0) (own_rmGC_1_0 l Z a0 hw [] x0 G1 bu kbu T29.heap n0 (Nat.le_trans Z0 KP.1) OL hx0 Vu O2 P5 OAD OHI OLO) hZ (own_w hw 102 rfl) (own_w hw 24 rfl) (by decide) (by decide)) (g := (mkF m 32 #[rv a, iv 0, iv 1, rv b27, iv 0, rv bu] [(.int (0 : Int32)), (.ref bu)])) rfl (by rw [hml]; rfl) (argsL := [(.ref bu), (.int (0 : Int32))]) (rest := []) (lenOf own_pd6 rfl) rfl (by show 2 * 0 + _ ≤ _; exact Nat.le_of_eq rfl) (hb hby own_d146) rfl rfl (kc := 2) (ks := 3) rfl rfl (by decide) (by decide)
    obtain ⟨rfl, N30q, e30⟩ := hQ30
    have N30 := Fr.app N29 N30q
    refine own_to (mkF m 35 #[rv a, iv 0, iv 1, rv b27, iv 0, rv bu] [(.int x0)]) st30 ?_
    refine own_si 38 255 X30 hx (hb hby own_d147) rfl rfl ?_
    refine own_icY 54 X30 hx (hb hby own_d148) (tlt hbad).2.2.1 (by decide) (by decide) ?_
    refine own_al 56 X30 hx (hb hby own_d149) rfl rfl rfl ?_
    exact own_retA X30 hx Bd.returns rfl hlk (hb hby own_d150) rfl (by decide) (by decide) (by rw [e30]; exact ⟨bu, kbu, rfl, N30, KP, ge_bu, sz_bu, Or.inr Vu⟩)
def own_QCF_1_0 (Z : State) (x0 : Int32) (b : Addr) (kb : ClassId) (h0 : Heap) (n0 : Nat) (v : Option Value) (h : Heap) (L : List Loc) : Prop := v = some (.int (0 : Int32)) ∧ Fr n0 L ∧ h = h0
set_option maxRecDepth 65536 in
set_option maxHeartbeats 40000000 in
theorem own_rmCF_1_0 (l : Launch) (Z : State) (a0 : Array Value) (hw : ∀ d ∈ tables_1, d.before a0 Z = true) (ws : List Jvm.Cond) (x0 : Int32) (b : Addr) (kb : ClassId) (h0 : Heap) (n0 : Nat) (Z0 : n0 ≤ h0.size) (OL : Old Z n0 h0) (Vb : Arv Z h0 b kb .byte (1 : Int32) [(.int (x0.toInt8.toInt32))] (.int (0 : Int32))) :
    own_MF l (⟨"java/lang/StringUTF16", "coderFromArrayLen", "([BI)B"⟩ : MethodName) (Jvm.Cond.code (⟨"java/lang/StringUTF16", "coderFromArrayLen", "([BI)B"⟩ : MethodName) jdk_52_method_15_code 2 (some .byte) :: ws) ({ frames := 0, cells := 0, slots := 0, locals := 0 } : Room) #[(.ref b), (.int (1 : Int32))] Z h0 (own_QCF_1_0 Z x0 b kb h0 n0) := by
  refine MetFree.of_bodySF (plainFor_of_name own_pn1) hisR ?_
  intro p e s m args below meth c s₁ Bd hml0 hP hK
  obtain ⟨rfl, hZ, hh⟩ := hP
  have hx := Bd.exec
  have hby := Bd.bytes
  have hlk : meth.locks = false := BodyLoose.notSynchronized Bd
  have hml : c.maxLocals = 2 := hml0
  have hown : s.vm.findClass "java/lang/StringUTF16" = some m.cls := findClass_of_methodNamed Bd.named
  have hnm := (name_of_methodNamed Bd.named Bd.method).1
  have X0 : Stand p l e ({ frames := 0, cells := 0, slots := 0, locals := 0 } : Room) s m #[(.ref b), (.int (1 : Int32))] below meth c s₁ [] 0 0 := Stand.of_body Bd
  have e0 : s₁.heap = h0 := by rw [← hh, Bd.state]; rfl
  have N0 := Fr.nil n0
  have KP : Keep h0 h0 [] := Keep.refl _ _
  refine own_start (Fin := (own_Fin s (own_QCF_1_0 Z x0 b kb h0 n0) ({ frames := 0, cells := 0, slots := 0, locals := 0 } : Room).cells ({ frames := 0, cells := 0, slots := 0, locals := 0 } : Room).slots)) (own_from (mkF m 0 #[rv b, iv 1] []) (castTop (own_ef_CF_1_0 m b (1 : Int32))) ?_)
  refine own_iln 1 X0 hx (hb hby own_d151) rfl rfl ?_
  refine own_aln 2 X0 hx (hb hby own_d152) rfl rfl rfl ?_
  obtain ⟨cl31, Ar31, -, S31, M31, -, -⟩ := id Vb
  refine own_to (mkF m 3 #[rv b, iv 1] [(.int (1 : Int32)), (.int (1 : Int32))]) (by have q := X0.arraylength hx (by rw [e0]; exact Ar31.1) (State.isArrayOf_alike hZ.alike Ar31.2.1) (g := (mkF m 2 #[rv b, iv 1] [(.ref b), (.int (1 : Int32))])) rfl rfl (hb hby own_d153); rw [len_of S31 M31] at q; exact q) ?_
  refine own_isub 4 X0 hx (hb hby own_d154) (z := (0 : Int32)) rfl rfl ?_
  refine own_bi 6 31 X0 hx (hb hby own_d155) rfl rfl ?_
  refine own_iushr 7 X0 hx (hb hby own_d156) (z := (0 : Int32)) rfl rfl ?_
  refine own_i2b 8 X0 hx (hb hby own_d157) rfl rfl ?_
  exact own_retN X0 hx (t := .byte) Bd.returns (by simp) hlk (hb hby own_d158) (by decide) (by decide) (by rw [e0]; exact ⟨rfl, N0, rfl⟩)
def own_QCF_1_1 (Z : State) (x0 : Int32) (b : Addr) (kb : ClassId) (h0 : Heap) (n0 : Nat) (v : Option Value) (h : Heap) (L : List Loc) : Prop := v = some (.int (1 : Int32)) ∧ Fr n0 L ∧ h = h0
set_option maxRecDepth 65536 in
set_option maxHeartbeats 40000000 in
theorem own_rmCF_1_1 (l : Launch) (Z : State) (a0 : Array Value) (hw : ∀ d ∈ tables_1, d.before a0 Z = true) (ws : List Jvm.Cond) (x0 : Int32) (b : Addr) (kb : ClassId) (h0 : Heap) (n0 : Nat) (Z0 : n0 ≤ h0.size) (OL : Old Z n0 h0) (Vb : Arv Z h0 b kb .byte (2 : Int32) [(.int ((x0 >>> ((0 : Int32) &&& 31)).toInt8.toInt32)), (.int ((x0 >>> ((8 : Int32) &&& 31)).toInt8.toInt32))] (.int (0 : Int32))) :
    own_MF l (⟨"java/lang/StringUTF16", "coderFromArrayLen", "([BI)B"⟩ : MethodName) (Jvm.Cond.code (⟨"java/lang/StringUTF16", "coderFromArrayLen", "([BI)B"⟩ : MethodName) jdk_52_method_15_code 2 (some .byte) :: ws) ({ frames := 0, cells := 0, slots := 0, locals := 0 } : Room) #[(.ref b), (.int (1 : Int32))] Z h0 (own_QCF_1_1 Z x0 b kb h0 n0) := by
  refine MetFree.of_bodySF (plainFor_of_name own_pn1) hisR ?_
  intro p e s m args below meth c s₁ Bd hml0 hP hK
  obtain ⟨rfl, hZ, hh⟩ := hP
  have hx := Bd.exec
  have hby := Bd.bytes
  have hlk : meth.locks = false := BodyLoose.notSynchronized Bd
  have hml : c.maxLocals = 2 := hml0
  have hown : s.vm.findClass "java/lang/StringUTF16" = some m.cls := findClass_of_methodNamed Bd.named
  have hnm := (name_of_methodNamed Bd.named Bd.method).1
  have X0 : Stand p l e ({ frames := 0, cells := 0, slots := 0, locals := 0 } : Room) s m #[(.ref b), (.int (1 : Int32))] below meth c s₁ [] 0 0 := Stand.of_body Bd
  have e0 : s₁.heap = h0 := by rw [← hh, Bd.state]; rfl
  have N0 := Fr.nil n0
  have KP : Keep h0 h0 [] := Keep.refl _ _
  refine own_start (Fin := (own_Fin s (own_QCF_1_1 Z x0 b kb h0 n0) ({ frames := 0, cells := 0, slots := 0, locals := 0 } : Room).cells ({ frames := 0, cells := 0, slots := 0, locals := 0 } : Room).slots)) (own_from (mkF m 0 #[rv b, iv 1] []) (castTop (own_ef_CF_1_1 m b (1 : Int32))) ?_)
  refine own_iln 1 X0 hx (hb hby own_d151) rfl rfl ?_
  refine own_aln 2 X0 hx (hb hby own_d152) rfl rfl rfl ?_
  obtain ⟨cl32, Ar32, -, S32, M32, -, -⟩ := id Vb
  refine own_to (mkF m 3 #[rv b, iv 1] [(.int (2 : Int32)), (.int (1 : Int32))]) (by have q := X0.arraylength hx (by rw [e0]; exact Ar32.1) (State.isArrayOf_alike hZ.alike Ar32.2.1) (g := (mkF m 2 #[rv b, iv 1] [(.ref b), (.int (1 : Int32))])) rfl rfl (hb hby own_d153); rw [len_of S32 M32] at q; exact q) ?_
  refine own_isub 4 X0 hx (hb hby own_d154) (z := (-1 : Int32)) rfl rfl ?_
  refine own_bi 6 31 X0 hx (hb hby own_d155) rfl rfl ?_
  refine own_iushr 7 X0 hx (hb hby own_d156) (z := (1 : Int32)) rfl rfl ?_
  refine own_i2b 8 X0 hx (hb hby own_d157) rfl rfl ?_
  exact own_retN X0 hx (t := .byte) Bd.returns (by simp) hlk (hb hby own_d158) (by decide) (by decide) (by rw [e0]; exact ⟨rfl, N0, rfl⟩)
def own_QI4_1 (Z : State) (x0 : Int32) (G1 : Int32) (sx a : Addr) (ka : ClassId) (h0 : Heap) (n0 : Nat) (v : Option Value) (h : Heap) (L : List Loc) : Prop := v = none ∧ Fr n0 L ∧ Keep h0 h [sx] ∧ ∃ (t : Addr) (kb : ClassId), n0 ≤ t ∧ h0.size ≤ t ∧ ((¬ ((255 : Int32) < x0) ∧ own_StrG Z h sx t kb (0 : Int32) (1 : Int32) [(.int (x0.toInt8.toInt32))]) ∨ own_StrG Z h sx t kb (1 : Int32) (2 : Int32) [(.int ((x0 >>> ((0 : Int32) &&& 31)).toInt8.toInt32)), (.int ((x0 >>> ((8 : Int32) &&& 31)).toInt8.toInt32))])
set_option maxRecDepth 65536 in
set_option maxHeartbeats 40000000 in
theorem own_rmI4_1 (l : Launch) (Z : State) (a0 : Array Value) (hw : ∀ d ∈ tables_1, d.before a0 Z = true) (ws : List Jvm.Cond) (x0 : Int32) (G1 : Int32) (sx a : Addr) (ka : ClassId) (h0 : Heap) (n0 : Nat) (Z0 : n0 ≤ h0.size) (OL : Old Z n0 h0) (ge_sx : n0 ≤ sx) (ne_sx_a : sx ≠ a) (E_sx : Exa Z h0 sx "java/lang/String") (F_value_sx : Fld Z h0 sx "java/lang/String" "value" "[B" .null) (F_coder_sx : Fld Z h0 sx "java/lang/String" "coder" "B" (.int (0 : Int32))) (hx0 : own_C16 x0) (Va : Arv Z h0 a ka .char (1 : Int32) [(.int x0)] (.int (0 : Int32))) (O2 : Sta Z Z.heap "java/lang/String" "COMPACT_STRINGS" "Z" (.int G1)) (P5 : ¬ (G1 = (0 : Int32))) (OAD : Sta Z Z.heap "java/lang/StringUTF16" "$assertionsDisabled" "Z" (.int (1 : Int32))) (OHI : Sta Z Z.heap "java/lang/StringUTF16" "HI_BYTE_SHIFT" "I" (.int (0 : Int32))) (OLO : Sta Z Z.heap "java/lang/StringUTF16" "LO_BYTE_SHIFT" "I" (.int (8 : Int32))) :
    own_MF l (⟨"java/lang/String", "<init>", "([CIILjava/lang/Void;)V"⟩ : MethodName) (Jvm.Cond.code (⟨"java/lang/String", "<init>", "([CIILjava/lang/Void;)V"⟩ : MethodName) jdk_42_method_149_code 6 none :: ws) ({ frames := 4, cells := 2, slots := 3, locals := 100 } : Room) #[(.ref sx), (.ref a), (.int (0 : Int32)), (.int (1 : Int32)), .null] Z h0 (own_QI4_1 Z x0 G1 sx a ka h0 n0) := by
  refine MetFree.of_bodySF (plainFor_of_name own_pn0) hisR ?_
  intro p e s m args below meth c s₁ Bd hml0 hP hK
  obtain ⟨rfl, hZ, hh⟩ := hP
  have hx := Bd.exec
  have hby := Bd.bytes
  have hlk : meth.locks = false := BodyLoose.notSynchronized Bd
  have hml : c.maxLocals = 6 := hml0
  have hown : s.vm.findClass "java/lang/String" = some m.cls := findClass_of_methodNamed Bd.named
  have hnm := (name_of_methodNamed Bd.named Bd.method).1
  have X0 : Stand p l e ({ frames := 4, cells := 2, slots := 3, locals := 100 } : Room) s m #[(.ref sx), (.ref a), (.int (0 : Int32)), (.int (1 : Int32)), .null] below meth c s₁ [] 0 0 := Stand.of_body Bd
  have e0 : s₁.heap = h0 := by rw [← hh, Bd.state]; rfl
  have N0 := Fr.nil n0
  have KP : Keep h0 h0 [sx] := Keep.refl _ _
  refine own_start (Fin := (own_Fin s (own_QI4_1 Z x0 G1 sx a ka h0 n0) ({ frames := 4, cells := 2, slots := 3, locals := 100 } : Room).cells ({ frames := 4, cells := 2, slots := 3, locals := 100 } : Room).slots)) (own_from (mkF m 0 #[rv sx, rv a, iv 0, iv 1, .val .null, .unset] []) (castTop (own_ef_I4_1 m sx a (0 : Int32) (1 : Int32))) ?_)
  refine own_aln 1 X0 hx (hb hby own_d0) rfl rfl rfl ?_
  obtain ⟨T33, X33, e33, st33⟩ := initO X0 hx hZ hown (own_w hw 18 rfl) (own_w hw 19 rfl) (own_w hw 20 rfl) e0 (g := (mkF m 1 #[rv sx, rv a, iv 0, iv 1, .val .null, .unset] [(.ref sx)])) rfl (by rw [hml]; rfl) rfl (hb hby own_d1) (by decide) (W := 0) (by show 2 * 0 + _ ≤ _; exact Nat.le_of_eq rfl) (by decide)
  refine own_to (mkF m 4 #[rv sx, rv a, iv 0, iv 1, .val .null, .unset] []) st33 ?_
  refine own_iln 5 X33 hx (hb hby own_d2) rfl rfl ?_
  refine own_ifY 27 X33 hx (hb hby own_d3) ((if0 _ _).trans (feq (by decide : ¬ ((1 : Int32) = (0 : Int32)))).2) (by decide) (by decide) ?_
  obtain ⟨T34, X34, e34, st34⟩ := getS2 X33 hx hZ hown (host := "") (Or.inl (own_w hw 21 rfl)) Via.refl e33 (O2.ext OL.2) (g := (mkF m 27 #[rv sx, rv a, iv 0, iv 1, .val .null, .unset] [])) rfl (hb hby own_d159)
  refine own_to (mkF m 30 #[rv sx, rv a, iv 0, iv 1, .val .null, .unset] [(.int G1)]) st34 ?_
  refine own_ifN 33 X34 hx (hb hby own_d160) ((if0 _ _).trans (feq P5).1) rfl ?_
  refine own_aln 34 X34 hx (hb hby own_d161) rfl rfl rfl ?_
  refine own_iln 35 X34 hx (hb hby own_d162) rfl rfl ?_
  refine own_iln 36 X34 hx (hb hby own_d163) rfl rfl ?_
  have KP0 := KP
  have lt0_sx := E_sx.lt
  have lt0_a := Va.lt
  obtain ⟨_, T35, Lc35, X35, hQ35, st35⟩ := own_callS X34 hx (y := (⟨"java/lang/StringUTF16", "compress", "([CII)[B"⟩ : MethodName)) hown (mvT hZ (own_w hw 22 rfl)) (mvT hZ (own_w hw 23 rfl)) (mvT hZ (own_w hw 24 rfl)) (mvT hZ (own_w hw 25 rfl)) (by decide) (backOf (W := 0) (own_rmC3_1 l Z a0 hw [] x0 G1 a ka h0 n0 (Nat.le_trans Z0 KP.1) OL hx0 Va O2 P5 OAD OHI OLO) hZ (own_w hw 25 rfl) (own_w hw 24 rfl) (by decide) (by decide)) (g := (mkF m 36 #[rv sx, rv a, iv 0, iv 1, .val .null, .unset] [(.int (1 : Int32)), (.int (0 : Int32)), (.ref a)])) rfl (by rw [hml]; rfl) (argsL := [(.ref a), (.int (0 : Int32)), (.int (1 : Int32))]) (rest := []) (lenOf own_pd5 rfl) rfl (by show 2 * 0 + _ ≤ _; exact Nat.le_of_eq rfl) (hb hby own_d164) rfl e34 (kc := 2) (ks := 3) rfl rfl (by decide) (by decide)
  obtain ⟨bb, kbb, rfl, N35q, K35, ge_bb, sz0_bb, hor35⟩ := hQ35
  have N35 := Fr.app N0 N35q
  have OL := OL.keep K35 all0
  have KP := KP.trans K35 all0
  have E_sx := E_sx.keep K35
  have F_value_sx := F_value_sx.keep K35 nin0
  have F_coder_sx := F_coder_sx.keep K35 nin0
  have Va := Va.keep K35 nin0
  rcases hor35 with ⟨hg0, Vb⟩ | Vb
  · refine own_to (mkF m 39 #[rv sx, rv a, iv 0, iv 1, .val .null, .unset] [(.ref bb)]) st35 ?_
    have sz_bb : h0.size ≤ bb := Nat.le_trans KP0.1 sz0_bb
    have ne_sx_bb : sx ≠ bb := Nat.ne_of_lt (Nat.lt_of_lt_of_le lt0_sx sz0_bb)
    have ne_a_bb : a ≠ bb := Nat.ne_of_lt (Nat.lt_of_lt_of_le lt0_a sz0_bb)
    refine own_as 41 #[rv sx, rv a, iv 0, iv 1, .val .null, rv bb] X35 hx (hb hby own_d165) rfl rfl rfl ?_
    refine own_aln 42 X35 hx (hb hby own_d166) rfl rfl rfl ?_
    refine own_al 44 X35 hx (hb hby own_d167) rfl rfl rfl ?_
    refine own_iln 45 X35 hx (hb hby own_d168) rfl rfl ?_
    obtain ⟨_, T36, Lc36, X36, hQ36, st36⟩ := own_callS X35 hx (y := (⟨"java/lang/StringUTF16", "coderFromArrayLen", "([BI)B"⟩ : MethodName)) hown (mvT hZ (own_w hw 30 rfl)) (mvT hZ (own_w hw 31 rfl)) (mvT hZ (own_w hw 24 rfl)) (mvT hZ (own_w hw 32 rfl)) (by decide) (backOf (W := 1) (own_rmCF_1_0 l Z a0 hw [] x0 bb kbb T35.heap n0 (Nat.le_trans Z0 KP.1) OL Vb) hZ (own_w hw 32 rfl) (own_w hw 24 rfl) (by decide) (by decide)) (g := (mkF m 45 #[rv sx, rv a, iv 0, iv 1, .val .null, rv bb] [(.int (1 : Int32)), (.ref bb), (.ref sx)])) rfl (by rw [hml]; rfl) (argsL := [(.ref bb), (.int (1 : Int32))]) (rest := [(.ref sx)]) (lenOf own_pd7 rfl) rfl (by show 2 * 0 + _ ≤ _; exact Nat.le_of_eq rfl) (hb hby own_d169) rfl rfl (kc := 2) (ks := 3) rfl rfl (by decide) (by decide)
    obtain ⟨rfl, N36q, e36⟩ := hQ36
    have N36 := Fr.app N35 N36q
    refine own_to (mkF m 48 #[rv sx, rv a, iv 0, iv 1, .val .null, rv bb] [(.int (0 : Int32)), (.ref sx)]) st36 ?_
    obtain ⟨T37, h37, X37, e37, W37, st37⟩ := putFN X36 hx hZ hown (own_w hw 33 rfl) Via.refl e36 F_coder_sx E_sx (Or.inr ⟨(own_w hw 34 rfl), rfl, hnm⟩) (own_w hw 5 rfl) (ty := .byte) (v' := (.int (0 : Int32))) (by decide) rfl rfl (g := (mkF m 48 #[rv sx, rv a, iv 0, iv 1, .val .null, rv bb] [(.int (0 : Int32)), (.ref sx)])) rfl rfl (hb hby own_d170)
    refine own_to (mkF m 51 #[rv sx, rv a, iv 0, iv 1, .val .null, rv bb] []) st37 ?_
    have N37 := Fr.snoc X37 N36 ge_sx
    have tmp37 : Fld Z h37 sx "java/lang/String" "coder" "B" (.int (0 : Int32)) := F_coder_sx.same W37
    have OL := OL.wr W37 ge_sx
    have KP := KP.wr W37 (Or.inl (List.mem_of_getElem? (i := 0) rfl))
    have E_sx := E_sx.wr W37
    have F_value_sx := F_value_sx.other W37 (Or.inr (slot_ne (Or.inr (own_w hw 36 rfl)) (Or.inr (own_w hw 34 rfl)) (by decide) (t := (.array .byte)) (t' := .byte) (by decide) (by decide)))
    have Va := Va.other W37 (Ne.symm ne_sx_a)
    have Vb := Vb.other W37 (Ne.symm ne_sx_bb)
    have F_coder_sx := tmp37
    refine own_aln 52 X37 hx (hb hby own_d171) rfl rfl rfl ?_
    refine own_al 54 X37 hx (hb hby own_d172) rfl rfl rfl ?_
    obtain ⟨T38, h38, X38, e38, W38, st38⟩ := putF X37 hx hZ hown (host := "") (Or.inl (own_w hw 35 rfl)) Via.refl e37 F_value_sx E_sx (Or.inr ⟨(own_w hw 36 rfl), rfl, hnm⟩) (own_w hw 5 rfl) (ty := (.array .byte)) (by decide) rfl rfl (g := (mkF m 54 #[rv sx, rv a, iv 0, iv 1, .val .null, rv bb] [(.ref bb), (.ref sx)])) rfl rfl (hb hby own_d173)
    refine own_to (mkF m 57 #[rv sx, rv a, iv 0, iv 1, .val .null, rv bb] []) st38 ?_
    have N38 := Fr.snoc X38 N37 ge_sx
    have tmp38 : Fld Z h38 sx "java/lang/String" "value" "[B" (.ref bb) := F_value_sx.same W38
    have OL := OL.wr W38 ge_sx
    have KP := KP.wr W38 (Or.inl (List.mem_of_getElem? (i := 0) rfl))
    have E_sx := E_sx.wr W38
    have F_coder_sx := F_coder_sx.other W38 (Or.inr (slot_ne (Or.inr (own_w hw 34 rfl)) (Or.inr (own_w hw 36 rfl)) (by decide) (t := .byte) (t' := (.array .byte)) (by decide) (by decide)))
    have Va := Va.other W38 (Ne.symm ne_sx_a)
    have Vb := Vb.other W38 (Ne.symm ne_sx_bb)
    have F_value_sx := tmp38
    exact own_ret0 X38 hx Bd.returns hlk (hb hby own_d174) (by decide) (by decide) (by rw [e38]; exact ⟨rfl, N38, KP, bb, kbb, ge_bb, sz_bb, Or.inl ⟨hg0, ⟨E_sx, F_value_sx, F_coder_sx, Vb⟩⟩⟩)
  · refine own_to (mkF m 39 #[rv sx, rv a, iv 0, iv 1, .val .null, .unset] [(.ref bb)]) st35 ?_
    have sz_bb : h0.size ≤ bb := Nat.le_trans KP0.1 sz0_bb
    have ne_sx_bb : sx ≠ bb := Nat.ne_of_lt (Nat.lt_of_lt_of_le lt0_sx sz0_bb)
    have ne_a_bb : a ≠ bb := Nat.ne_of_lt (Nat.lt_of_lt_of_le lt0_a sz0_bb)
    refine own_as 41 #[rv sx, rv a, iv 0, iv 1, .val .null, rv bb] X35 hx (hb hby own_d165) rfl rfl rfl ?_
    refine own_aln 42 X35 hx (hb hby own_d166) rfl rfl rfl ?_
    refine own_al 44 X35 hx (hb hby own_d167) rfl rfl rfl ?_
    refine own_iln 45 X35 hx (hb hby own_d168) rfl rfl ?_
    obtain ⟨_, T39, Lc39, X39, hQ39, st39⟩ := own_callS X35 hx (y := (⟨"java/lang/StringUTF16", "coderFromArrayLen", "([BI)B"⟩ : MethodName)) hown (mvT hZ (own_w hw 30 rfl)) (mvT hZ (own_w hw 31 rfl)) (mvT hZ (own_w hw 24 rfl)) (mvT hZ (own_w hw 32 rfl)) (by decide) (backOf (W := 1) (own_rmCF_1_1 l Z a0 hw [] x0 bb kbb T35.heap n0 (Nat.le_trans Z0 KP.1) OL Vb) hZ (own_w hw 32 rfl) (own_w hw 24 rfl) (by decide) (by decide)) (g := (mkF m 45 #[rv sx, rv a, iv 0, iv 1, .val .null, rv bb] [(.int (1 : Int32)), (.ref bb), (.ref sx)])) rfl (by rw [hml]; rfl) (argsL := [(.ref bb), (.int (1 : Int32))]) (rest := [(.ref sx)]) (lenOf own_pd7 rfl) rfl (by show 2 * 0 + _ ≤ _; exact Nat.le_of_eq rfl) (hb hby own_d169) rfl rfl (kc := 2) (ks := 3) rfl rfl (by decide) (by decide)
    obtain ⟨rfl, N39q, e39⟩ := hQ39
    have N39 := Fr.app N35 N39q
    refine own_to (mkF m 48 #[rv sx, rv a, iv 0, iv 1, .val .null, rv bb] [(.int (1 : Int32)), (.ref sx)]) st39 ?_
    obtain ⟨T40, h40, X40, e40, W40, st40⟩ := putFN X39 hx hZ hown (own_w hw 33 rfl) Via.refl e39 F_coder_sx E_sx (Or.inr ⟨(own_w hw 34 rfl), rfl, hnm⟩) (own_w hw 5 rfl) (ty := .byte) (v' := (.int (1 : Int32))) (by decide) rfl rfl (g := (mkF m 48 #[rv sx, rv a, iv 0, iv 1, .val .null, rv bb] [(.int (1 : Int32)), (.ref sx)])) rfl rfl (hb hby own_d170)
    refine own_to (mkF m 51 #[rv sx, rv a, iv 0, iv 1, .val .null, rv bb] []) st40 ?_
    have N40 := Fr.snoc X40 N39 ge_sx
    have tmp40 : Fld Z h40 sx "java/lang/String" "coder" "B" (.int (1 : Int32)) := F_coder_sx.same W40
    have OL := OL.wr W40 ge_sx
    have KP := KP.wr W40 (Or.inl (List.mem_of_getElem? (i := 0) rfl))
    have E_sx := E_sx.wr W40
    have F_value_sx := F_value_sx.other W40 (Or.inr (slot_ne (Or.inr (own_w hw 36 rfl)) (Or.inr (own_w hw 34 rfl)) (by decide) (t := (.array .byte)) (t' := .byte) (by decide) (by decide)))
    have Va := Va.other W40 (Ne.symm ne_sx_a)
    have Vb := Vb.other W40 (Ne.symm ne_sx_bb)
    have F_coder_sx := tmp40
    refine own_aln 52 X40 hx (hb hby own_d171) rfl rfl rfl ?_
    refine own_al 54 X40 hx (hb hby own_d172) rfl rfl rfl ?_
    obtain ⟨T41, h41, X41, e41, W41, st41⟩ := putF X40 hx hZ hown (host := "") (Or.inl (own_w hw 35 rfl)) Via.refl e40 F_value_sx E_sx (Or.inr ⟨(own_w hw 36 rfl), rfl, hnm⟩) (own_w hw 5 rfl) (ty := (.array .byte)) (by decide) rfl rfl (g := (mkF m 54 #[rv sx, rv a, iv 0, iv 1, .val .null, rv bb] [(.ref bb), (.ref sx)])) rfl rfl (hb hby own_d173)
    refine own_to (mkF m 57 #[rv sx, rv a, iv 0, iv 1, .val .null, rv bb] []) st41 ?_
    have N41 := Fr.snoc X41 N40 ge_sx
    have tmp41 : Fld Z h41 sx "java/lang/String" "value" "[B" (.ref bb) := F_value_sx.same W41
    have OL := OL.wr W41 ge_sx
    have KP := KP.wr W41 (Or.inl (List.mem_of_getElem? (i := 0) rfl))
    have E_sx := E_sx.wr W41
    have F_coder_sx := F_coder_sx.other W41 (Or.inr (slot_ne (Or.inr (own_w hw 34 rfl)) (Or.inr (own_w hw 36 rfl)) (by decide) (t := .byte) (t' := (.array .byte)) (by decide) (by decide)))
    have Va := Va.other W41 (Ne.symm ne_sx_a)
    have Vb := Vb.other W41 (Ne.symm ne_sx_bb)
    have F_value_sx := tmp41
    exact own_ret0 X41 hx Bd.returns hlk (hb hby own_d174) (by decide) (by decide) (by rw [e41]; exact ⟨rfl, N41, KP, bb, kbb, ge_bb, sz_bb, Or.inr ⟨E_sx, F_value_sx, F_coder_sx, Vb⟩⟩)
def own_QI1_1 (Z : State) (x0 : Int32) (G1 : Int32) (sx a : Addr) (ka : ClassId) (h0 : Heap) (n0 : Nat) (v : Option Value) (h : Heap) (L : List Loc) : Prop := v = none ∧ Fr n0 L ∧ Keep h0 h [sx] ∧ ∃ (t : Addr) (kb : ClassId), n0 ≤ t ∧ h0.size ≤ t ∧ ((¬ ((255 : Int32) < x0) ∧ own_StrG Z h sx t kb (0 : Int32) (1 : Int32) [(.int (x0.toInt8.toInt32))]) ∨ own_StrG Z h sx t kb (1 : Int32) (2 : Int32) [(.int ((x0 >>> ((0 : Int32) &&& 31)).toInt8.toInt32)), (.int ((x0 >>> ((8 : Int32) &&& 31)).toInt8.toInt32))])
set_option maxRecDepth 65536 in
set_option maxHeartbeats 40000000 in
theorem own_rmI1_1 (l : Launch) (Z : State) (a0 : Array Value) (hw : ∀ d ∈ tables_1, d.before a0 Z = true) (ws : List Jvm.Cond) (x0 : Int32) (G1 : Int32) (sx a : Addr) (ka : ClassId) (h0 : Heap) (n0 : Nat) (Z0 : n0 ≤ h0.size) (OL : Old Z n0 h0) (ge_sx : n0 ≤ sx) (ne_sx_a : sx ≠ a) (E_sx : Exa Z h0 sx "java/lang/String") (F_value_sx : Fld Z h0 sx "java/lang/String" "value" "[B" .null) (F_coder_sx : Fld Z h0 sx "java/lang/String" "coder" "B" (.int (0 : Int32))) (hx0 : own_C16 x0) (Va : Arv Z h0 a ka .char (1 : Int32) [(.int x0)] (.int (0 : Int32))) (O2 : Sta Z Z.heap "java/lang/String" "COMPACT_STRINGS" "Z" (.int G1)) (P5 : ¬ (G1 = (0 : Int32))) (OAD : Sta Z Z.heap "java/lang/StringUTF16" "$assertionsDisabled" "Z" (.int (1 : Int32))) (OHI : Sta Z Z.heap "java/lang/StringUTF16" "HI_BYTE_SHIFT" "I" (.int (0 : Int32))) (OLO : Sta Z Z.heap "java/lang/StringUTF16" "LO_BYTE_SHIFT" "I" (.int (8 : Int32))) :
    own_MF l (⟨"java/lang/String", "<init>", "([C)V"⟩ : MethodName) (Jvm.Cond.code (⟨"java/lang/String", "<init>", "([C)V"⟩ : MethodName) jdk_42_method_3_code 2 none :: ws) ({ frames := 5, cells := 2, slots := 3, locals := 120 } : Room) #[(.ref sx), (.ref a)] Z h0 (own_QI1_1 Z x0 G1 sx a ka h0 n0) := by
  refine MetFree.of_bodySF (plainFor_of_name own_pn0) hisR ?_
  intro p e s m args below meth c s₁ Bd hml0 hP hK
  obtain ⟨rfl, hZ, hh⟩ := hP
  have hx := Bd.exec
  have hby := Bd.bytes
  have hlk : meth.locks = false := BodyLoose.notSynchronized Bd
  have hml : c.maxLocals = 2 := hml0
  have hown : s.vm.findClass "java/lang/String" = some m.cls := findClass_of_methodNamed Bd.named
  have hnm := (name_of_methodNamed Bd.named Bd.method).1
  have X0 : Stand p l e ({ frames := 5, cells := 2, slots := 3, locals := 120 } : Room) s m #[(.ref sx), (.ref a)] below meth c s₁ [] 0 0 := Stand.of_body Bd
  have e0 : s₁.heap = h0 := by rw [← hh, Bd.state]; rfl
  have N0 := Fr.nil n0
  have KP : Keep h0 h0 [sx] := Keep.refl _ _
  refine own_start (Fin := (own_Fin s (own_QI1_1 Z x0 G1 sx a ka h0 n0) ({ frames := 5, cells := 2, slots := 3, locals := 120 } : Room).cells ({ frames := 5, cells := 2, slots := 3, locals := 120 } : Room).slots)) (own_from (mkF m 0 #[rv sx, rv a] []) (castTop (own_ef_I1_1 m sx a)) ?_)
  refine own_aln 1 X0 hx (hb hby own_d13) rfl rfl rfl ?_
  refine own_aln 2 X0 hx (hb hby own_d14) rfl rfl rfl ?_
  refine own_ic 3 0 X0 hx (hb hby own_d15) rfl rfl ?_
  refine own_aln 4 X0 hx (hb hby own_d16) rfl rfl rfl ?_
  obtain ⟨cl42, Ar42, -, S42, M42, -, -⟩ := id Va
  refine own_to (mkF m 5 #[rv sx, rv a] [(.int (1 : Int32)), (.int (0 : Int32)), (.ref a), (.ref sx)]) (by have q := X0.arraylength hx (by rw [e0]; exact Ar42.1) (State.isArrayOf_alike hZ.alike Ar42.2.1) (g := (mkF m 4 #[rv sx, rv a] [(.ref a), (.int (0 : Int32)), (.ref a), (.ref sx)])) rfl rfl (hb hby own_d17); rw [len_of S42 M42] at q; exact q) ?_
  refine own_nul 6 X0 hx (hb hby own_d18) rfl ?_
  obtain ⟨_, T43, Lc43, X43, hQ43, st43⟩ := own_special X0 hx (y := (⟨"java/lang/String", "<init>", "([CIILjava/lang/Void;)V"⟩ : MethodName)) rfl hown (mvT hZ (own_w hw 14 rfl)) (mvT hZ (own_w hw 15 rfl)) (mvT hZ (own_w hw 17 rfl)) (by decide) (backOf (W := 0) (own_rmI4_1 l Z a0 hw [] x0 G1 sx a ka h0 n0 (Nat.le_trans Z0 KP.1) OL ge_sx ne_sx_a E_sx F_value_sx F_coder_sx hx0 Va O2 P5 OAD OHI OLO) hZ (own_w hw 17 rfl) (own_w hw 6 rfl) (by decide) (by decide)) (g := (mkF m 6 #[rv sx, rv a] [.null, (.int (1 : Int32)), (.int (0 : Int32)), (.ref a), (.ref sx)])) rfl (by rw [hml]; rfl) (a := sx) (argsL := [(.ref a), (.int (0 : Int32)), (.int (1 : Int32)), .null]) (rest := []) (lenOf own_pd0 rfl) rfl (by show 2 * 0 + _ ≤ _; exact Nat.le_of_eq rfl) (hb hby own_d19) rfl e0 (kc := 2) (ks := 3) rfl rfl (by decide) (by decide)
  obtain ⟨rfl, N43q, K43, hrest43⟩ := hQ43
  have N43 := Fr.app N0 N43q
  have OL := OL.keep K43 (allS ge_sx all0)
  have KP := KP.trans K43 (allS (Or.inl (List.mem_of_getElem? (i := 0) rfl)) all0)
  have Va := Va.keep K43 (ninS (Ne.symm ne_sx_a) nin0)
  refine own_via (mkF m 9 #[rv sx, rv a] []) st43 ?_
  exact own_ret0 X43 hx Bd.returns hlk (hb hby own_d20) (by decide) (by decide) (by exact ⟨rfl, N43, KP, hrest43⟩)
def own_QC5_2 (Z : State) (x0 x1 : Int32) (a : Addr) (ka : ClassId) (b : Addr) (kb : ClassId) (h0 : Heap) (n0 : Nat) (v : Option Value) (h : Heap) (L : List Loc) : Prop := Fr n0 L ∧ Keep h0 h [b] ∧ ((v = some (.int (2 : Int32)) ∧ ¬ ((255 : Int32) < x0) ∧ ¬ ((255 : Int32) < x1) ∧ Arv Z h b kb .byte (2 : Int32) [(.int (x0.toInt8.toInt32)), (.int (x1.toInt8.toInt32))] (.int (0 : Int32))) ∨ (v = some (.int (0 : Int32)) ∧ (255 : Int32) < x0) ∨ (v = some (.int (1 : Int32)) ∧ (255 : Int32) < x1))
set_option maxRecDepth 65536 in
set_option maxHeartbeats 40000000 in
theorem own_rmC5_2 (l : Launch) (Z : State) (a0 : Array Value) (hw : ∀ d ∈ tables_1, d.before a0 Z = true) (ws : List Jvm.Cond) (x0 x1 : Int32) (a : Addr) (ka : ClassId) (b : Addr) (kb : ClassId) (h0 : Heap) (n0 : Nat) (Z0 : n0 ≤ h0.size) (OL : Old Z n0 h0) (ne_a_b : a ≠ b) (ge_b : n0 ≤ b) (Va : Arv Z h0 a ka .char (2 : Int32) [(.int x0), (.int x1)] (.int (0 : Int32))) (Vb : Arv Z h0 b kb .byte (2 : Int32) [(.int (0 : Int32)), (.int (0 : Int32))] (.int (0 : Int32))) :
    own_MF l (⟨"java/lang/StringUTF16", "compress", "([CI[BII)I"⟩ : MethodName) (Jvm.Cond.code (⟨"java/lang/StringUTF16", "compress", "([CI[BII)I"⟩ : MethodName) jdk_52_method_21_code 7 (some .int) :: ws) ({ frames := 0, cells := 0, slots := 0, locals := 0 } : Room) #[(.ref a), (.int (0 : Int32)), (.ref b), (.int (0 : Int32)), (.int (2 : Int32))] Z h0 (own_QC5_2 Z x0 x1 a ka b kb h0 n0) := by
  refine MetFree.of_bodySF (plainFor_of_name own_pn1) hisR ?_
  intro p e s m args below meth c s₁ Bd hml0 hP hK
  obtain ⟨rfl, hZ, hh⟩ := hP
  have hx := Bd.exec
  have hby := Bd.bytes
  have hlk : meth.locks = false := BodyLoose.notSynchronized Bd
  have hml : c.maxLocals = 7 := hml0
  have hown : s.vm.findClass "java/lang/StringUTF16" = some m.cls := findClass_of_methodNamed Bd.named
  have hnm := (name_of_methodNamed Bd.named Bd.method).1
  have X0 : Stand p l e ({ frames := 0, cells := 0, slots := 0, locals := 0 } : Room) s m #[(.ref a), (.int (0 : Int32)), (.ref b), (.int (0 : Int32)), (.int (2 : Int32))] below meth c s₁ [] 0 0 := Stand.of_body Bd
  have e0 : s₁.heap = h0 := by rw [← hh, Bd.state]; rfl
  have N0 := Fr.nil n0
  have KP : Keep h0 h0 [b] := Keep.refl _ _
  refine own_start (Fin := (own_Fin s (own_QC5_2 Z x0 x1 a ka b kb h0 n0) ({ frames := 0, cells := 0, slots := 0, locals := 0 } : Room).cells ({ frames := 0, cells := 0, slots := 0, locals := 0 } : Room).slots)) (own_from (mkF m 0 #[rv a, iv 0, rv b, iv 0, iv 2, .unset, .unset] []) (castTop (own_ef_C5_2 m a (0 : Int32) b (0 : Int32) (2 : Int32))) ?_)
  refine own_ic 1 0 X0 hx (hb hby own_d21) rfl rfl ?_
  refine own_is 3 #[rv a, iv 0, rv b, iv 0, iv 2, iv 0, .unset] X0 hx (hb hby own_d22) rfl rfl ?_
  refine own_il 5 X0 hx (hb hby own_d23) rfl rfl ?_
  refine own_il 7 X0 hx (hb hby own_d24) rfl rfl ?_
  refine own_icN 10 X0 hx (hb hby own_d25) (tlt (by decide : (0 : Int32) < (2 : Int32))).2.1 rfl ?_
  refine own_aln 11 X0 hx (hb hby own_d26) rfl rfl rfl ?_
  refine own_iln 12 X0 hx (hb hby own_d27) rfl rfl ?_
  obtain ⟨cl44, Ar44, -, S44, -, H44, -⟩ := id Va
  refine own_to (mkF m 13 #[rv a, iv 0, rv b, iv 0, iv 2, iv 0, .unset] [(.int x0)]) (X0.caload hx (j := (0 : Int32)) (v := (.int x0)) (by rw [e0]; exact Ar44.1) (State.isArrayOf_alike hZ.alike Ar44.2.1) Ar44.2.2 (inb_of S44 ⟨by decide, by decide⟩) (H44.at (inb_of S44 ⟨by decide, by decide⟩) rfl) (g := (mkF m 12 #[rv a, iv 0, rv b, iv 0, iv 2, iv 0, .unset] [(.int (0 : Int32)), (.ref a)])) rfl rfl (hb hby own_d28)) ?_
  refine own_is 15 #[rv a, iv 0, rv b, iv 0, iv 2, iv 0, iv x0] X0 hx (hb hby own_d29) rfl rfl ?_
  refine own_il 17 X0 hx (hb hby own_d30) rfl rfl ?_
  refine own_si 20 255 X0 hx (hb hby own_d31) rfl rfl ?_
  by_cases hb0 : (255 : Int32) < x0
  · refine own_icN 23 X0 hx (hb hby own_d32) (tlt hb0).2.2.2 rfl ?_
    refine own_il 25 X0 hx (hb hby own_d33) rfl rfl ?_
    exact own_retI X0 hx Bd.returns hlk (hb hby own_d34) (by decide) (by decide) (by rw [e0]; exact ⟨N0, KP, (Or.inr (Or.inl ⟨rfl, hb0⟩))⟩)
  · refine own_icY 26 X0 hx (hb hby own_d32) (flt hb0).2.2.2 (by decide) (by decide) ?_
    refine own_aln 27 X0 hx (hb hby own_d35) rfl rfl rfl ?_
    refine own_iln 28 X0 hx (hb hby own_d36) rfl rfl ?_
    refine own_il 30 X0 hx (hb hby own_d37) rfl rfl ?_
    refine own_i2b 31 X0 hx (hb hby own_d38) rfl rfl ?_
    obtain ⟨cl45, Ar45, q45, S45, M45, H45, G45⟩ := id Vb
    obtain ⟨T45, h45, X45, e45, W45, st45⟩ := stB X0 hx hZ e0 Ar45 (j := (0 : Int32)) (inb_of S45 ⟨by decide, by decide⟩) (g := (mkF m 31 #[rv a, iv 0, rv b, iv 0, iv 2, iv 0, iv x0] [(.int (x0.toInt8.toInt32)), (.int (0 : Int32)), (.ref b)])) rfl rfl (hb hby own_d39)
    refine own_to (mkF m 32 #[rv a, iv 0, rv b, iv 0, iv 2, iv 0, iv x0] []) st45 ?_
    have N45 := Fr.snoc X45 N0 ge_b
    have tmp45 : Arv Z h45 b kb .byte (2 : Int32) [(.int ((x0.toInt8.toInt32).toInt8.toInt32)), (.int (0 : Int32))] (.int (0 : Int32)) := Arv.set Ar45 q45 S45 M45 H45 G45 (fits_nar_byte _) W45 0 rfl (Nat.le_of_ble_eq_true rfl)
    rw [own_b8] at tmp45
    have OL := OL.wr W45 ge_b
    have KP := KP.wr W45 (Or.inl (List.mem_of_getElem? (i := 0) rfl))
    have Va := Va.other W45 ne_a_b
    have Vb := tmp45
    refine own_inc 35 #[rv a, iv 1, rv b, iv 0, iv 2, iv 0, iv x0] X45 hx (hb hby own_d40) rfl rfl rfl ?_
    refine own_inc 38 #[rv a, iv 1, rv b, iv 1, iv 2, iv 0, iv x0] X45 hx (hb hby own_d41) rfl rfl rfl ?_
    refine own_inc 41 #[rv a, iv 1, rv b, iv 1, iv 2, iv 1, iv x0] X45 hx (hb hby own_d42) rfl rfl rfl ?_
    refine own_go 3 X45 hx (hb hby own_d43) (by decide) (by decide) ?_
    refine own_il 5 X45 hx (hb hby own_d23) rfl rfl ?_
    refine own_il 7 X45 hx (hb hby own_d24) rfl rfl ?_
    refine own_icN 10 X45 hx (hb hby own_d25) (tlt (by decide : (1 : Int32) < (2 : Int32))).2.1 rfl ?_
    refine own_aln 11 X45 hx (hb hby own_d26) rfl rfl rfl ?_
    refine own_iln 12 X45 hx (hb hby own_d27) rfl rfl ?_
    obtain ⟨cl46, Ar46, -, S46, -, H46, -⟩ := id Va
    refine own_to (mkF m 13 #[rv a, iv 1, rv b, iv 1, iv 2, iv 1, iv x0] [(.int x1)]) (X45.caload hx (j := (1 : Int32)) (v := (.int x1)) (by rw [e45]; exact Ar46.1) (State.isArrayOf_alike hZ.alike Ar46.2.1) Ar46.2.2 (inb_of S46 ⟨by decide, by decide⟩) (H46.at (inb_of S46 ⟨by decide, by decide⟩) rfl) (g := (mkF m 12 #[rv a, iv 1, rv b, iv 1, iv 2, iv 1, iv x0] [(.int (1 : Int32)), (.ref a)])) rfl rfl (hb hby own_d28)) ?_
    refine own_is 15 #[rv a, iv 1, rv b, iv 1, iv 2, iv 1, iv x1] X45 hx (hb hby own_d29) rfl rfl ?_
    refine own_il 17 X45 hx (hb hby own_d30) rfl rfl ?_
    refine own_si 20 255 X45 hx (hb hby own_d31) rfl rfl ?_
    by_cases hb1 : (255 : Int32) < x1
    · refine own_icN 23 X45 hx (hb hby own_d32) (tlt hb1).2.2.2 rfl ?_
      refine own_il 25 X45 hx (hb hby own_d33) rfl rfl ?_
      exact own_retI X45 hx Bd.returns hlk (hb hby own_d34) (by decide) (by decide) (by rw [e45]; exact ⟨N45, KP, (Or.inr (Or.inr ⟨rfl, hb1⟩))⟩)
    · refine own_icY 26 X45 hx (hb hby own_d32) (flt hb1).2.2.2 (by decide) (by decide) ?_
      refine own_aln 27 X45 hx (hb hby own_d35) rfl rfl rfl ?_
      refine own_iln 28 X45 hx (hb hby own_d36) rfl rfl ?_
      refine own_il 30 X45 hx (hb hby own_d37) rfl rfl ?_
      refine own_i2b 31 X45 hx (hb hby own_d38) rfl rfl ?_
      obtain ⟨cl47, Ar47, q47, S47, M47, H47, G47⟩ := id Vb
      obtain ⟨T47, h47, X47, e47, W47, st47⟩ := stB X45 hx hZ e45 Ar47 (j := (1 : Int32)) (inb_of S47 ⟨by decide, by decide⟩) (g := (mkF m 31 #[rv a, iv 1, rv b, iv 1, iv 2, iv 1, iv x1] [(.int (x1.toInt8.toInt32)), (.int (1 : Int32)), (.ref b)])) rfl rfl (hb hby own_d39)
      refine own_to (mkF m 32 #[rv a, iv 1, rv b, iv 1, iv 2, iv 1, iv x1] []) st47 ?_
      have N47 := Fr.snoc X47 N45 ge_b
      have tmp47 : Arv Z h47 b kb .byte (2 : Int32) [(.int (x0.toInt8.toInt32)), (.int ((x1.toInt8.toInt32).toInt8.toInt32))] (.int (0 : Int32)) := Arv.set Ar47 q47 S47 M47 H47 G47 (fits_nar_byte _) W47 1 rfl (Nat.le_of_ble_eq_true rfl)
      rw [own_b8] at tmp47
      have OL := OL.wr W47 ge_b
      have KP := KP.wr W47 (Or.inl (List.mem_of_getElem? (i := 0) rfl))
      have Va := Va.other W47 ne_a_b
      have Vb := tmp47
      refine own_inc 35 #[rv a, iv 2, rv b, iv 1, iv 2, iv 1, iv x1] X47 hx (hb hby own_d40) rfl rfl rfl ?_
      refine own_inc 38 #[rv a, iv 2, rv b, iv 2, iv 2, iv 1, iv x1] X47 hx (hb hby own_d41) rfl rfl rfl ?_
      refine own_inc 41 #[rv a, iv 2, rv b, iv 2, iv 2, iv 2, iv x1] X47 hx (hb hby own_d42) rfl rfl rfl ?_
      refine own_go 3 X47 hx (hb hby own_d43) (by decide) (by decide) ?_
      refine own_il 5 X47 hx (hb hby own_d23) rfl rfl ?_
      refine own_il 7 X47 hx (hb hby own_d24) rfl rfl ?_
      refine own_icY 44 X47 hx (hb hby own_d25) (flt (by decide : ¬ ((2 : Int32) < (2 : Int32)))).2.1 (by decide) (by decide) ?_
      refine own_il 46 X47 hx (hb hby own_d44) rfl rfl ?_
      exact own_retI X47 hx Bd.returns hlk (hb hby own_d45) (by decide) (by decide) (by rw [e47]; exact ⟨N47, KP, Or.inl ⟨rfl, hb0, hb1, Vb⟩⟩)
def own_QNL_2 (Z : State)  (h0 : Heap) (n0 : Nat) (v : Option Value) (h : Heap) (L : List Loc) : Prop := v = some (.int (4 : Int32)) ∧ Fr n0 L ∧ h = h0
set_option maxRecDepth 65536 in
set_option maxHeartbeats 40000000 in
theorem own_rmNL_2 (l : Launch) (Z : State) (a0 : Array Value) (hw : ∀ d ∈ tables_1, d.before a0 Z = true) (ws : List Jvm.Cond)  (h0 : Heap) (n0 : Nat) (Z0 : n0 ≤ h0.size) (OL : Old Z n0 h0)  :
    own_MF l (⟨"java/lang/StringUTF16", "newBytesLength", "(I)I"⟩ : MethodName) (Jvm.Cond.code (⟨"java/lang/StringUTF16", "newBytesLength", "(I)I"⟩ : MethodName) jdk_52_method_3_code 1 (some .int) :: ws) ({ frames := 0, cells := 0, slots := 0, locals := 0 } : Room) #[(.int (2 : Int32))] Z h0 (own_QNL_2 Z  h0 n0) := by
  refine MetFree.of_bodySF (plainFor_of_name own_pn1) hisR ?_
  intro p e s m args below meth c s₁ Bd hml0 hP hK
  obtain ⟨rfl, hZ, hh⟩ := hP
  have hx := Bd.exec
  have hby := Bd.bytes
  have hlk : meth.locks = false := BodyLoose.notSynchronized Bd
  have hml : c.maxLocals = 1 := hml0
  have hown : s.vm.findClass "java/lang/StringUTF16" = some m.cls := findClass_of_methodNamed Bd.named
  have hnm := (name_of_methodNamed Bd.named Bd.method).1
  have X0 : Stand p l e ({ frames := 0, cells := 0, slots := 0, locals := 0 } : Room) s m #[(.int (2 : Int32))] below meth c s₁ [] 0 0 := Stand.of_body Bd
  have e0 : s₁.heap = h0 := by rw [← hh, Bd.state]; rfl
  have N0 := Fr.nil n0
  have KP : Keep h0 h0 [] := Keep.refl _ _
  refine own_start (Fin := (own_Fin s (own_QNL_2 Z  h0 n0) ({ frames := 0, cells := 0, slots := 0, locals := 0 } : Room).cells ({ frames := 0, cells := 0, slots := 0, locals := 0 } : Room).slots)) (own_from (mkF m 0 #[iv 2] []) (castTop (own_ef_NL_2 m (2 : Int32))) ?_)
  refine own_iln 1 X0 hx (hb hby own_d46) rfl rfl ?_
  refine own_ifY 12 X0 hx (hb hby own_d47) ((if0 _ _).trans (flt (by decide : ¬ ((2 : Int32) < (0 : Int32)))).2.1) (by decide) (by decide) ?_
  refine own_iln 13 X0 hx (hb hby own_d48) rfl rfl ?_
  refine own_to (mkF m 15 #[iv 2] [(.int (1073741823 : Int32)), (.int (2 : Int32))]) (X0.ldcInt hx hown (mvT hZ (own_w hw 93 rfl)) (g := (mkF m 13 #[iv 2] [(.int (2 : Int32))])) rfl (hb hby own_d49)) ?_
  refine own_icY 55 X0 hx (hb hby own_d50) (tlt (by decide : (2 : Int32) < (1073741823 : Int32))).1 (by decide) (by decide) ?_
  refine own_iln 56 X0 hx (hb hby own_d51) rfl rfl ?_
  refine own_ic 57 1 X0 hx (hb hby own_d52) rfl rfl ?_
  refine own_ishl 58 X0 hx (hb hby own_d53) (z := (4 : Int32)) rfl rfl ?_
  exact own_retI X0 hx Bd.returns hlk (hb hby own_d54) (by decide) (by decide) (by rw [e0]; exact ⟨rfl, N0, rfl⟩)
def own_QNF_2 (Z : State)  (h0 : Heap) (n0 : Nat) (v : Option Value) (h : Heap) (L : List Loc) : Prop := ∃ (b : Addr) (kb : ClassId), v = some (.ref b) ∧ Fr n0 L ∧ Keep h0 h [] ∧ n0 ≤ b ∧ h0.size ≤ b ∧ Arv Z h b kb .byte (4 : Int32) [(.int (0 : Int32)), (.int (0 : Int32)), (.int (0 : Int32)), (.int (0 : Int32))] (.int (0 : Int32))
set_option maxRecDepth 65536 in
set_option maxHeartbeats 40000000 in
theorem own_rmNF_2 (l : Launch) (Z : State) (a0 : Array Value) (hw : ∀ d ∈ tables_1, d.before a0 Z = true) (ws : List Jvm.Cond)  (h0 : Heap) (n0 : Nat) (Z0 : n0 ≤ h0.size) (OL : Old Z n0 h0)  :
    own_MF l (⟨"java/lang/StringUTF16", "newBytesFor", "(I)[B"⟩ : MethodName) (Jvm.Cond.code (⟨"java/lang/StringUTF16", "newBytesFor", "(I)[B"⟩ : MethodName) jdk_52_method_2_code 1 (some (.array .byte)) :: ws) ({ frames := 1, cells := 1, slots := 4, locals := 20 } : Room) #[(.int (2 : Int32))] Z h0 (own_QNF_2 Z  h0 n0) := by
  refine MetFree.of_bodySF (plainFor_of_name own_pn1) hisR ?_
  intro p e s m args below meth c s₁ Bd hml0 hP hK
  obtain ⟨rfl, hZ, hh⟩ := hP
  have hx := Bd.exec
  have hby := Bd.bytes
  have hlk : meth.locks = false := BodyLoose.notSynchronized Bd
  have hml : c.maxLocals = 1 := hml0
  have hown : s.vm.findClass "java/lang/StringUTF16" = some m.cls := findClass_of_methodNamed Bd.named
  have hnm := (name_of_methodNamed Bd.named Bd.method).1
  have X0 : Stand p l e ({ frames := 1, cells := 1, slots := 4, locals := 20 } : Room) s m #[(.int (2 : Int32))] below meth c s₁ [] 0 0 := Stand.of_body Bd
  have e0 : s₁.heap = h0 := by rw [← hh, Bd.state]; rfl
  have N0 := Fr.nil n0
  have KP : Keep h0 h0 [] := Keep.refl _ _
  refine own_start (Fin := (own_Fin s (own_QNF_2 Z  h0 n0) ({ frames := 1, cells := 1, slots := 4, locals := 20 } : Room).cells ({ frames := 1, cells := 1, slots := 4, locals := 20 } : Room).slots)) (own_from (mkF m 0 #[iv 2] []) (castTop (own_ef_NF_2 m (2 : Int32))) ?_)
  refine own_iln 1 X0 hx (hb hby own_d55) rfl rfl ?_
  obtain ⟨_, T48, Lc48, X48, hQ48, st48⟩ := own_callS X0 hx (y := (⟨"java/lang/StringUTF16", "newBytesLength", "(I)I"⟩ : MethodName)) hown (mvT hZ (own_w hw 90 rfl)) (mvT hZ (own_w hw 91 rfl)) (mvT hZ (own_w hw 24 rfl)) (mvT hZ (own_w hw 92 rfl)) (by decide) (backOf (W := 0) (own_rmNL_2 l Z a0 hw [] h0 n0 (Nat.le_trans Z0 KP.1) OL) hZ (own_w hw 92 rfl) (own_w hw 24 rfl) (by decide) (by decide)) (g := (mkF m 1 #[iv 2] [(.int (2 : Int32))])) rfl (by rw [hml]; rfl) (argsL := [(.int (2 : Int32))]) (rest := []) (lenOf own_pd1 rfl) rfl (by show 2 * 0 + _ ≤ _; exact Nat.le_of_eq rfl) (hb hby own_d56) rfl e0 (kc := 0) (ks := 0) rfl rfl (by decide) (by decide)
  obtain ⟨rfl, N48q, e48⟩ := hQ48
  have N48 := Fr.app N0 N48q
  refine own_to (mkF m 4 #[iv 2] [(.int (4 : Int32))]) st48 ?_
  obtain ⟨T49, h49, k49, X49, e49, E49, A49, B49, st49⟩ := newPE X48 hx hZ (own_w hw 26 rfl) e48 (g := (mkF m 4 #[iv 2] [(.int (4 : Int32))])) rfl (hb hby own_d57) rfl (by decide) (cap := 4) (by decide) (by decide) (by decide) (by decide) (ad := "[B") (by decide)
  obtain ⟨b49, g49⟩ : ∃ z, z = h0.size := ⟨_, rfl⟩
  rw [← g49] at A49 B49 st49
  have sz_b49 : h0.size ≤ b49 := Nat.le_trans KP.1 (Nat.le_of_eq g49.symm)
  have ge_b49 : n0 ≤ b49 := Nat.le_trans Z0 sz_b49
  have OL := OL.ext E49
  have KP := KP.ext E49
  have V_b49 : Arv Z h49 b49 k49 .byte (4 : Int32) [(.int (0 : Int32)), (.int (0 : Int32)), (.int (0 : Int32)), (.int (0 : Int32))] (.int (0 : Int32)) := (Arv.new A49 (by decide)).pad (pad_rep [] (.int (0 : Int32)) 4)
  refine own_to (mkF m 6 #[iv 2] [(.ref b49)]) st49 ?_
  exact own_retA X49 hx Bd.returns rfl hlk (hb hby own_d58) rfl (by decide) (by decide) (by rw [e49]; exact ⟨b49, k49, rfl, N48, KP, ge_b49, sz_b49, V_b49⟩)
def own_QPC_2_0 (Z : State) (u0 u1 u2 u3 cc : Int32) (G1 : Int32) (b : Addr) (kb : ClassId) (h0 : Heap) (n0 : Nat) (v : Option Value) (h : Heap) (L : List Loc) : Prop := v = none ∧ Fr n0 L ∧ Keep h0 h [b] ∧ Arv Z h b kb .byte (4 : Int32) [(.int ((cc >>> ((0 : Int32) &&& 31)).toInt8.toInt32)), (.int ((cc >>> ((8 : Int32) &&& 31)).toInt8.toInt32)), (.int u2), (.int u3)] (.int (0 : Int32))
set_option maxRecDepth 65536 in
set_option maxHeartbeats 40000000 in
theorem own_rmPC_2_0 (l : Launch) (Z : State) (a0 : Array Value) (hw : ∀ d ∈ tables_1, d.before a0 Z = true) (ws : List Jvm.Cond) (u0 u1 u2 u3 cc : Int32) (G1 : Int32) (b : Addr) (kb : ClassId) (h0 : Heap) (n0 : Nat) (Z0 : n0 ≤ h0.size) (OL : Old Z n0 h0) (ge_b : n0 ≤ b) (Vb : Arv Z h0 b kb .byte (4 : Int32) [(.int u0), (.int u1), (.int u2), (.int u3)] (.int (0 : Int32))) (O2 : Sta Z Z.heap "java/lang/String" "COMPACT_STRINGS" "Z" (.int G1)) (P5 : ¬ (G1 = (0 : Int32))) (OAD : Sta Z Z.heap "java/lang/StringUTF16" "$assertionsDisabled" "Z" (.int (1 : Int32))) (OHI : Sta Z Z.heap "java/lang/StringUTF16" "HI_BYTE_SHIFT" "I" (.int (0 : Int32))) (OLO : Sta Z Z.heap "java/lang/StringUTF16" "LO_BYTE_SHIFT" "I" (.int (8 : Int32))) :
    own_MF l (⟨"java/lang/StringUTF16", "putChar", "([BII)V"⟩ : MethodName) (Jvm.Cond.code (⟨"java/lang/StringUTF16", "putChar", "([BII)V"⟩ : MethodName) jdk_52_method_4_code 3 none :: ws) ({ frames := 0, cells := 0, slots := 0, locals := 0 } : Room) #[(.ref b), (.int (0 : Int32)), (.int cc)] Z h0 (own_QPC_2_0 Z u0 u1 u2 u3 cc G1 b kb h0 n0) := by
  refine MetFree.of_bodySF (plainFor_of_name own_pn1) hisR ?_
  intro p e s m args below meth c s₁ Bd hml0 hP hK
  obtain ⟨rfl, hZ, hh⟩ := hP
  have hx := Bd.exec
  have hby := Bd.bytes
  have hlk : meth.locks = false := BodyLoose.notSynchronized Bd
  have hml : c.maxLocals = 3 := hml0
  have hown : s.vm.findClass "java/lang/StringUTF16" = some m.cls := findClass_of_methodNamed Bd.named
  have hnm := (name_of_methodNamed Bd.named Bd.method).1
  have X0 : Stand p l e ({ frames := 0, cells := 0, slots := 0, locals := 0 } : Room) s m #[(.ref b), (.int (0 : Int32)), (.int cc)] below meth c s₁ [] 0 0 := Stand.of_body Bd
  have e0 : s₁.heap = h0 := by rw [← hh, Bd.state]; rfl
  have N0 := Fr.nil n0
  have KP : Keep h0 h0 [b] := Keep.refl _ _
  refine own_start (Fin := (own_Fin s (own_QPC_2_0 Z u0 u1 u2 u3 cc G1 b kb h0 n0) ({ frames := 0, cells := 0, slots := 0, locals := 0 } : Room).cells ({ frames := 0, cells := 0, slots := 0, locals := 0 } : Room).slots)) (own_from (mkF m 0 #[rv b, iv 0, iv cc] []) (castTop (own_ef_PC_2_0 m b (0 : Int32) cc)) ?_)
  obtain ⟨T50, X50, e50, st50⟩ := getS2 X0 hx hZ hown (host := "") (Or.inl (own_w hw 97 rfl)) Via.refl e0 (OAD.ext OL.2) (g := (mkF m 0 #[rv b, iv 0, iv cc] [])) rfl (hb hby own_d59)
  refine own_to (mkF m 3 #[rv b, iv 0, iv cc] [(.int (1 : Int32))]) st50 ?_
  refine own_ifY 28 X50 hx (hb hby own_d60) ((if0 _ _).trans (feq (by decide : ¬ ((1 : Int32) = (0 : Int32)))).2) (by decide) (by decide) ?_
  refine own_iln 29 X50 hx (hb hby own_d61) rfl rfl ?_
  refine own_ic 30 1 X50 hx (hb hby own_d62) rfl rfl ?_
  refine own_ishl 31 X50 hx (hb hby own_d63) (z := (0 : Int32)) rfl rfl ?_
  refine own_isn 32 #[rv b, iv 0, iv cc] X50 hx (hb hby own_d64) rfl rfl ?_
  refine own_aln 33 X50 hx (hb hby own_d65) rfl rfl rfl ?_
  refine own_iln 34 X50 hx (hb hby own_d66) rfl rfl ?_
  refine own_inc 37 #[rv b, iv 1, iv cc] X50 hx (hb hby own_d67) rfl rfl rfl ?_
  refine own_iln 38 X50 hx (hb hby own_d68) rfl rfl ?_
  obtain ⟨T51, X51, e51, st51⟩ := getS2 X50 hx hZ hown (host := "") (Or.inl (own_w hw 98 rfl)) Via.refl e50 (OHI.ext OL.2) (g := (mkF m 38 #[rv b, iv 1, iv cc] [(.int cc), (.int (0 : Int32)), (.ref b)])) rfl (hb hby own_d69)
  refine own_to (mkF m 41 #[rv b, iv 1, iv cc] [(.int (0 : Int32)), (.int cc), (.int (0 : Int32)), (.ref b)]) st51 ?_
  refine own_ishr 42 X51 hx (hb hby own_d70) rfl rfl ?_
  refine own_i2b 43 X51 hx (hb hby own_d71) rfl rfl ?_
  obtain ⟨cl52, Ar52, q52, S52, M52, H52, G52⟩ := id Vb
  obtain ⟨T52, h52, X52, e52, W52, st52⟩ := stB X51 hx hZ e51 Ar52 (j := (0 : Int32)) (inb_of S52 ⟨by decide, by decide⟩) (g := (mkF m 43 #[rv b, iv 1, iv cc] [(.int ((cc >>> ((0 : Int32) &&& 31)).toInt8.toInt32)), (.int (0 : Int32)), (.ref b)])) rfl rfl (hb hby own_d72)
  refine own_to (mkF m 44 #[rv b, iv 1, iv cc] []) st52 ?_
  have N52 := Fr.snoc X52 N0 ge_b
  have tmp52 : Arv Z h52 b kb .byte (4 : Int32) [(.int (((cc >>> ((0 : Int32) &&& 31)).toInt8.toInt32).toInt8.toInt32)), (.int u1), (.int u2), (.int u3)] (.int (0 : Int32)) := Arv.set Ar52 q52 S52 M52 H52 G52 (fits_nar_byte _) W52 0 rfl (Nat.le_of_ble_eq_true rfl)
  rw [own_b8] at tmp52
  have OL := OL.wr W52 ge_b
  have KP := KP.wr W52 (Or.inl (List.mem_of_getElem? (i := 0) rfl))
  have Vb := tmp52
  refine own_aln 45 X52 hx (hb hby own_d73) rfl rfl rfl ?_
  refine own_iln 46 X52 hx (hb hby own_d74) rfl rfl ?_
  refine own_iln 47 X52 hx (hb hby own_d75) rfl rfl ?_
  obtain ⟨T53, X53, e53, st53⟩ := getS2 X52 hx hZ hown (host := "") (Or.inl (own_w hw 99 rfl)) Via.refl e52 (OLO.ext OL.2) (g := (mkF m 47 #[rv b, iv 1, iv cc] [(.int cc), (.int (1 : Int32)), (.ref b)])) rfl (hb hby own_d76)
  refine own_to (mkF m 50 #[rv b, iv 1, iv cc] [(.int (8 : Int32)), (.int cc), (.int (1 : Int32)), (.ref b)]) st53 ?_
  refine own_ishr 51 X53 hx (hb hby own_d77) rfl rfl ?_
  refine own_i2b 52 X53 hx (hb hby own_d78) rfl rfl ?_
  obtain ⟨cl54, Ar54, q54, S54, M54, H54, G54⟩ := id Vb
  obtain ⟨T54, h54, X54, e54, W54, st54⟩ := stB X53 hx hZ e53 Ar54 (j := (1 : Int32)) (inb_of S54 ⟨by decide, by decide⟩) (g := (mkF m 52 #[rv b, iv 1, iv cc] [(.int ((cc >>> ((8 : Int32) &&& 31)).toInt8.toInt32)), (.int (1 : Int32)), (.ref b)])) rfl rfl (hb hby own_d79)
  refine own_to (mkF m 53 #[rv b, iv 1, iv cc] []) st54 ?_
  have N54 := Fr.snoc X54 N52 ge_b
  have tmp54 : Arv Z h54 b kb .byte (4 : Int32) [(.int ((cc >>> ((0 : Int32) &&& 31)).toInt8.toInt32)), (.int (((cc >>> ((8 : Int32) &&& 31)).toInt8.toInt32).toInt8.toInt32)), (.int u2), (.int u3)] (.int (0 : Int32)) := Arv.set Ar54 q54 S54 M54 H54 G54 (fits_nar_byte _) W54 1 rfl (Nat.le_of_ble_eq_true rfl)
  rw [own_b8] at tmp54
  have OL := OL.wr W54 ge_b
  have KP := KP.wr W54 (Or.inl (List.mem_of_getElem? (i := 0) rfl))
  have Vb := tmp54
  exact own_ret0 X54 hx Bd.returns hlk (hb hby own_d80) (by decide) (by decide) (by rw [e54]; exact ⟨rfl, N54, KP, Vb⟩)
def own_QPC_2_1 (Z : State) (u0 u1 u2 u3 cc : Int32) (G1 : Int32) (b : Addr) (kb : ClassId) (h0 : Heap) (n0 : Nat) (v : Option Value) (h : Heap) (L : List Loc) : Prop := v = none ∧ Fr n0 L ∧ Keep h0 h [b] ∧ Arv Z h b kb .byte (4 : Int32) [(.int u0), (.int u1), (.int ((cc >>> ((0 : Int32) &&& 31)).toInt8.toInt32)), (.int ((cc >>> ((8 : Int32) &&& 31)).toInt8.toInt32))] (.int (0 : Int32))
set_option maxRecDepth 65536 in
set_option maxHeartbeats 40000000 in
theorem own_rmPC_2_1 (l : Launch) (Z : State) (a0 : Array Value) (hw : ∀ d ∈ tables_1, d.before a0 Z = true) (ws : List Jvm.Cond) (u0 u1 u2 u3 cc : Int32) (G1 : Int32) (b : Addr) (kb : ClassId) (h0 : Heap) (n0 : Nat) (Z0 : n0 ≤ h0.size) (OL : Old Z n0 h0) (ge_b : n0 ≤ b) (Vb : Arv Z h0 b kb .byte (4 : Int32) [(.int u0), (.int u1), (.int u2), (.int u3)] (.int (0 : Int32))) (O2 : Sta Z Z.heap "java/lang/String" "COMPACT_STRINGS" "Z" (.int G1)) (P5 : ¬ (G1 = (0 : Int32))) (OAD : Sta Z Z.heap "java/lang/StringUTF16" "$assertionsDisabled" "Z" (.int (1 : Int32))) (OHI : Sta Z Z.heap "java/lang/StringUTF16" "HI_BYTE_SHIFT" "I" (.int (0 : Int32))) (OLO : Sta Z Z.heap "java/lang/StringUTF16" "LO_BYTE_SHIFT" "I" (.int (8 : Int32))) :
    own_MF l (⟨"java/lang/StringUTF16", "putChar", "([BII)V"⟩ : MethodName) (Jvm.Cond.code (⟨"java/lang/StringUTF16", "putChar", "([BII)V"⟩ : MethodName) jdk_52_method_4_code 3 none :: ws) ({ frames := 0, cells := 0, slots := 0, locals := 0 } : Room) #[(.ref b), (.int (1 : Int32)), (.int cc)] Z h0 (own_QPC_2_1 Z u0 u1 u2 u3 cc G1 b kb h0 n0) := by
  refine MetFree.of_bodySF (plainFor_of_name own_pn1) hisR ?_
  intro p e s m args below meth c s₁ Bd hml0 hP hK
  obtain ⟨rfl, hZ, hh⟩ := hP
  have hx := Bd.exec
  have hby := Bd.bytes
  have hlk : meth.locks = false := BodyLoose.notSynchronized Bd
  have hml : c.maxLocals = 3 := hml0
  have hown : s.vm.findClass "java/lang/StringUTF16" = some m.cls := findClass_of_methodNamed Bd.named
  have hnm := (name_of_methodNamed Bd.named Bd.method).1
  have X0 : Stand p l e ({ frames := 0, cells := 0, slots := 0, locals := 0 } : Room) s m #[(.ref b), (.int (1 : Int32)), (.int cc)] below meth c s₁ [] 0 0 := Stand.of_body Bd
  have e0 : s₁.heap = h0 := by rw [← hh, Bd.state]; rfl
  have N0 := Fr.nil n0
  have KP : Keep h0 h0 [b] := Keep.refl _ _
  refine own_start (Fin := (own_Fin s (own_QPC_2_1 Z u0 u1 u2 u3 cc G1 b kb h0 n0) ({ frames := 0, cells := 0, slots := 0, locals := 0 } : Room).cells ({ frames := 0, cells := 0, slots := 0, locals := 0 } : Room).slots)) (own_from (mkF m 0 #[rv b, iv 1, iv cc] []) (castTop (own_ef_PC_2_1 m b (1 : Int32) cc)) ?_)
  obtain ⟨T55, X55, e55, st55⟩ := getS2 X0 hx hZ hown (host := "") (Or.inl (own_w hw 97 rfl)) Via.refl e0 (OAD.ext OL.2) (g := (mkF m 0 #[rv b, iv 1, iv cc] [])) rfl (hb hby own_d59)
  refine own_to (mkF m 3 #[rv b, iv 1, iv cc] [(.int (1 : Int32))]) st55 ?_
  refine own_ifY 28 X55 hx (hb hby own_d60) ((if0 _ _).trans (feq (by decide : ¬ ((1 : Int32) = (0 : Int32)))).2) (by decide) (by decide) ?_
  refine own_iln 29 X55 hx (hb hby own_d61) rfl rfl ?_
  refine own_ic 30 1 X55 hx (hb hby own_d62) rfl rfl ?_
  refine own_ishl 31 X55 hx (hb hby own_d63) (z := (2 : Int32)) rfl rfl ?_
  refine own_isn 32 #[rv b, iv 2, iv cc] X55 hx (hb hby own_d64) rfl rfl ?_
  refine own_aln 33 X55 hx (hb hby own_d65) rfl rfl rfl ?_
  refine own_iln 34 X55 hx (hb hby own_d66) rfl rfl ?_
  refine own_inc 37 #[rv b, iv 3, iv cc] X55 hx (hb hby own_d67) rfl rfl rfl ?_
  refine own_iln 38 X55 hx (hb hby own_d68) rfl rfl ?_
  obtain ⟨T56, X56, e56, st56⟩ := getS2 X55 hx hZ hown (host := "") (Or.inl (own_w hw 98 rfl)) Via.refl e55 (OHI.ext OL.2) (g := (mkF m 38 #[rv b, iv 3, iv cc] [(.int cc), (.int (2 : Int32)), (.ref b)])) rfl (hb hby own_d69)
  refine own_to (mkF m 41 #[rv b, iv 3, iv cc] [(.int (0 : Int32)), (.int cc), (.int (2 : Int32)), (.ref b)]) st56 ?_
  refine own_ishr 42 X56 hx (hb hby own_d70) rfl rfl ?_
  refine own_i2b 43 X56 hx (hb hby own_d71) rfl rfl ?_
  obtain ⟨cl57, Ar57, q57, S57, M57, H57, G57⟩ := id Vb
  obtain ⟨T57, h57, X57, e57, W57, st57⟩ := stB X56 hx hZ e56 Ar57 (j := (2 : Int32)) (inb_of S57 ⟨by decide, by decide⟩) (g := (mkF m 43 #[rv b, iv 3, iv cc] [(.int ((cc >>> ((0 : Int32) &&& 31)).toInt8.toInt32)), (.int (2 : Int32)), (.ref b)])) rfl rfl (hb hby own_d72)
  refine own_to (mkF m 44 #[rv b, iv 3, iv cc] []) st57 ?_
  have N57 := Fr.snoc X57 N0 ge_b
  have tmp57 : Arv Z h57 b kb .byte (4 : Int32) [(.int u0), (.int u1), (.int (((cc >>> ((0 : Int32) &&& 31)).toInt8.toInt32).toInt8.toInt32)), (.int u3)] (.int (0 : Int32)) := Arv.set Ar57 q57 S57 M57 H57 G57 (fits_nar_byte _) W57 2 rfl (Nat.le_of_ble_eq_true rfl)
  rw [own_b8] at tmp57
  have OL := OL.wr W57 ge_b
  have KP := KP.wr W57 (Or.inl (List.mem_of_getElem? (i := 0) rfl))
  have Vb := tmp57
  refine own_aln 45 X57 hx (hb hby own_d73) rfl rfl rfl ?_
  refine own_iln 46 X57 hx (hb hby own_d74) rfl rfl ?_
  refine own_iln 47 X57 hx (hb hby own_d75) rfl rfl ?_
  obtain ⟨T58, X58, e58, st58⟩ := getS2 X57 hx hZ hown (host := "") (Or.inl (own_w hw 99 rfl)) Via.refl e57 (OLO.ext OL.2) (g := (mkF m 47 #[rv b, iv 3, iv cc] [(.int cc), (.int (3 : Int32)), (.ref b)])) rfl (hb hby own_d76)
  refine own_to (mkF m 50 #[rv b, iv 3, iv cc] [(.int (8 : Int32)), (.int cc), (.int (3 : Int32)), (.ref b)]) st58 ?_
  refine own_ishr 51 X58 hx (hb hby own_d77) rfl rfl ?_
  refine own_i2b 52 X58 hx (hb hby own_d78) rfl rfl ?_
  obtain ⟨cl59, Ar59, q59, S59, M59, H59, G59⟩ := id Vb
  obtain ⟨T59, h59, X59, e59, W59, st59⟩ := stB X58 hx hZ e58 Ar59 (j := (3 : Int32)) (inb_of S59 ⟨by decide, by decide⟩) (g := (mkF m 52 #[rv b, iv 3, iv cc] [(.int ((cc >>> ((8 : Int32) &&& 31)).toInt8.toInt32)), (.int (3 : Int32)), (.ref b)])) rfl rfl (hb hby own_d79)
  refine own_to (mkF m 53 #[rv b, iv 3, iv cc] []) st59 ?_
  have N59 := Fr.snoc X59 N57 ge_b
  have tmp59 : Arv Z h59 b kb .byte (4 : Int32) [(.int u0), (.int u1), (.int ((cc >>> ((0 : Int32) &&& 31)).toInt8.toInt32)), (.int (((cc >>> ((8 : Int32) &&& 31)).toInt8.toInt32).toInt8.toInt32))] (.int (0 : Int32)) := Arv.set Ar59 q59 S59 M59 H59 G59 (fits_nar_byte _) W59 3 rfl (Nat.le_of_ble_eq_true rfl)
  rw [own_b8] at tmp59
  have OL := OL.wr W59 ge_b
  have KP := KP.wr W59 (Or.inl (List.mem_of_getElem? (i := 0) rfl))
  have Vb := tmp59
  exact own_ret0 X59 hx Bd.returns hlk (hb hby own_d80) (by decide) (by decide) (by rw [e59]; exact ⟨rfl, N59, KP, Vb⟩)
def own_QTS_2 (Z : State) (x0 x1 : Int32) (G1 : Int32) (a : Addr) (ka : ClassId) (h0 : Heap) (n0 : Nat) (v : Option Value) (h : Heap) (L : List Loc) : Prop := ∃ (b : Addr) (kb : ClassId), v = some (.ref b) ∧ Fr n0 L ∧ Keep h0 h [] ∧ n0 ≤ b ∧ h0.size ≤ b ∧ Arv Z h b kb .byte (4 : Int32) [(.int ((x0 >>> ((0 : Int32) &&& 31)).toInt8.toInt32)), (.int ((x0 >>> ((8 : Int32) &&& 31)).toInt8.toInt32)), (.int ((x1 >>> ((0 : Int32) &&& 31)).toInt8.toInt32)), (.int ((x1 >>> ((8 : Int32) &&& 31)).toInt8.toInt32))] (.int (0 : Int32))
set_option maxRecDepth 65536 in
set_option maxHeartbeats 40000000 in
theorem own_rmTS_2 (l : Launch) (Z : State) (a0 : Array Value) (hw : ∀ d ∈ tables_1, d.before a0 Z = true) (ws : List Jvm.Cond) (x0 x1 : Int32) (G1 : Int32) (a : Addr) (ka : ClassId) (h0 : Heap) (n0 : Nat) (Z0 : n0 ≤ h0.size) (OL : Old Z n0 h0) (Va : Arv Z h0 a ka .char (2 : Int32) [(.int x0), (.int x1)] (.int (0 : Int32))) (O2 : Sta Z Z.heap "java/lang/String" "COMPACT_STRINGS" "Z" (.int G1)) (P5 : ¬ (G1 = (0 : Int32))) (OAD : Sta Z Z.heap "java/lang/StringUTF16" "$assertionsDisabled" "Z" (.int (1 : Int32))) (OHI : Sta Z Z.heap "java/lang/StringUTF16" "HI_BYTE_SHIFT" "I" (.int (0 : Int32))) (OLO : Sta Z Z.heap "java/lang/StringUTF16" "LO_BYTE_SHIFT" "I" (.int (8 : Int32))) :
    own_MF l (⟨"java/lang/StringUTF16", "toBytes", "([CII)[B"⟩ : MethodName) (Jvm.Cond.code (⟨"java/lang/StringUTF16", "toBytes", "([CII)[B"⟩ : MethodName) jdk_52_method_14_code 5 (some (.array .byte)) :: ws) ({ frames := 2, cells := 1, slots := 4, locals := 40 } : Room) #[(.ref a), (.int (0 : Int32)), (.int (2 : Int32))] Z h0 (own_QTS_2 Z x0 x1 G1 a ka h0 n0) := by
  refine MetFree.of_bodySF (plainFor_of_name own_pn1) hisR ?_
  intro p e s m args below meth c s₁ Bd hml0 hP hK
  obtain ⟨rfl, hZ, hh⟩ := hP
  have hx := Bd.exec
  have hby := Bd.bytes
  have hlk : meth.locks = false := BodyLoose.notSynchronized Bd
  have hml : c.maxLocals = 5 := hml0
  have hown : s.vm.findClass "java/lang/StringUTF16" = some m.cls := findClass_of_methodNamed Bd.named
  have hnm := (name_of_methodNamed Bd.named Bd.method).1
  have X0 : Stand p l e ({ frames := 2, cells := 1, slots := 4, locals := 40 } : Room) s m #[(.ref a), (.int (0 : Int32)), (.int (2 : Int32))] below meth c s₁ [] 0 0 := Stand.of_body Bd
  have e0 : s₁.heap = h0 := by rw [← hh, Bd.state]; rfl
  have N0 := Fr.nil n0
  have KP : Keep h0 h0 [] := Keep.refl _ _
  refine own_start (Fin := (own_Fin s (own_QTS_2 Z x0 x1 G1 a ka h0 n0) ({ frames := 2, cells := 1, slots := 4, locals := 40 } : Room).cells ({ frames := 2, cells := 1, slots := 4, locals := 40 } : Room).slots)) (own_from (mkF m 0 #[rv a, iv 0, iv 2, .unset, .unset] []) (castTop (own_ef_TS_2 m a (0 : Int32) (2 : Int32))) ?_)
  refine own_iln 1 X0 hx (hb hby own_d81) rfl rfl ?_
  have KP0 := KP
  have lt0_a := Va.lt
  obtain ⟨_, T60, Lc60, X60, hQ60, st60⟩ := own_callS X0 hx (y := (⟨"java/lang/StringUTF16", "newBytesFor", "(I)[B"⟩ : MethodName)) hown (mvT hZ (own_w hw 87 rfl)) (mvT hZ (own_w hw 88 rfl)) (mvT hZ (own_w hw 24 rfl)) (mvT hZ (own_w hw 89 rfl)) (by decide) (backOf (W := 0) (own_rmNF_2 l Z a0 hw [] h0 n0 (Nat.le_trans Z0 KP.1) OL) hZ (own_w hw 89 rfl) (own_w hw 24 rfl) (by decide) (by decide)) (g := (mkF m 1 #[rv a, iv 0, iv 2, .unset, .unset] [(.int (2 : Int32))])) rfl (by rw [hml]; rfl) (argsL := [(.int (2 : Int32))]) (rest := []) (lenOf own_pd2 rfl) rfl (by show 2 * 0 + _ ≤ _; exact Nat.le_of_eq rfl) (hb hby own_d82) rfl e0 (kc := 1) (ks := 4) rfl rfl (by decide) (by decide)
  obtain ⟨bu, kbu, rfl, N60q, K60, ge_bu, sz0_bu, V0_bu⟩ := hQ60
  have N60 := Fr.app N0 N60q
  have OL := OL.keep K60 all0
  have KP := KP.trans K60 all0
  have Va := Va.keep K60 nin0
  refine own_to (mkF m 4 #[rv a, iv 0, iv 2, .unset, .unset] [(.ref bu)]) st60 ?_
  have sz_bu : h0.size ≤ bu := Nat.le_trans KP0.1 sz0_bu
  have ne_a_bu : a ≠ bu := Nat.ne_of_lt (Nat.lt_of_lt_of_le lt0_a sz0_bu)
  have Vu : Arv Z T60.heap bu kbu .byte (4 : Int32) [(.int (0 : Int32)), (.int (0 : Int32)), (.int (0 : Int32)), (.int (0 : Int32))] (.int (0 : Int32)) := V0_bu
  refine own_asn 5 #[rv a, iv 0, iv 2, rv bu, .unset] X60 hx (hb hby own_d83) rfl rfl rfl ?_
  refine own_ic 6 0 X60 hx (hb hby own_d84) rfl rfl ?_
  refine own_is 8 #[rv a, iv 0, iv 2, rv bu, iv 0] X60 hx (hb hby own_d85) rfl rfl ?_
  refine own_il 10 X60 hx (hb hby own_d86) rfl rfl ?_
  refine own_iln 11 X60 hx (hb hby own_d87) rfl rfl ?_
  refine own_icN 14 X60 hx (hb hby own_d88) (tlt (by decide : (0 : Int32) < (2 : Int32))).2.1 rfl ?_
  refine own_aln 15 X60 hx (hb hby own_d89) rfl rfl rfl ?_
  refine own_il 17 X60 hx (hb hby own_d90) rfl rfl ?_
  refine own_aln 18 X60 hx (hb hby own_d91) rfl rfl rfl ?_
  refine own_iln 19 X60 hx (hb hby own_d92) rfl rfl ?_
  obtain ⟨cl61, Ar61, -, S61, -, H61, -⟩ := id Va
  refine own_to (mkF m 20 #[rv a, iv 0, iv 2, rv bu, iv 0] [(.int x0), (.int (0 : Int32)), (.ref bu)]) (X60.caload hx (j := (0 : Int32)) (v := (.int x0)) Ar61.1 (State.isArrayOf_alike hZ.alike Ar61.2.1) Ar61.2.2 (inb_of S61 ⟨by decide, by decide⟩) (H61.at (inb_of S61 ⟨by decide, by decide⟩) rfl) (g := (mkF m 19 #[rv a, iv 0, iv 2, rv bu, iv 0] [(.int (0 : Int32)), (.ref a), (.int (0 : Int32)), (.ref bu)])) rfl rfl (hb hby own_d93)) ?_
  obtain ⟨_, T62, Lc62, X62, hQ62, st62⟩ := own_callS X60 hx (y := (⟨"java/lang/StringUTF16", "putChar", "([BII)V"⟩ : MethodName)) hown (mvT hZ (own_w hw 94 rfl)) (mvT hZ (own_w hw 95 rfl)) (mvT hZ (own_w hw 24 rfl)) (mvT hZ (own_w hw 96 rfl)) (by decide) (backOf (W := 0) (own_rmPC_2_0 l Z a0 hw [] (0 : Int32) (0 : Int32) (0 : Int32) (0 : Int32) x0 G1 bu kbu T60.heap n0 (Nat.le_trans Z0 KP.1) OL ge_bu Vu O2 P5 OAD OHI OLO) hZ (own_w hw 96 rfl) (own_w hw 24 rfl) (by decide) (by decide)) (g := (mkF m 20 #[rv a, iv 0, iv 2, rv bu, iv 0] [(.int x0), (.int (0 : Int32)), (.ref bu)])) rfl (by rw [hml]; rfl) (argsL := [(.ref bu), (.int (0 : Int32)), (.int x0)]) (rest := []) (lenOf own_pd3 rfl) rfl (by show 2 * 0 + _ ≤ _; exact Nat.le_of_eq rfl) (hb hby own_d94) rfl rfl (kc := 1) (ks := 4) rfl rfl (by decide) (by decide)
  obtain ⟨rfl, N62q, K62, Vq62⟩ := hQ62
  have N62 := Fr.app N60 N62q
  have OL := OL.keep K62 (allS ge_bu all0)
  have KP := KP.trans K62 (allS (Or.inr sz_bu) all0)
  have Va := Va.keep K62 (ninS ne_a_bu nin0)
  refine own_to (mkF m 23 #[rv a, iv 0, iv 2, rv bu, iv 0] []) st62 ?_
  have Vu : Arv Z T62.heap bu kbu .byte (4 : Int32) [(.int ((x0 >>> ((0 : Int32) &&& 31)).toInt8.toInt32)), (.int ((x0 >>> ((8 : Int32) &&& 31)).toInt8.toInt32)), (.int (0 : Int32)), (.int (0 : Int32))] (.int (0 : Int32)) := Vq62
  refine own_inc 26 #[rv a, iv 1, iv 2, rv bu, iv 0] X62 hx (hb hby own_d95) rfl rfl rfl ?_
  refine own_inc 29 #[rv a, iv 1, iv 2, rv bu, iv 1] X62 hx (hb hby own_d96) rfl rfl rfl ?_
  refine own_go 8 X62 hx (hb hby own_d97) (by decide) (by decide) ?_
  refine own_il 10 X62 hx (hb hby own_d86) rfl rfl ?_
  refine own_iln 11 X62 hx (hb hby own_d87) rfl rfl ?_
  refine own_icN 14 X62 hx (hb hby own_d88) (tlt (by decide : (1 : Int32) < (2 : Int32))).2.1 rfl ?_
  refine own_aln 15 X62 hx (hb hby own_d89) rfl rfl rfl ?_
  refine own_il 17 X62 hx (hb hby own_d90) rfl rfl ?_
  refine own_aln 18 X62 hx (hb hby own_d91) rfl rfl rfl ?_
  refine own_iln 19 X62 hx (hb hby own_d92) rfl rfl ?_
  obtain ⟨cl63, Ar63, -, S63, -, H63, -⟩ := id Va
  refine own_to (mkF m 20 #[rv a, iv 1, iv 2, rv bu, iv 1] [(.int x1), (.int (1 : Int32)), (.ref bu)]) (X62.caload hx (j := (1 : Int32)) (v := (.int x1)) Ar63.1 (State.isArrayOf_alike hZ.alike Ar63.2.1) Ar63.2.2 (inb_of S63 ⟨by decide, by decide⟩) (H63.at (inb_of S63 ⟨by decide, by decide⟩) rfl) (g := (mkF m 19 #[rv a, iv 1, iv 2, rv bu, iv 1] [(.int (1 : Int32)), (.ref a), (.int (1 : Int32)), (.ref bu)])) rfl rfl (hb hby own_d93)) ?_
  obtain ⟨_, T64, Lc64, X64, hQ64, st64⟩ := own_callS X62 hx (y := (⟨"java/lang/StringUTF16", "putChar", "([BII)V"⟩ : MethodName)) hown (mvT hZ (own_w hw 94 rfl)) (mvT hZ (own_w hw 95 rfl)) (mvT hZ (own_w hw 24 rfl)) (mvT hZ (own_w hw 96 rfl)) (by decide) (backOf (W := 0) (own_rmPC_2_1 l Z a0 hw [] ((x0 >>> ((0 : Int32) &&& 31)).toInt8.toInt32) ((x0 >>> ((8 : Int32) &&& 31)).toInt8.toInt32) (0 : Int32) (0 : Int32) x1 G1 bu kbu T62.heap n0 (Nat.le_trans Z0 KP.1) OL ge_bu Vu O2 P5 OAD OHI OLO) hZ (own_w hw 96 rfl) (own_w hw 24 rfl) (by decide) (by decide)) (g := (mkF m 20 #[rv a, iv 1, iv 2, rv bu, iv 1] [(.int x1), (.int (1 : Int32)), (.ref bu)])) rfl (by rw [hml]; rfl) (argsL := [(.ref bu), (.int (1 : Int32)), (.int x1)]) (rest := []) (lenOf own_pd3 rfl) rfl (by show 2 * 0 + _ ≤ _; exact Nat.le_of_eq rfl) (hb hby own_d94) rfl rfl (kc := 1) (ks := 4) rfl rfl (by decide) (by decide)
  obtain ⟨rfl, N64q, K64, Vq64⟩ := hQ64
  have N64 := Fr.app N62 N64q
  have OL := OL.keep K64 (allS ge_bu all0)
  have KP := KP.trans K64 (allS (Or.inr sz_bu) all0)
  have Va := Va.keep K64 (ninS ne_a_bu nin0)
  refine own_to (mkF m 23 #[rv a, iv 1, iv 2, rv bu, iv 1] []) st64 ?_
  have Vu : Arv Z T64.heap bu kbu .byte (4 : Int32) [(.int ((x0 >>> ((0 : Int32) &&& 31)).toInt8.toInt32)), (.int ((x0 >>> ((8 : Int32) &&& 31)).toInt8.toInt32)), (.int ((x1 >>> ((0 : Int32) &&& 31)).toInt8.toInt32)), (.int ((x1 >>> ((8 : Int32) &&& 31)).toInt8.toInt32))] (.int (0 : Int32)) := Vq64
  refine own_inc 26 #[rv a, iv 2, iv 2, rv bu, iv 1] X64 hx (hb hby own_d95) rfl rfl rfl ?_
  refine own_inc 29 #[rv a, iv 2, iv 2, rv bu, iv 2] X64 hx (hb hby own_d96) rfl rfl rfl ?_
  refine own_go 8 X64 hx (hb hby own_d97) (by decide) (by decide) ?_
  refine own_il 10 X64 hx (hb hby own_d86) rfl rfl ?_
  refine own_iln 11 X64 hx (hb hby own_d87) rfl rfl ?_
  refine own_icY 32 X64 hx (hb hby own_d88) (flt (by decide : ¬ ((2 : Int32) < (2 : Int32)))).2.1 (by decide) (by decide) ?_
  refine own_aln 33 X64 hx (hb hby own_d98) rfl rfl rfl ?_
  exact own_retA X64 hx Bd.returns rfl hlk (hb hby own_d99) rfl (by decide) (by decide) (by exact ⟨bu, kbu, rfl, N64, KP, ge_bu, sz_bu, Vu⟩)
def own_QGC_2_0 (Z : State) (x0 x1 : Int32) (G1 : Int32) (b : Addr) (kb : ClassId) (h0 : Heap) (n0 : Nat) (v : Option Value) (h : Heap) (L : List Loc) : Prop := v = some (.int x0) ∧ Fr n0 L ∧ h = h0
set_option maxRecDepth 65536 in
set_option maxHeartbeats 40000000 in
theorem own_rmGC_2_0 (l : Launch) (Z : State) (a0 : Array Value) (hw : ∀ d ∈ tables_1, d.before a0 Z = true) (ws : List Jvm.Cond) (x0 x1 : Int32) (G1 : Int32) (b : Addr) (kb : ClassId) (h0 : Heap) (n0 : Nat) (Z0 : n0 ≤ h0.size) (OL : Old Z n0 h0) (hx0 : own_C16 x0) (Vb : Arv Z h0 b kb .byte (4 : Int32) [(.int ((x0 >>> ((0 : Int32) &&& 31)).toInt8.toInt32)), (.int ((x0 >>> ((8 : Int32) &&& 31)).toInt8.toInt32)), (.int ((x1 >>> ((0 : Int32) &&& 31)).toInt8.toInt32)), (.int ((x1 >>> ((8 : Int32) &&& 31)).toInt8.toInt32))] (.int (0 : Int32))) (O2 : Sta Z Z.heap "java/lang/String" "COMPACT_STRINGS" "Z" (.int G1)) (P5 : ¬ (G1 = (0 : Int32))) (OAD : Sta Z Z.heap "java/lang/StringUTF16" "$assertionsDisabled" "Z" (.int (1 : Int32))) (OHI : Sta Z Z.heap "java/lang/StringUTF16" "HI_BYTE_SHIFT" "I" (.int (0 : Int32))) (OLO : Sta Z Z.heap "java/lang/StringUTF16" "LO_BYTE_SHIFT" "I" (.int (8 : Int32))) :
    own_MF l (⟨"java/lang/StringUTF16", "getChar", "([BI)C"⟩ : MethodName) (Jvm.Cond.code (⟨"java/lang/StringUTF16", "getChar", "([BI)C"⟩ : MethodName) jdk_52_method_5_code 2 (some .char) :: ws) ({ frames := 0, cells := 0, slots := 0, locals := 0 } : Room) #[(.ref b), (.int (0 : Int32))] Z h0 (own_QGC_2_0 Z x0 x1 G1 b kb h0 n0) := by
  refine MetFree.of_bodySF (plainFor_of_name own_pn1) hisR ?_
  intro p e s m args below meth c s₁ Bd hml0 hP hK
  obtain ⟨rfl, hZ, hh⟩ := hP
  have hx := Bd.exec
  have hby := Bd.bytes
  have hlk : meth.locks = false := BodyLoose.notSynchronized Bd
  have hml : c.maxLocals = 2 := hml0
  have hown : s.vm.findClass "java/lang/StringUTF16" = some m.cls := findClass_of_methodNamed Bd.named
  have hnm := (name_of_methodNamed Bd.named Bd.method).1
  have X0 : Stand p l e ({ frames := 0, cells := 0, slots := 0, locals := 0 } : Room) s m #[(.ref b), (.int (0 : Int32))] below meth c s₁ [] 0 0 := Stand.of_body Bd
  have e0 : s₁.heap = h0 := by rw [← hh, Bd.state]; rfl
  have N0 := Fr.nil n0
  have KP : Keep h0 h0 [] := Keep.refl _ _
  refine own_start (Fin := (own_Fin s (own_QGC_2_0 Z x0 x1 G1 b kb h0 n0) ({ frames := 0, cells := 0, slots := 0, locals := 0 } : Room).cells ({ frames := 0, cells := 0, slots := 0, locals := 0 } : Room).slots)) (own_from (mkF m 0 #[rv b, iv 0] []) (castTop (own_ef_GC_2_0 m b (0 : Int32))) ?_)
  obtain ⟨T65, X65, e65, st65⟩ := getS2 X0 hx hZ hown (host := "") (Or.inl (own_w hw 97 rfl)) Via.refl e0 (OAD.ext OL.2) (g := (mkF m 0 #[rv b, iv 0] [])) rfl (hb hby own_d100)
  refine own_to (mkF m 3 #[rv b, iv 0] [(.int (1 : Int32))]) st65 ?_
  refine own_ifY 28 X65 hx (hb hby own_d101) ((if0 _ _).trans (feq (by decide : ¬ ((1 : Int32) = (0 : Int32)))).2) (by decide) (by decide) ?_
  refine own_iln 29 X65 hx (hb hby own_d102) rfl rfl ?_
  refine own_ic 30 1 X65 hx (hb hby own_d103) rfl rfl ?_
  refine own_ishl 31 X65 hx (hb hby own_d104) (z := (0 : Int32)) rfl rfl ?_
  refine own_isn 32 #[rv b, iv 0] X65 hx (hb hby own_d105) rfl rfl ?_
  refine own_aln 33 X65 hx (hb hby own_d106) rfl rfl rfl ?_
  refine own_iln 34 X65 hx (hb hby own_d107) rfl rfl ?_
  refine own_inc 37 #[rv b, iv 1] X65 hx (hb hby own_d108) rfl rfl rfl ?_
  obtain ⟨cl66, Ar66, -, S66, -, H66, -⟩ := id Vb
  refine own_to (mkF m 38 #[rv b, iv 1] [(.int ((x0 >>> ((0 : Int32) &&& 31)).toInt8.toInt32))]) (X65.baloadBytes hx (j := (0 : Int32)) (v := (.int ((x0 >>> ((0 : Int32) &&& 31)).toInt8.toInt32))) (by rw [e65]; exact Ar66.1) (State.isArrayOf_alike hZ.alike Ar66.2.1) Ar66.2.2 (inb_of S66 ⟨by decide, by decide⟩) (H66.at (inb_of S66 ⟨by decide, by decide⟩) rfl) (g := (mkF m 37 #[rv b, iv 1] [(.int (0 : Int32)), (.ref b)])) rfl rfl (hb hby own_d109)) ?_
  refine own_si 41 255 X65 hx (hb hby own_d110) rfl rfl ?_
  refine own_iand 42 X65 hx (hb hby own_d111) rfl rfl ?_
  obtain ⟨T67, X67, e67, st67⟩ := getS2 X65 hx hZ hown (host := "") (Or.inl (own_w hw 98 rfl)) Via.refl e65 (OHI.ext OL.2) (g := (mkF m 42 #[rv b, iv 1] [(.int (((x0 >>> ((0 : Int32) &&& 31)).toInt8.toInt32) &&& (255 : Int32)))])) rfl (hb hby own_d112)
  refine own_to (mkF m 45 #[rv b, iv 1] [(.int (0 : Int32)), (.int (((x0 >>> ((0 : Int32) &&& 31)).toInt8.toInt32) &&& (255 : Int32)))]) st67 ?_
  refine own_ishl 46 X67 hx (hb hby own_d113) rfl rfl ?_
  refine own_aln 47 X67 hx (hb hby own_d114) rfl rfl rfl ?_
  refine own_iln 48 X67 hx (hb hby own_d115) rfl rfl ?_
  obtain ⟨cl68, Ar68, -, S68, -, H68, -⟩ := id Vb
  refine own_to (mkF m 49 #[rv b, iv 1] [(.int ((x0 >>> ((8 : Int32) &&& 31)).toInt8.toInt32)), (.int ((((x0 >>> ((0 : Int32) &&& 31)).toInt8.toInt32) &&& (255 : Int32)) <<< ((0 : Int32) &&& 31)))]) (X67.baloadBytes hx (j := (1 : Int32)) (v := (.int ((x0 >>> ((8 : Int32) &&& 31)).toInt8.toInt32))) (by rw [e67]; exact Ar68.1) (State.isArrayOf_alike hZ.alike Ar68.2.1) Ar68.2.2 (inb_of S68 ⟨by decide, by decide⟩) (H68.at (inb_of S68 ⟨by decide, by decide⟩) rfl) (g := (mkF m 48 #[rv b, iv 1] [(.int (1 : Int32)), (.ref b), (.int ((((x0 >>> ((0 : Int32) &&& 31)).toInt8.toInt32) &&& (255 : Int32)) <<< ((0 : Int32) &&& 31)))])) rfl rfl (hb hby own_d116)) ?_
  refine own_si 52 255 X67 hx (hb hby own_d117) rfl rfl ?_
  refine own_iand 53 X67 hx (hb hby own_d118) rfl rfl ?_
  obtain ⟨T69, X69, e69, st69⟩ := getS2 X67 hx hZ hown (host := "") (Or.inl (own_w hw 99 rfl)) Via.refl e67 (OLO.ext OL.2) (g := (mkF m 53 #[rv b, iv 1] [(.int (((x0 >>> ((8 : Int32) &&& 31)).toInt8.toInt32) &&& (255 : Int32))), (.int ((((x0 >>> ((0 : Int32) &&& 31)).toInt8.toInt32) &&& (255 : Int32)) <<< ((0 : Int32) &&& 31)))])) rfl (hb hby own_d119)
  refine own_to (mkF m 56 #[rv b, iv 1] [(.int (8 : Int32)), (.int (((x0 >>> ((8 : Int32) &&& 31)).toInt8.toInt32) &&& (255 : Int32))), (.int ((((x0 >>> ((0 : Int32) &&& 31)).toInt8.toInt32) &&& (255 : Int32)) <<< ((0 : Int32) &&& 31)))]) st69 ?_
  refine own_ishl 57 X69 hx (hb hby own_d120) rfl rfl ?_
  refine own_ior 58 X69 hx (hb hby own_d121) rfl rfl ?_
  refine own_i2c 59 X69 hx (hb hby own_d122) rfl rfl ?_
  exact own_retN X69 hx (t := .char) Bd.returns (by simp) hlk (hb hby own_d123) (by decide) (by decide) (by rw [e69]; exact ⟨by rw [own_hi hx0, own_nar16 hx0], N0, rfl⟩)
def own_QGC_2_1 (Z : State) (x0 x1 : Int32) (G1 : Int32) (b : Addr) (kb : ClassId) (h0 : Heap) (n0 : Nat) (v : Option Value) (h : Heap) (L : List Loc) : Prop := v = some (.int x1) ∧ Fr n0 L ∧ h = h0
set_option maxRecDepth 65536 in
set_option maxHeartbeats 40000000 in
theorem own_rmGC_2_1 (l : Launch) (Z : State) (a0 : Array Value) (hw : ∀ d ∈ tables_1, d.before a0 Z = true) (ws : List Jvm.Cond) (x0 x1 : Int32) (G1 : Int32) (b : Addr) (kb : ClassId) (h0 : Heap) (n0 : Nat) (Z0 : n0 ≤ h0.size) (OL : Old Z n0 h0) (hx1 : own_C16 x1) (Vb : Arv Z h0 b kb .byte (4 : Int32) [(.int ((x0 >>> ((0 : Int32) &&& 31)).toInt8.toInt32)), (.int ((x0 >>> ((8 : Int32) &&& 31)).toInt8.toInt32)), (.int ((x1 >>> ((0 : Int32) &&& 31)).toInt8.toInt32)), (.int ((x1 >>> ((8 : Int32) &&& 31)).toInt8.toInt32))] (.int (0 : Int32))) (O2 : Sta Z Z.heap "java/lang/String" "COMPACT_STRINGS" "Z" (.int G1)) (P5 : ¬ (G1 = (0 : Int32))) (OAD : Sta Z Z.heap "java/lang/StringUTF16" "$assertionsDisabled" "Z" (.int (1 : Int32))) (OHI : Sta Z Z.heap "java/lang/StringUTF16" "HI_BYTE_SHIFT" "I" (.int (0 : Int32))) (OLO : Sta Z Z.heap "java/lang/StringUTF16" "LO_BYTE_SHIFT" "I" (.int (8 : Int32))) :
    own_MF l (⟨"java/lang/StringUTF16", "getChar", "([BI)C"⟩ : MethodName) (Jvm.Cond.code (⟨"java/lang/StringUTF16", "getChar", "([BI)C"⟩ : MethodName) jdk_52_method_5_code 2 (some .char) :: ws) ({ frames := 0, cells := 0, slots := 0, locals := 0 } : Room) #[(.ref b), (.int (1 : Int32))] Z h0 (own_QGC_2_1 Z x0 x1 G1 b kb h0 n0) := by
  refine MetFree.of_bodySF (plainFor_of_name own_pn1) hisR ?_
  intro p e s m args below meth c s₁ Bd hml0 hP hK
  obtain ⟨rfl, hZ, hh⟩ := hP
  have hx := Bd.exec
  have hby := Bd.bytes
  have hlk : meth.locks = false := BodyLoose.notSynchronized Bd
  have hml : c.maxLocals = 2 := hml0
  have hown : s.vm.findClass "java/lang/StringUTF16" = some m.cls := findClass_of_methodNamed Bd.named
  have hnm := (name_of_methodNamed Bd.named Bd.method).1
  have X0 : Stand p l e ({ frames := 0, cells := 0, slots := 0, locals := 0 } : Room) s m #[(.ref b), (.int (1 : Int32))] below meth c s₁ [] 0 0 := Stand.of_body Bd
  have e0 : s₁.heap = h0 := by rw [← hh, Bd.state]; rfl
  have N0 := Fr.nil n0
  have KP : Keep h0 h0 [] := Keep.refl _ _
  refine own_start (Fin := (own_Fin s (own_QGC_2_1 Z x0 x1 G1 b kb h0 n0) ({ frames := 0, cells := 0, slots := 0, locals := 0 } : Room).cells ({ frames := 0, cells := 0, slots := 0, locals := 0 } : Room).slots)) (own_from (mkF m 0 #[rv b, iv 1] []) (castTop (own_ef_GC_2_1 m b (1 : Int32))) ?_)
  obtain ⟨T70, X70, e70, st70⟩ := getS2 X0 hx hZ hown (host := "") (Or.inl (own_w hw 97 rfl)) Via.refl e0 (OAD.ext OL.2) (g := (mkF m 0 #[rv b, iv 1] [])) rfl (hb hby own_d100)
  refine own_to (mkF m 3 #[rv b, iv 1] [(.int (1 : Int32))]) st70 ?_
  refine own_ifY 28 X70 hx (hb hby own_d101) ((if0 _ _).trans (feq (by decide : ¬ ((1 : Int32) = (0 : Int32)))).2) (by decide) (by decide) ?_
  refine own_iln 29 X70 hx (hb hby own_d102) rfl rfl ?_
  refine own_ic 30 1 X70 hx (hb hby own_d103) rfl rfl ?_
  refine own_ishl 31 X70 hx (hb hby own_d104) (z := (2 : Int32)) rfl rfl ?_
  refine own_isn 32 #[rv b, iv 2] X70 hx (hb hby own_d105) rfl rfl ?_
  refine own_aln 33 X70 hx (hb hby own_d106) rfl rfl rfl ?_
  refine own_iln 34 X70 hx (hb hby own_d107) rfl rfl ?_
  refine own_inc 37 #[rv b, iv 3] X70 hx (hb hby own_d108) rfl rfl rfl ?_
  obtain ⟨cl71, Ar71, -, S71, -, H71, -⟩ := id Vb
  refine own_to (mkF m 38 #[rv b, iv 3] [(.int ((x1 >>> ((0 : Int32) &&& 31)).toInt8.toInt32))]) (X70.baloadBytes hx (j := (2 : Int32)) (v := (.int ((x1 >>> ((0 : Int32) &&& 31)).toInt8.toInt32))) (by rw [e70]; exact Ar71.1) (State.isArrayOf_alike hZ.alike Ar71.2.1) Ar71.2.2 (inb_of S71 ⟨by decide, by decide⟩) (H71.at (inb_of S71 ⟨by decide, by decide⟩) rfl) (g := (mkF m 37 #[rv b, iv 3] [(.int (2 : Int32)), (.ref b)])) rfl rfl (hb hby own_d109)) ?_
  refine own_si 41 255 X70 hx (hb hby own_d110) rfl rfl ?_
  refine own_iand 42 X70 hx (hb hby own_d111) rfl rfl ?_
  obtain ⟨T72, X72, e72, st72⟩ := getS2 X70 hx hZ hown (host := "") (Or.inl (own_w hw 98 rfl)) Via.refl e70 (OHI.ext OL.2) (g := (mkF m 42 #[rv b, iv 3] [(.int (((x1 >>> ((0 : Int32) &&& 31)).toInt8.toInt32) &&& (255 : Int32)))])) rfl (hb hby own_d112)
  refine own_to (mkF m 45 #[rv b, iv 3] [(.int (0 : Int32)), (.int (((x1 >>> ((0 : Int32) &&& 31)).toInt8.toInt32) &&& (255 : Int32)))]) st72 ?_
  refine own_ishl 46 X72 hx (hb hby own_d113) rfl rfl ?_
  refine own_aln 47 X72 hx (hb hby own_d114) rfl rfl rfl ?_
  refine own_iln 48 X72 hx (hb hby own_d115) rfl rfl ?_
  obtain ⟨cl73, Ar73, -, S73, -, H73, -⟩ := id Vb
  refine own_to (mkF m 49 #[rv b, iv 3] [(.int ((x1 >>> ((8 : Int32) &&& 31)).toInt8.toInt32)), (.int ((((x1 >>> ((0 : Int32) &&& 31)).toInt8.toInt32) &&& (255 : Int32)) <<< ((0 : Int32) &&& 31)))]) (X72.baloadBytes hx (j := (3 : Int32)) (v := (.int ((x1 >>> ((8 : Int32) &&& 31)).toInt8.toInt32))) (by rw [e72]; exact Ar73.1) (State.isArrayOf_alike hZ.alike Ar73.2.1) Ar73.2.2 (inb_of S73 ⟨by decide, by decide⟩) (H73.at (inb_of S73 ⟨by decide, by decide⟩) rfl) (g := (mkF m 48 #[rv b, iv 3] [(.int (3 : Int32)), (.ref b), (.int ((((x1 >>> ((0 : Int32) &&& 31)).toInt8.toInt32) &&& (255 : Int32)) <<< ((0 : Int32) &&& 31)))])) rfl rfl (hb hby own_d116)) ?_
  refine own_si 52 255 X72 hx (hb hby own_d117) rfl rfl ?_
  refine own_iand 53 X72 hx (hb hby own_d118) rfl rfl ?_
  obtain ⟨T74, X74, e74, st74⟩ := getS2 X72 hx hZ hown (host := "") (Or.inl (own_w hw 99 rfl)) Via.refl e72 (OLO.ext OL.2) (g := (mkF m 53 #[rv b, iv 3] [(.int (((x1 >>> ((8 : Int32) &&& 31)).toInt8.toInt32) &&& (255 : Int32))), (.int ((((x1 >>> ((0 : Int32) &&& 31)).toInt8.toInt32) &&& (255 : Int32)) <<< ((0 : Int32) &&& 31)))])) rfl (hb hby own_d119)
  refine own_to (mkF m 56 #[rv b, iv 3] [(.int (8 : Int32)), (.int (((x1 >>> ((8 : Int32) &&& 31)).toInt8.toInt32) &&& (255 : Int32))), (.int ((((x1 >>> ((0 : Int32) &&& 31)).toInt8.toInt32) &&& (255 : Int32)) <<< ((0 : Int32) &&& 31)))]) st74 ?_
  refine own_ishl 57 X74 hx (hb hby own_d120) rfl rfl ?_
  refine own_ior 58 X74 hx (hb hby own_d121) rfl rfl ?_
  refine own_i2c 59 X74 hx (hb hby own_d122) rfl rfl ?_
  exact own_retN X74 hx (t := .char) Bd.returns (by simp) hlk (hb hby own_d123) (by decide) (by decide) (by rw [e74]; exact ⟨by rw [own_hi hx1, own_nar16 hx1], N0, rfl⟩)
def own_QC3_2 (Z : State) (x0 x1 : Int32) (G1 : Int32) (a : Addr) (ka : ClassId) (h0 : Heap) (n0 : Nat) (v : Option Value) (h : Heap) (L : List Loc) : Prop := ∃ (b : Addr) (kb : ClassId), v = some (.ref b) ∧ Fr n0 L ∧ Keep h0 h [] ∧ n0 ≤ b ∧ h0.size ≤ b ∧ ((¬ ((255 : Int32) < x0) ∧ ¬ ((255 : Int32) < x1) ∧ Arv Z h b kb .byte (2 : Int32) [(.int (x0.toInt8.toInt32)), (.int (x1.toInt8.toInt32))] (.int (0 : Int32))) ∨ Arv Z h b kb .byte (4 : Int32) [(.int ((x0 >>> ((0 : Int32) &&& 31)).toInt8.toInt32)), (.int ((x0 >>> ((8 : Int32) &&& 31)).toInt8.toInt32)), (.int ((x1 >>> ((0 : Int32) &&& 31)).toInt8.toInt32)), (.int ((x1 >>> ((8 : Int32) &&& 31)).toInt8.toInt32))] (.int (0 : Int32)))
set_option maxRecDepth 65536 in
set_option maxHeartbeats 40000000 in
theorem own_rmC3_2 (l : Launch) (Z : State) (a0 : Array Value) (hw : ∀ d ∈ tables_1, d.before a0 Z = true) (ws : List Jvm.Cond) (x0 x1 : Int32) (G1 : Int32) (a : Addr) (ka : ClassId) (h0 : Heap) (n0 : Nat) (Z0 : n0 ≤ h0.size) (OL : Old Z n0 h0) (hx0 : own_C16 x0) (hx1 : own_C16 x1) (Va : Arv Z h0 a ka .char (2 : Int32) [(.int x0), (.int x1)] (.int (0 : Int32))) (O2 : Sta Z Z.heap "java/lang/String" "COMPACT_STRINGS" "Z" (.int G1)) (P5 : ¬ (G1 = (0 : Int32))) (OAD : Sta Z Z.heap "java/lang/StringUTF16" "$assertionsDisabled" "Z" (.int (1 : Int32))) (OHI : Sta Z Z.heap "java/lang/StringUTF16" "HI_BYTE_SHIFT" "I" (.int (0 : Int32))) (OLO : Sta Z Z.heap "java/lang/StringUTF16" "LO_BYTE_SHIFT" "I" (.int (8 : Int32))) :
    own_MF l (⟨"java/lang/StringUTF16", "compress", "([CII)[B"⟩ : MethodName) (Jvm.Cond.code (⟨"java/lang/StringUTF16", "compress", "([CII)[B"⟩ : MethodName) jdk_52_method_16_code 6 (some (.array .byte)) :: ws) ({ frames := 3, cells := 2, slots := 6, locals := 70 } : Room) #[(.ref a), (.int (0 : Int32)), (.int (2 : Int32))] Z h0 (own_QC3_2 Z x0 x1 G1 a ka h0 n0) := by
  refine MetFree.of_bodySF (plainFor_of_name own_pn1) hisR ?_
  intro p e s m args below meth c s₁ Bd hml0 hP hK
  obtain ⟨rfl, hZ, hh⟩ := hP
  have hx := Bd.exec
  have hby := Bd.bytes
  have hlk : meth.locks = false := BodyLoose.notSynchronized Bd
  have hml : c.maxLocals = 6 := hml0
  have hown : s.vm.findClass "java/lang/StringUTF16" = some m.cls := findClass_of_methodNamed Bd.named
  have hnm := (name_of_methodNamed Bd.named Bd.method).1
  have X0 : Stand p l e ({ frames := 3, cells := 2, slots := 6, locals := 70 } : Room) s m #[(.ref a), (.int (0 : Int32)), (.int (2 : Int32))] below meth c s₁ [] 0 0 := Stand.of_body Bd
  have e0 : s₁.heap = h0 := by rw [← hh, Bd.state]; rfl
  have N0 := Fr.nil n0
  have KP : Keep h0 h0 [] := Keep.refl _ _
  refine own_start (Fin := (own_Fin s (own_QC3_2 Z x0 x1 G1 a ka h0 n0) ({ frames := 3, cells := 2, slots := 6, locals := 70 } : Room).cells ({ frames := 3, cells := 2, slots := 6, locals := 70 } : Room).slots)) (own_from (mkF m 0 #[rv a, iv 0, iv 2, .unset, .unset, .unset] []) (castTop (own_ef_C3_2 m a (0 : Int32) (2 : Int32))) ?_)
  refine own_iln 1 X0 hx (hb hby own_d124) rfl rfl ?_
  obtain ⟨T75, h75, k75, X75, e75, E75, A75, B75, st75⟩ := newPE X0 hx hZ (own_w hw 26 rfl) e0 (g := (mkF m 1 #[rv a, iv 0, iv 2, .unset, .unset, .unset] [(.int (2 : Int32))])) rfl (hb hby own_d125) rfl (by decide) (cap := 2) (by decide) (by decide) (by decide) (by decide) (ad := "[B") (by decide)
  obtain ⟨b75, g75⟩ : ∃ z, z = h0.size := ⟨_, rfl⟩
  rw [← g75] at A75 B75 st75
  have sz_b75 : h0.size ≤ b75 := Nat.le_trans KP.1 (Nat.le_of_eq g75.symm)
  have ge_b75 : n0 ≤ b75 := Nat.le_trans Z0 sz_b75
  have ne_a_b75 : a ≠ b75 := Nat.ne_of_lt (Nat.lt_of_lt_of_le Va.lt (Nat.le_of_eq g75.symm))
  have OL := OL.ext E75
  have KP := KP.ext E75
  have Va := Va.ext E75
  have V_b75 : Arv Z h75 b75 k75 .byte (2 : Int32) [(.int (0 : Int32)), (.int (0 : Int32))] (.int (0 : Int32)) := (Arv.new A75 (by decide)).pad (pad_rep [] (.int (0 : Int32)) 2)
  refine own_to (mkF m 3 #[rv a, iv 0, iv 2, .unset, .unset, .unset] [(.ref b75)]) st75 ?_
  refine own_asn 4 #[rv a, iv 0, iv 2, rv b75, .unset, .unset] X75 hx (hb hby own_d126) rfl rfl rfl ?_
  refine own_aln 5 X75 hx (hb hby own_d127) rfl rfl rfl ?_
  refine own_iln 6 X75 hx (hb hby own_d128) rfl rfl ?_
  refine own_aln 7 X75 hx (hb hby own_d129) rfl rfl rfl ?_
  refine own_ic 8 0 X75 hx (hb hby own_d130) rfl rfl ?_
  refine own_iln 9 X75 hx (hb hby own_d131) rfl rfl ?_
  obtain ⟨_, T76, Lc76, X76, hQ76, st76⟩ := own_callS X75 hx (y := (⟨"java/lang/StringUTF16", "compress", "([CI[BII)I"⟩ : MethodName)) hown (mvT hZ (own_w hw 27 rfl)) (mvT hZ (own_w hw 28 rfl)) (mvT hZ (own_w hw 24 rfl)) (mvT hZ (own_w hw 29 rfl)) (by decide) (backOf (W := 0) (own_rmC5_2 l Z a0 hw [] x0 x1 a ka b75 k75 h75 n0 (Nat.le_trans Z0 KP.1) OL ne_a_b75 ge_b75 Va V_b75) hZ (own_w hw 29 rfl) (own_w hw 24 rfl) (by decide) (by decide)) (g := (mkF m 9 #[rv a, iv 0, iv 2, rv b75, .unset, .unset] [(.int (2 : Int32)), (.int (0 : Int32)), (.ref b75), (.int (0 : Int32)), (.ref a)])) rfl (by rw [hml]; rfl) (argsL := [(.ref a), (.int (0 : Int32)), (.ref b75), (.int (0 : Int32)), (.int (2 : Int32))]) (rest := []) (lenOf own_pd4 rfl) rfl (by show 2 * 0 + _ ≤ _; exact Nat.le_of_eq rfl) (hb hby own_d132) rfl e75 (kc := 1) (ks := 2) rfl rfl (by decide) (by decide)
  obtain ⟨N76q, K76, hor76⟩ := hQ76
  have N76 := Fr.app N0 N76q
  have OL := OL.keep K76 (allS ge_b75 all0)
  have KP := KP.trans K76 (allS (Or.inr sz_b75) all0)
  have Va := Va.keep K76 (ninS ne_a_b75 nin0)
  rcases hor76 with ⟨rfl, hg0, hg1, Vg⟩ | ⟨rfl, hbad⟩ | ⟨rfl, hbad⟩
  · refine own_to (mkF m 12 #[rv a, iv 0, iv 2, rv b75, .unset, .unset] [(.int (2 : Int32))]) st76 ?_
    refine own_is 14 #[rv a, iv 0, iv 2, rv b75, iv 2, .unset] X76 hx (hb hby own_d133) rfl rfl ?_
    refine own_il 16 X76 hx (hb hby own_d134) rfl rfl ?_
    refine own_iln 17 X76 hx (hb hby own_d135) rfl rfl ?_
    refine own_icY 57 X76 hx (hb hby own_d136) (teq (by decide : (2 : Int32) = (2 : Int32))).1 (by decide) (by decide) ?_
    refine own_aln 58 X76 hx (hb hby own_d137) rfl rfl rfl ?_
    exact own_retA X76 hx Bd.returns rfl hlk (hb hby own_d138) rfl (by decide) (by decide) (by exact ⟨b75, k75, rfl, N76, KP, ge_b75, sz_b75, Or.inl ⟨hg0, hg1, Vg⟩⟩)
  · refine own_to (mkF m 12 #[rv a, iv 0, iv 2, rv b75, .unset, .unset] [(.int (0 : Int32))]) st76 ?_
    refine own_is 14 #[rv a, iv 0, iv 2, rv b75, iv 0, .unset] X76 hx (hb hby own_d133) rfl rfl ?_
    refine own_il 16 X76 hx (hb hby own_d134) rfl rfl ?_
    refine own_iln 17 X76 hx (hb hby own_d135) rfl rfl ?_
    refine own_icN 20 X76 hx (hb hby own_d136) (feq (by decide : ¬ ((0 : Int32) = (2 : Int32)))).1 rfl ?_
    refine own_aln 21 X76 hx (hb hby own_d139) rfl rfl rfl ?_
    refine own_iln 22 X76 hx (hb hby own_d140) rfl rfl ?_
    refine own_iln 23 X76 hx (hb hby own_d141) rfl rfl ?_
    have KP0 := KP
    have lt0_a := Va.lt
    obtain ⟨_, T77, Lc77, X77, hQ77, st77⟩ := own_callS X76 hx (y := (⟨"java/lang/StringUTF16", "toBytes", "([CII)[B"⟩ : MethodName)) hown (mvT hZ (own_w hw 84 rfl)) (mvT hZ (own_w hw 85 rfl)) (mvT hZ (own_w hw 24 rfl)) (mvT hZ (own_w hw 86 rfl)) (by decide) (backOf (W := 0) (own_rmTS_2 l Z a0 hw [] x0 x1 G1 a ka T76.heap n0 (Nat.le_trans Z0 KP.1) OL Va O2 P5 OAD OHI OLO) hZ (own_w hw 86 rfl) (own_w hw 24 rfl) (by decide) (by decide)) (g := (mkF m 23 #[rv a, iv 0, iv 2, rv b75, iv 0, .unset] [(.int (2 : Int32)), (.int (0 : Int32)), (.ref a)])) rfl (by rw [hml]; rfl) (argsL := [(.ref a), (.int (0 : Int32)), (.int (2 : Int32))]) (rest := []) (lenOf own_pd5 rfl) rfl (by show 2 * 0 + _ ≤ _; exact Nat.le_of_eq rfl) (hb hby own_d142) rfl rfl (kc := 2) (ks := 6) rfl rfl (by decide) (by decide)
    obtain ⟨bu, kbu, rfl, N77q, K77, ge_bu, sz0_bu, Vu⟩ := hQ77
    have N77 := Fr.app N76 N77q
    have OL := OL.keep K77 all0
    have KP := KP.trans K77 all0
    have Va := Va.keep K77 nin0
    refine own_to (mkF m 26 #[rv a, iv 0, iv 2, rv b75, iv 0, .unset] [(.ref bu)]) st77 ?_
    have sz_bu : h0.size ≤ bu := Nat.le_trans KP0.1 sz0_bu
    have ne_a_bu : a ≠ bu := Nat.ne_of_lt (Nat.lt_of_lt_of_le lt0_a sz0_bu)
    refine own_as 28 #[rv a, iv 0, iv 2, rv b75, iv 0, rv bu] X77 hx (hb hby own_d143) rfl rfl rfl ?_
    refine own_al 30 X77 hx (hb hby own_d144) rfl rfl rfl ?_
    refine own_il 32 X77 hx (hb hby own_d145) rfl rfl ?_
    obtain ⟨_, T78, Lc78, X78, hQ78, st78⟩ := own_callS X77 hx (y := (⟨"java/lang/StringUTF16", "getChar", "([BI)C"⟩ : MethodName)) hown (mvT hZ (own_w hw 100 rfl)) (mvT hZ (own_w hw 101 rfl)) (mvT hZ (own_w hw 24 rfl)) (mvT hZ (own_w hw 102 rfl)) (by decide) (backOf (W := 0) (own_rmGC_2_0 l Z a0 hw [] x0 x1 G1 bu kbu T77.heap n0 (Nat.le_trans Z0 KP.1) OL hx0 Vu O2 P5 OAD OHI OLO) hZ (own_w hw 102 rfl) (own_w hw 24 rfl) (by decide) (by decide)) (g := (mkF m 32 #[rv a, iv 0, iv 2, rv b75, iv 0, rv bu] [(.int (0 : Int32)), (.ref bu)])) rfl (by rw [hml]; rfl) (argsL := [(.ref bu), (.int (0 : Int32))]) (rest := []) (lenOf own_pd6 rfl) rfl (by show 2 * 0 + _ ≤ _; exact Nat.le_of_eq rfl) (hb hby own_d146) rfl rfl (kc := 2) (ks := 6) rfl rfl (by decide) (by decide)
    obtain ⟨rfl, N78q, e78⟩ := hQ78
    have N78 := Fr.app N77 N78q
    refine own_to (mkF m 35 #[rv a, iv 0, iv 2, rv b75, iv 0, rv bu] [(.int x0)]) st78 ?_
    refine own_si 38 255 X78 hx (hb hby own_d147) rfl rfl ?_
    refine own_icY 54 X78 hx (hb hby own_d148) (tlt hbad).2.2.1 (by decide) (by decide) ?_
    refine own_al 56 X78 hx (hb hby own_d149) rfl rfl rfl ?_
    exact own_retA X78 hx Bd.returns rfl hlk (hb hby own_d150) rfl (by decide) (by decide) (by rw [e78]; exact ⟨bu, kbu, rfl, N78, KP, ge_bu, sz_bu, Or.inr Vu⟩)
  · refine own_to (mkF m 12 #[rv a, iv 0, iv 2, rv b75, .unset, .unset] [(.int (1 : Int32))]) st76 ?_
    refine own_is 14 #[rv a, iv 0, iv 2, rv b75, iv 1, .unset] X76 hx (hb hby own_d133) rfl rfl ?_
    refine own_il 16 X76 hx (hb hby own_d134) rfl rfl ?_
    refine own_iln 17 X76 hx (hb hby own_d135) rfl rfl ?_
    refine own_icN 20 X76 hx (hb hby own_d136) (feq (by decide : ¬ ((1 : Int32) = (2 : Int32)))).1 rfl ?_
    refine own_aln 21 X76 hx (hb hby own_d139) rfl rfl rfl ?_
    refine own_iln 22 X76 hx (hb hby own_d140) rfl rfl ?_
    refine own_iln 23 X76 hx (hb hby own_d141) rfl rfl ?_
    have KP0 := KP
    have lt0_a := Va.lt
    obtain ⟨_, T79, Lc79, X79, hQ79, st79⟩ := own_callS X76 hx (y := (⟨"java/lang/StringUTF16", "toBytes", "([CII)[B"⟩ : MethodName)) hown (mvT hZ (own_w hw 84 rfl)) (mvT hZ (own_w hw 85 rfl)) (mvT hZ (own_w hw 24 rfl)) (mvT hZ (own_w hw 86 rfl)) (by decide) (backOf (W := 0) (own_rmTS_2 l Z a0 hw [] x0 x1 G1 a ka T76.heap n0 (Nat.le_trans Z0 KP.1) OL Va O2 P5 OAD OHI OLO) hZ (own_w hw 86 rfl) (own_w hw 24 rfl) (by decide) (by decide)) (g := (mkF m 23 #[rv a, iv 0, iv 2, rv b75, iv 1, .unset] [(.int (2 : Int32)), (.int (0 : Int32)), (.ref a)])) rfl (by rw [hml]; rfl) (argsL := [(.ref a), (.int (0 : Int32)), (.int (2 : Int32))]) (rest := []) (lenOf own_pd5 rfl) rfl (by show 2 * 0 + _ ≤ _; exact Nat.le_of_eq rfl) (hb hby own_d142) rfl rfl (kc := 2) (ks := 6) rfl rfl (by decide) (by decide)
    obtain ⟨bu, kbu, rfl, N79q, K79, ge_bu, sz0_bu, Vu⟩ := hQ79
    have N79 := Fr.app N76 N79q
    have OL := OL.keep K79 all0
    have KP := KP.trans K79 all0
    have Va := Va.keep K79 nin0
    refine own_to (mkF m 26 #[rv a, iv 0, iv 2, rv b75, iv 1, .unset] [(.ref bu)]) st79 ?_
    have sz_bu : h0.size ≤ bu := Nat.le_trans KP0.1 sz0_bu
    have ne_a_bu : a ≠ bu := Nat.ne_of_lt (Nat.lt_of_lt_of_le lt0_a sz0_bu)
    refine own_as 28 #[rv a, iv 0, iv 2, rv b75, iv 1, rv bu] X79 hx (hb hby own_d143) rfl rfl rfl ?_
    refine own_al 30 X79 hx (hb hby own_d144) rfl rfl rfl ?_
    refine own_il 32 X79 hx (hb hby own_d145) rfl rfl ?_
    obtain ⟨_, T80, Lc80, X80, hQ80, st80⟩ := own_callS X79 hx (y := (⟨"java/lang/StringUTF16", "getChar", "([BI)C"⟩ : MethodName)) hown (mvT hZ (own_w hw 100 rfl)) (mvT hZ (own_w hw 101 rfl)) (mvT hZ (own_w hw 24 rfl)) (mvT hZ (own_w hw 102 rfl)) (by decide) (backOf (W := 0) (own_rmGC_2_1 l Z a0 hw [] x0 x1 G1 bu kbu T79.heap n0 (Nat.le_trans Z0 KP.1) OL hx1 Vu O2 P5 OAD OHI OLO) hZ (own_w hw 102 rfl) (own_w hw 24 rfl) (by decide) (by decide)) (g := (mkF m 32 #[rv a, iv 0, iv 2, rv b75, iv 1, rv bu] [(.int (1 : Int32)), (.ref bu)])) rfl (by rw [hml]; rfl) (argsL := [(.ref bu), (.int (1 : Int32))]) (rest := []) (lenOf own_pd6 rfl) rfl (by show 2 * 0 + _ ≤ _; exact Nat.le_of_eq rfl) (hb hby own_d146) rfl rfl (kc := 2) (ks := 6) rfl rfl (by decide) (by decide)
    obtain ⟨rfl, N80q, e80⟩ := hQ80
    have N80 := Fr.app N79 N80q
    refine own_to (mkF m 35 #[rv a, iv 0, iv 2, rv b75, iv 1, rv bu] [(.int x1)]) st80 ?_
    refine own_si 38 255 X80 hx (hb hby own_d147) rfl rfl ?_
    refine own_icY 54 X80 hx (hb hby own_d148) (tlt hbad).2.2.1 (by decide) (by decide) ?_
    refine own_al 56 X80 hx (hb hby own_d149) rfl rfl rfl ?_
    exact own_retA X80 hx Bd.returns rfl hlk (hb hby own_d150) rfl (by decide) (by decide) (by rw [e80]; exact ⟨bu, kbu, rfl, N80, KP, ge_bu, sz_bu, Or.inr Vu⟩)
def own_QCF_2_0 (Z : State) (x0 x1 : Int32) (b : Addr) (kb : ClassId) (h0 : Heap) (n0 : Nat) (v : Option Value) (h : Heap) (L : List Loc) : Prop := v = some (.int (0 : Int32)) ∧ Fr n0 L ∧ h = h0
set_option maxRecDepth 65536 in
set_option maxHeartbeats 40000000 in
theorem own_rmCF_2_0 (l : Launch) (Z : State) (a0 : Array Value) (hw : ∀ d ∈ tables_1, d.before a0 Z = true) (ws : List Jvm.Cond) (x0 x1 : Int32) (b : Addr) (kb : ClassId) (h0 : Heap) (n0 : Nat) (Z0 : n0 ≤ h0.size) (OL : Old Z n0 h0) (Vb : Arv Z h0 b kb .byte (2 : Int32) [(.int (x0.toInt8.toInt32)), (.int (x1.toInt8.toInt32))] (.int (0 : Int32))) :
    own_MF l (⟨"java/lang/StringUTF16", "coderFromArrayLen", "([BI)B"⟩ : MethodName) (Jvm.Cond.code (⟨"java/lang/StringUTF16", "coderFromArrayLen", "([BI)B"⟩ : MethodName) jdk_52_method_15_code 2 (some .byte) :: ws) ({ frames := 0, cells := 0, slots := 0, locals := 0 } : Room) #[(.ref b), (.int (2 : Int32))] Z h0 (own_QCF_2_0 Z x0 x1 b kb h0 n0) := by
  refine MetFree.of_bodySF (plainFor_of_name own_pn1) hisR ?_
  intro p e s m args below meth c s₁ Bd hml0 hP hK
  obtain ⟨rfl, hZ, hh⟩ := hP
  have hx := Bd.exec
  have hby := Bd.bytes
  have hlk : meth.locks = false := BodyLoose.notSynchronized Bd
  have hml : c.maxLocals = 2 := hml0
  have hown : s.vm.findClass "java/lang/StringUTF16" = some m.cls := findClass_of_methodNamed Bd.named
  have hnm := (name_of_methodNamed Bd.named Bd.method).1
  have X0 : Stand p l e ({ frames := 0, cells := 0, slots := 0, locals := 0 } : Room) s m #[(.ref b), (.int (2 : Int32))] below meth c s₁ [] 0 0 := Stand.of_body Bd
  have e0 : s₁.heap = h0 := by rw [← hh, Bd.state]; rfl
  have N0 := Fr.nil n0
  have KP : Keep h0 h0 [] := Keep.refl _ _
  refine own_start (Fin := (own_Fin s (own_QCF_2_0 Z x0 x1 b kb h0 n0) ({ frames := 0, cells := 0, slots := 0, locals := 0 } : Room).cells ({ frames := 0, cells := 0, slots := 0, locals := 0 } : Room).slots)) (own_from (mkF m 0 #[rv b, iv 2] []) (castTop (own_ef_CF_2_0 m b (2 : Int32))) ?_)
  refine own_iln 1 X0 hx (hb hby own_d151) rfl rfl ?_
  refine own_aln 2 X0 hx (hb hby own_d152) rfl rfl rfl ?_
  obtain ⟨cl81, Ar81, -, S81, M81, -, -⟩ := id Vb
  refine own_to (mkF m 3 #[rv b, iv 2] [(.int (2 : Int32)), (.int (2 : Int32))]) (by have q := X0.arraylength hx (by rw [e0]; exact Ar81.1) (State.isArrayOf_alike hZ.alike Ar81.2.1) (g := (mkF m 2 #[rv b, iv 2] [(.ref b), (.int (2 : Int32))])) rfl rfl (hb hby own_d153); rw [len_of S81 M81] at q; exact q) ?_
  refine own_isub 4 X0 hx (hb hby own_d154) (z := (0 : Int32)) rfl rfl ?_
  refine own_bi 6 31 X0 hx (hb hby own_d155) rfl rfl ?_
  refine own_iushr 7 X0 hx (hb hby own_d156) (z := (0 : Int32)) rfl rfl ?_
  refine own_i2b 8 X0 hx (hb hby own_d157) rfl rfl ?_
  exact own_retN X0 hx (t := .byte) Bd.returns (by simp) hlk (hb hby own_d158) (by decide) (by decide) (by rw [e0]; exact ⟨rfl, N0, rfl⟩)
def own_QCF_2_1 (Z : State) (x0 x1 : Int32) (b : Addr) (kb : ClassId) (h0 : Heap) (n0 : Nat) (v : Option Value) (h : Heap) (L : List Loc) : Prop := v = some (.int (1 : Int32)) ∧ Fr n0 L ∧ h = h0
set_option maxRecDepth 65536 in
set_option maxHeartbeats 40000000 in
theorem own_rmCF_2_1 (l : Launch) (Z : State) (a0 : Array Value) (hw : ∀ d ∈ tables_1, d.before a0 Z = true) (ws : List Jvm.Cond) (x0 x1 : Int32) (b : Addr) (kb : ClassId) (h0 : Heap) (n0 : Nat) (Z0 : n0 ≤ h0.size) (OL : Old Z n0 h0) (Vb : Arv Z h0 b kb .byte (4 : Int32) [(.int ((x0 >>> ((0 : Int32) &&& 31)).toInt8.toInt32)), (.int ((x0 >>> ((8 : Int32) &&& 31)).toInt8.toInt32)), (.int ((x1 >>> ((0 : Int32) &&& 31)).toInt8.toInt32)), (.int ((x1 >>> ((8 : Int32) &&& 31)).toInt8.toInt32))] (.int (0 : Int32))) :
    own_MF l (⟨"java/lang/StringUTF16", "coderFromArrayLen", "([BI)B"⟩ : MethodName) (Jvm.Cond.code (⟨"java/lang/StringUTF16", "coderFromArrayLen", "([BI)B"⟩ : MethodName) jdk_52_method_15_code 2 (some .byte) :: ws) ({ frames := 0, cells := 0, slots := 0, locals := 0 } : Room) #[(.ref b), (.int (2 : Int32))] Z h0 (own_QCF_2_1 Z x0 x1 b kb h0 n0) := by
  refine MetFree.of_bodySF (plainFor_of_name own_pn1) hisR ?_
  intro p e s m args below meth c s₁ Bd hml0 hP hK
  obtain ⟨rfl, hZ, hh⟩ := hP
  have hx := Bd.exec
  have hby := Bd.bytes
  have hlk : meth.locks = false := BodyLoose.notSynchronized Bd
  have hml : c.maxLocals = 2 := hml0
  have hown : s.vm.findClass "java/lang/StringUTF16" = some m.cls := findClass_of_methodNamed Bd.named
  have hnm := (name_of_methodNamed Bd.named Bd.method).1
  have X0 : Stand p l e ({ frames := 0, cells := 0, slots := 0, locals := 0 } : Room) s m #[(.ref b), (.int (2 : Int32))] below meth c s₁ [] 0 0 := Stand.of_body Bd
  have e0 : s₁.heap = h0 := by rw [← hh, Bd.state]; rfl
  have N0 := Fr.nil n0
  have KP : Keep h0 h0 [] := Keep.refl _ _
  refine own_start (Fin := (own_Fin s (own_QCF_2_1 Z x0 x1 b kb h0 n0) ({ frames := 0, cells := 0, slots := 0, locals := 0 } : Room).cells ({ frames := 0, cells := 0, slots := 0, locals := 0 } : Room).slots)) (own_from (mkF m 0 #[rv b, iv 2] []) (castTop (own_ef_CF_2_1 m b (2 : Int32))) ?_)
  refine own_iln 1 X0 hx (hb hby own_d151) rfl rfl ?_
  refine own_aln 2 X0 hx (hb hby own_d152) rfl rfl rfl ?_
  obtain ⟨cl82, Ar82, -, S82, M82, -, -⟩ := id Vb
  refine own_to (mkF m 3 #[rv b, iv 2] [(.int (4 : Int32)), (.int (2 : Int32))]) (by have q := X0.arraylength hx (by rw [e0]; exact Ar82.1) (State.isArrayOf_alike hZ.alike Ar82.2.1) (g := (mkF m 2 #[rv b, iv 2] [(.ref b), (.int (2 : Int32))])) rfl rfl (hb hby own_d153); rw [len_of S82 M82] at q; exact q) ?_
  refine own_isub 4 X0 hx (hb hby own_d154) (z := (-2 : Int32)) rfl rfl ?_
  refine own_bi 6 31 X0 hx (hb hby own_d155) rfl rfl ?_
  refine own_iushr 7 X0 hx (hb hby own_d156) (z := (1 : Int32)) rfl rfl ?_
  refine own_i2b 8 X0 hx (hb hby own_d157) rfl rfl ?_
  exact own_retN X0 hx (t := .byte) Bd.returns (by simp) hlk (hb hby own_d158) (by decide) (by decide) (by rw [e0]; exact ⟨rfl, N0, rfl⟩)
def own_QI4_2 (Z : State) (x0 x1 : Int32) (G1 : Int32) (sx a : Addr) (ka : ClassId) (h0 : Heap) (n0 : Nat) (v : Option Value) (h : Heap) (L : List Loc) : Prop := v = none ∧ Fr n0 L ∧ Keep h0 h [sx] ∧ ∃ (t : Addr) (kb : ClassId), n0 ≤ t ∧ h0.size ≤ t ∧ ((¬ ((255 : Int32) < x0) ∧ ¬ ((255 : Int32) < x1) ∧ own_StrG Z h sx t kb (0 : Int32) (2 : Int32) [(.int (x0.toInt8.toInt32)), (.int (x1.toInt8.toInt32))]) ∨ own_StrG Z h sx t kb (1 : Int32) (4 : Int32) [(.int ((x0 >>> ((0 : Int32) &&& 31)).toInt8.toInt32)), (.int ((x0 >>> ((8 : Int32) &&& 31)).toInt8.toInt32)), (.int ((x1 >>> ((0 : Int32) &&& 31)).toInt8.toInt32)), (.int ((x1 >>> ((8 : Int32) &&& 31)).toInt8.toInt32))])
set_option maxRecDepth 65536 in
set_option maxHeartbeats 40000000 in
theorem own_rmI4_2 (l : Launch) (Z : State) (a0 : Array Value) (hw : ∀ d ∈ tables_1, d.before a0 Z = true) (ws : List Jvm.Cond) (x0 x1 : Int32) (G1 : Int32) (sx a : Addr) (ka : ClassId) (h0 : Heap) (n0 : Nat) (Z0 : n0 ≤ h0.size) (OL : Old Z n0 h0) (ge_sx : n0 ≤ sx) (ne_sx_a : sx ≠ a) (E_sx : Exa Z h0 sx "java/lang/String") (F_value_sx : Fld Z h0 sx "java/lang/String" "value" "[B" .null) (F_coder_sx : Fld Z h0 sx "java/lang/String" "coder" "B" (.int (0 : Int32))) (hx0 : own_C16 x0) (hx1 : own_C16 x1) (Va : Arv Z h0 a ka .char (2 : Int32) [(.int x0), (.int x1)] (.int (0 : Int32))) (O2 : Sta Z Z.heap "java/lang/String" "COMPACT_STRINGS" "Z" (.int G1)) (P5 : ¬ (G1 = (0 : Int32))) (OAD : Sta Z Z.heap "java/lang/StringUTF16" "$assertionsDisabled" "Z" (.int (1 : Int32))) (OHI : Sta Z Z.heap "java/lang/StringUTF16" "HI_BYTE_SHIFT" "I" (.int (0 : Int32))) (OLO : Sta Z Z.heap "java/lang/StringUTF16" "LO_BYTE_SHIFT" "I" (.int (8 : Int32))) :
    own_MF l (⟨"java/lang/String", "<init>", "([CIILjava/lang/Void;)V"⟩ : MethodName) (Jvm.Cond.code (⟨"java/lang/String", "<init>", "([CIILjava/lang/Void;)V"⟩ : MethodName) jdk_42_method_149_code 6 none :: ws) ({ frames := 4, cells := 2, slots := 6, locals := 100 } : Room) #[(.ref sx), (.ref a), (.int (0 : Int32)), (.int (2 : Int32)), .null] Z h0 (own_QI4_2 Z x0 x1 G1 sx a ka h0 n0) := by
  refine MetFree.of_bodySF (plainFor_of_name own_pn0) hisR ?_
  intro p e s m args below meth c s₁ Bd hml0 hP hK
  obtain ⟨rfl, hZ, hh⟩ := hP
  have hx := Bd.exec
  have hby := Bd.bytes
  have hlk : meth.locks = false := BodyLoose.notSynchronized Bd
  have hml : c.maxLocals = 6 := hml0
  have hown : s.vm.findClass "java/lang/String" = some m.cls := findClass_of_methodNamed Bd.named
  have hnm := (name_of_methodNamed Bd.named Bd.method).1
  have X0 : Stand p l e ({ frames := 4, cells := 2, slots := 6, locals := 100 } : Room) s m #[(.ref sx), (.ref a), (.int (0 : Int32)), (.int (2 : Int32)), .null] below meth c s₁ [] 0 0 := Stand.of_body Bd
  have e0 : s₁.heap = h0 := by rw [← hh, Bd.state]; rfl
  have N0 := Fr.nil n0
  have KP : Keep h0 h0 [sx] := Keep.refl _ _
  refine own_start (Fin := (own_Fin s (own_QI4_2 Z x0 x1 G1 sx a ka h0 n0) ({ frames := 4, cells := 2, slots := 6, locals := 100 } : Room).cells ({ frames := 4, cells := 2, slots := 6, locals := 100 } : Room).slots)) (own_from (mkF m 0 #[rv sx, rv a, iv 0, iv 2, .val .null, .unset] []) (castTop (own_ef_I4_2 m sx a (0 : Int32) (2 : Int32))) ?_)
  refine own_aln 1 X0 hx (hb hby own_d0) rfl rfl rfl ?_
  obtain ⟨T83, X83, e83, st83⟩ := initO X0 hx hZ hown (own_w hw 18 rfl) (own_w hw 19 rfl) (own_w hw 20 rfl) e0 (g := (mkF m 1 #[rv sx, rv a, iv 0, iv 2, .val .null, .unset] [(.ref sx)])) rfl (by rw [hml]; rfl) rfl (hb hby own_d1) (by decide) (W := 0) (by show 2 * 0 + _ ≤ _; exact Nat.le_of_eq rfl) (by decide)
  refine own_to (mkF m 4 #[rv sx, rv a, iv 0, iv 2, .val .null, .unset] []) st83 ?_
  refine own_iln 5 X83 hx (hb hby own_d2) rfl rfl ?_
  refine own_ifY 27 X83 hx (hb hby own_d3) ((if0 _ _).trans (feq (by decide : ¬ ((2 : Int32) = (0 : Int32)))).2) (by decide) (by decide) ?_
  obtain ⟨T84, X84, e84, st84⟩ := getS2 X83 hx hZ hown (host := "") (Or.inl (own_w hw 21 rfl)) Via.refl e83 (O2.ext OL.2) (g := (mkF m 27 #[rv sx, rv a, iv 0, iv 2, .val .null, .unset] [])) rfl (hb hby own_d159)
  refine own_to (mkF m 30 #[rv sx, rv a, iv 0, iv 2, .val .null, .unset] [(.int G1)]) st84 ?_
  refine own_ifN 33 X84 hx (hb hby own_d160) ((if0 _ _).trans (feq P5).1) rfl ?_
  refine own_aln 34 X84 hx (hb hby own_d161) rfl rfl rfl ?_
  refine own_iln 35 X84 hx (hb hby own_d162) rfl rfl ?_
  refine own_iln 36 X84 hx (hb hby own_d163) rfl rfl ?_
  have KP0 := KP
  have lt0_sx := E_sx.lt
  have lt0_a := Va.lt
  obtain ⟨_, T85, Lc85, X85, hQ85, st85⟩ := own_callS X84 hx (y := (⟨"java/lang/StringUTF16", "compress", "([CII)[B"⟩ : MethodName)) hown (mvT hZ (own_w hw 22 rfl)) (mvT hZ (own_w hw 23 rfl)) (mvT hZ (own_w hw 24 rfl)) (mvT hZ (own_w hw 25 rfl)) (by decide) (backOf (W := 0) (own_rmC3_2 l Z a0 hw [] x0 x1 G1 a ka h0 n0 (Nat.le_trans Z0 KP.1) OL hx0 hx1 Va O2 P5 OAD OHI OLO) hZ (own_w hw 25 rfl) (own_w hw 24 rfl) (by decide) (by decide)) (g := (mkF m 36 #[rv sx, rv a, iv 0, iv 2, .val .null, .unset] [(.int (2 : Int32)), (.int (0 : Int32)), (.ref a)])) rfl (by rw [hml]; rfl) (argsL := [(.ref a), (.int (0 : Int32)), (.int (2 : Int32))]) (rest := []) (lenOf own_pd5 rfl) rfl (by show 2 * 0 + _ ≤ _; exact Nat.le_of_eq rfl) (hb hby own_d164) rfl e84 (kc := 2) (ks := 6) rfl rfl (by decide) (by decide)
  obtain ⟨bb, kbb, rfl, N85q, K85, ge_bb, sz0_bb, hor85⟩ := hQ85
  have N85 := Fr.app N0 N85q
  have OL := OL.keep K85 all0
  have KP := KP.trans K85 all0
  have E_sx := E_sx.keep K85
  have F_value_sx := F_value_sx.keep K85 nin0
  have F_coder_sx := F_coder_sx.keep K85 nin0
  have Va := Va.keep K85 nin0
  rcases hor85 with ⟨hg0, hg1, Vb⟩ | Vb
  · refine own_to (mkF m 39 #[rv sx, rv a, iv 0, iv 2, .val .null, .unset] [(.ref bb)]) st85 ?_
    have sz_bb : h0.size ≤ bb := Nat.le_trans KP0.1 sz0_bb
    have ne_sx_bb : sx ≠ bb := Nat.ne_of_lt (Nat.lt_of_lt_of_le lt0_sx sz0_bb)
    have ne_a_bb : a ≠ bb := Nat.ne_of_lt (Nat.lt_of_lt_of_le lt0_a sz0_bb)
    refine own_as 41 #[rv sx, rv a, iv 0, iv 2, .val .null, rv bb] X85 hx (hb hby own_d165) rfl rfl rfl ?_
    refine own_aln 42 X85 hx (hb hby own_d166) rfl rfl rfl ?_
    refine own_al 44 X85 hx (hb hby own_d167) rfl rfl rfl ?_
    refine own_iln 45 X85 hx (hb hby own_d168) rfl rfl ?_
    obtain ⟨_, T86, Lc86, X86, hQ86, st86⟩ := own_callS X85 hx (y := (⟨"java/lang/StringUTF16", "coderFromArrayLen", "([BI)B"⟩ : MethodName)) hown (mvT hZ (own_w hw 30 rfl)) (mvT hZ (own_w hw 31 rfl)) (mvT hZ (own_w hw 24 rfl)) (mvT hZ (own_w hw 32 rfl)) (by decide) (backOf (W := 1) (own_rmCF_2_0 l Z a0 hw [] x0 x1 bb kbb T85.heap n0 (Nat.le_trans Z0 KP.1) OL Vb) hZ (own_w hw 32 rfl) (own_w hw 24 rfl) (by decide) (by decide)) (g := (mkF m 45 #[rv sx, rv a, iv 0, iv 2, .val .null, rv bb] [(.int (2 : Int32)), (.ref bb), (.ref sx)])) rfl (by rw [hml]; rfl) (argsL := [(.ref bb), (.int (2 : Int32))]) (rest := [(.ref sx)]) (lenOf own_pd7 rfl) rfl (by show 2 * 0 + _ ≤ _; exact Nat.le_of_eq rfl) (hb hby own_d169) rfl rfl (kc := 2) (ks := 6) rfl rfl (by decide) (by decide)
    obtain ⟨rfl, N86q, e86⟩ := hQ86
    have N86 := Fr.app N85 N86q
    refine own_to (mkF m 48 #[rv sx, rv a, iv 0, iv 2, .val .null, rv bb] [(.int (0 : Int32)), (.ref sx)]) st86 ?_
    obtain ⟨T87, h87, X87, e87, W87, st87⟩ := putFN X86 hx hZ hown (own_w hw 33 rfl) Via.refl e86 F_coder_sx E_sx (Or.inr ⟨(own_w hw 34 rfl), rfl, hnm⟩) (own_w hw 5 rfl) (ty := .byte) (v' := (.int (0 : Int32))) (by decide) rfl rfl (g := (mkF m 48 #[rv sx, rv a, iv 0, iv 2, .val .null, rv bb] [(.int (0 : Int32)), (.ref sx)])) rfl rfl (hb hby own_d170)
    refine own_to (mkF m 51 #[rv sx, rv a, iv 0, iv 2, .val .null, rv bb] []) st87 ?_
    have N87 := Fr.snoc X87 N86 ge_sx
    have tmp87 : Fld Z h87 sx "java/lang/String" "coder" "B" (.int (0 : Int32)) := F_coder_sx.same W87
    have OL := OL.wr W87 ge_sx
    have KP := KP.wr W87 (Or.inl (List.mem_of_getElem? (i := 0) rfl))
    have E_sx := E_sx.wr W87
    have F_value_sx := F_value_sx.other W87 (Or.inr (slot_ne (Or.inr (own_w hw 36 rfl)) (Or.inr (own_w hw 34 rfl)) (by decide) (t := (.array .byte)) (t' := .byte) (by decide) (by decide)))
    have Va := Va.other W87 (Ne.symm ne_sx_a)
    have Vb := Vb.other W87 (Ne.symm ne_sx_bb)
    have F_coder_sx := tmp87
    refine own_aln 52 X87 hx (hb hby own_d171) rfl rfl rfl ?_
    refine own_al 54 X87 hx (hb hby own_d172) rfl rfl rfl ?_
    obtain ⟨T88, h88, X88, e88, W88, st88⟩ := putF X87 hx hZ hown (host := "") (Or.inl (own_w hw 35 rfl)) Via.refl e87 F_value_sx E_sx (Or.inr ⟨(own_w hw 36 rfl), rfl, hnm⟩) (own_w hw 5 rfl) (ty := (.array .byte)) (by decide) rfl rfl (g := (mkF m 54 #[rv sx, rv a, iv 0, iv 2, .val .null, rv bb] [(.ref bb), (.ref sx)])) rfl rfl (hb hby own_d173)
    refine own_to (mkF m 57 #[rv sx, rv a, iv 0, iv 2, .val .null, rv bb] []) st88 ?_
    have N88 := Fr.snoc X88 N87 ge_sx
    have tmp88 : Fld Z h88 sx "java/lang/String" "value" "[B" (.ref bb) := F_value_sx.same W88
    have OL := OL.wr W88 ge_sx
    have KP := KP.wr W88 (Or.inl (List.mem_of_getElem? (i := 0) rfl))
    have E_sx := E_sx.wr W88
    have F_coder_sx := F_coder_sx.other W88 (Or.inr (slot_ne (Or.inr (own_w hw 34 rfl)) (Or.inr (own_w hw 36 rfl)) (by decide) (t := .byte) (t' := (.array .byte)) (by decide) (by decide)))
    have Va := Va.other W88 (Ne.symm ne_sx_a)
    have Vb := Vb.other W88 (Ne.symm ne_sx_bb)
    have F_value_sx := tmp88
    exact own_ret0 X88 hx Bd.returns hlk (hb hby own_d174) (by decide) (by decide) (by rw [e88]; exact ⟨rfl, N88, KP, bb, kbb, ge_bb, sz_bb, Or.inl ⟨hg0, hg1, ⟨E_sx, F_value_sx, F_coder_sx, Vb⟩⟩⟩)
  · refine own_to (mkF m 39 #[rv sx, rv a, iv 0, iv 2, .val .null, .unset] [(.ref bb)]) st85 ?_
    have sz_bb : h0.size ≤ bb := Nat.le_trans KP0.1 sz0_bb
    have ne_sx_bb : sx ≠ bb := Nat.ne_of_lt (Nat.lt_of_lt_of_le lt0_sx sz0_bb)
    have ne_a_bb : a ≠ bb := Nat.ne_of_lt (Nat.lt_of_lt_of_le lt0_a sz0_bb)
    refine own_as 41 #[rv sx, rv a, iv 0, iv 2, .val .null, rv bb] X85 hx (hb hby own_d165) rfl rfl rfl ?_
    refine own_aln 42 X85 hx (hb hby own_d166) rfl rfl rfl ?_
    refine own_al 44 X85 hx (hb hby own_d167) rfl rfl rfl ?_
    refine own_iln 45 X85 hx (hb hby own_d168) rfl rfl ?_
    obtain ⟨_, T89, Lc89, X89, hQ89, st89⟩ := own_callS X85 hx (y := (⟨"java/lang/StringUTF16", "coderFromArrayLen", "([BI)B"⟩ : MethodName)) hown (mvT hZ (own_w hw 30 rfl)) (mvT hZ (own_w hw 31 rfl)) (mvT hZ (own_w hw 24 rfl)) (mvT hZ (own_w hw 32 rfl)) (by decide) (backOf (W := 1) (own_rmCF_2_1 l Z a0 hw [] x0 x1 bb kbb T85.heap n0 (Nat.le_trans Z0 KP.1) OL Vb) hZ (own_w hw 32 rfl) (own_w hw 24 rfl) (by decide) (by decide)) (g := (mkF m 45 #[rv sx, rv a, iv 0, iv 2, .val .null, rv bb] [(.int (2 : Int32)), (.ref bb), (.ref sx)])) rfl (by rw [hml]; rfl) (argsL := [(.ref bb), (.int (2 : Int32))]) (rest := [(.ref sx)]) (lenOf own_pd7 rfl) rfl (by show 2 * 0 + _ ≤ _; exact Nat.le_of_eq rfl) (hb hby own_d169) rfl rfl (kc := 2) (ks := 6) rfl rfl (by decide) (by decide)
    obtain ⟨rfl, N89q, e89⟩ := hQ89
    have N89 := Fr.app N85 N89q
    refine own_to (mkF m 48 #[rv sx, rv a, iv 0, iv 2, .val .null, rv bb] [(.int (1 : Int32)), (.ref sx)]) st89 ?_
    obtain ⟨T90, h90, X90, e90, W90, st90⟩ := putFN X89 hx hZ hown (own_w hw 33 rfl) Via.refl e89 F_coder_sx E_sx (Or.inr ⟨(own_w hw 34 rfl), rfl, hnm⟩) (own_w hw 5 rfl) (ty := .byte) (v' := (.int (1 : Int32))) (by decide) rfl rfl (g := (mkF m 48 #[rv sx, rv a, iv 0, iv 2, .val .null, rv bb] [(.int (1 : Int32)), (.ref sx)])) rfl rfl (hb hby own_d170)
    refine own_to (mkF m 51 #[rv sx, rv a, iv 0, iv 2, .val .null, rv bb] []) st90 ?_
    have N90 := Fr.snoc X90 N89 ge_sx
    have tmp90 : Fld Z h90 sx "java/lang/String" "coder" "B" (.int (1 : Int32)) := F_coder_sx.same W90
    have OL := OL.wr W90 ge_sx
    have KP := KP.wr W90 (Or.inl (List.mem_of_getElem? (i := 0) rfl))
    have E_sx := E_sx.wr W90
    have F_value_sx := F_value_sx.other W90 (Or.inr (slot_ne (Or.inr (own_w hw 36 rfl)) (Or.inr (own_w hw 34 rfl)) (by decide) (t := (.array .byte)) (t' := .byte) (by decide) (by decide)))
    have Va := Va.other W90 (Ne.symm ne_sx_a)
    have Vb := Vb.other W90 (Ne.symm ne_sx_bb)
    have F_coder_sx := tmp90
    refine own_aln 52 X90 hx (hb hby own_d171) rfl rfl rfl ?_
    refine own_al 54 X90 hx (hb hby own_d172) rfl rfl rfl ?_
    obtain ⟨T91, h91, X91, e91, W91, st91⟩ := putF X90 hx hZ hown (host := "") (Or.inl (own_w hw 35 rfl)) Via.refl e90 F_value_sx E_sx (Or.inr ⟨(own_w hw 36 rfl), rfl, hnm⟩) (own_w hw 5 rfl) (ty := (.array .byte)) (by decide) rfl rfl (g := (mkF m 54 #[rv sx, rv a, iv 0, iv 2, .val .null, rv bb] [(.ref bb), (.ref sx)])) rfl rfl (hb hby own_d173)
    refine own_to (mkF m 57 #[rv sx, rv a, iv 0, iv 2, .val .null, rv bb] []) st91 ?_
    have N91 := Fr.snoc X91 N90 ge_sx
    have tmp91 : Fld Z h91 sx "java/lang/String" "value" "[B" (.ref bb) := F_value_sx.same W91
    have OL := OL.wr W91 ge_sx
    have KP := KP.wr W91 (Or.inl (List.mem_of_getElem? (i := 0) rfl))
    have E_sx := E_sx.wr W91
    have F_coder_sx := F_coder_sx.other W91 (Or.inr (slot_ne (Or.inr (own_w hw 34 rfl)) (Or.inr (own_w hw 36 rfl)) (by decide) (t := .byte) (t' := (.array .byte)) (by decide) (by decide)))
    have Va := Va.other W91 (Ne.symm ne_sx_a)
    have Vb := Vb.other W91 (Ne.symm ne_sx_bb)
    have F_value_sx := tmp91
    exact own_ret0 X91 hx Bd.returns hlk (hb hby own_d174) (by decide) (by decide) (by rw [e91]; exact ⟨rfl, N91, KP, bb, kbb, ge_bb, sz_bb, Or.inr ⟨E_sx, F_value_sx, F_coder_sx, Vb⟩⟩)
def own_QI1_2 (Z : State) (x0 x1 : Int32) (G1 : Int32) (sx a : Addr) (ka : ClassId) (h0 : Heap) (n0 : Nat) (v : Option Value) (h : Heap) (L : List Loc) : Prop := v = none ∧ Fr n0 L ∧ Keep h0 h [sx] ∧ ∃ (t : Addr) (kb : ClassId), n0 ≤ t ∧ h0.size ≤ t ∧ ((¬ ((255 : Int32) < x0) ∧ ¬ ((255 : Int32) < x1) ∧ own_StrG Z h sx t kb (0 : Int32) (2 : Int32) [(.int (x0.toInt8.toInt32)), (.int (x1.toInt8.toInt32))]) ∨ own_StrG Z h sx t kb (1 : Int32) (4 : Int32) [(.int ((x0 >>> ((0 : Int32) &&& 31)).toInt8.toInt32)), (.int ((x0 >>> ((8 : Int32) &&& 31)).toInt8.toInt32)), (.int ((x1 >>> ((0 : Int32) &&& 31)).toInt8.toInt32)), (.int ((x1 >>> ((8 : Int32) &&& 31)).toInt8.toInt32))])
set_option maxRecDepth 65536 in
set_option maxHeartbeats 40000000 in
theorem own_rmI1_2 (l : Launch) (Z : State) (a0 : Array Value) (hw : ∀ d ∈ tables_1, d.before a0 Z = true) (ws : List Jvm.Cond) (x0 x1 : Int32) (G1 : Int32) (sx a : Addr) (ka : ClassId) (h0 : Heap) (n0 : Nat) (Z0 : n0 ≤ h0.size) (OL : Old Z n0 h0) (ge_sx : n0 ≤ sx) (ne_sx_a : sx ≠ a) (E_sx : Exa Z h0 sx "java/lang/String") (F_value_sx : Fld Z h0 sx "java/lang/String" "value" "[B" .null) (F_coder_sx : Fld Z h0 sx "java/lang/String" "coder" "B" (.int (0 : Int32))) (hx0 : own_C16 x0) (hx1 : own_C16 x1) (Va : Arv Z h0 a ka .char (2 : Int32) [(.int x0), (.int x1)] (.int (0 : Int32))) (O2 : Sta Z Z.heap "java/lang/String" "COMPACT_STRINGS" "Z" (.int G1)) (P5 : ¬ (G1 = (0 : Int32))) (OAD : Sta Z Z.heap "java/lang/StringUTF16" "$assertionsDisabled" "Z" (.int (1 : Int32))) (OHI : Sta Z Z.heap "java/lang/StringUTF16" "HI_BYTE_SHIFT" "I" (.int (0 : Int32))) (OLO : Sta Z Z.heap "java/lang/StringUTF16" "LO_BYTE_SHIFT" "I" (.int (8 : Int32))) :
    own_MF l (⟨"java/lang/String", "<init>", "([C)V"⟩ : MethodName) (Jvm.Cond.code (⟨"java/lang/String", "<init>", "([C)V"⟩ : MethodName) jdk_42_method_3_code 2 none :: ws) ({ frames := 5, cells := 2, slots := 6, locals := 120 } : Room) #[(.ref sx), (.ref a)] Z h0 (own_QI1_2 Z x0 x1 G1 sx a ka h0 n0) := by
  refine MetFree.of_bodySF (plainFor_of_name own_pn0) hisR ?_
  intro p e s m args below meth c s₁ Bd hml0 hP hK
  obtain ⟨rfl, hZ, hh⟩ := hP
  have hx := Bd.exec
  have hby := Bd.bytes
  have hlk : meth.locks = false := BodyLoose.notSynchronized Bd
  have hml : c.maxLocals = 2 := hml0
  have hown : s.vm.findClass "java/lang/String" = some m.cls := findClass_of_methodNamed Bd.named
  have hnm := (name_of_methodNamed Bd.named Bd.method).1
  have X0 : Stand p l e ({ frames := 5, cells := 2, slots := 6, locals := 120 } : Room) s m #[(.ref sx), (.ref a)] below meth c s₁ [] 0 0 := Stand.of_body Bd
  have e0 : s₁.heap = h0 := by rw [← hh, Bd.state]; rfl
  have N0 := Fr.nil n0
  have KP : Keep h0 h0 [sx] := Keep.refl _ _
  refine own_start (Fin := (own_Fin s (own_QI1_2 Z x0 x1 G1 sx a ka h0 n0) ({ frames := 5, cells := 2, slots := 6, locals := 120 } : Room).cells ({ frames := 5, cells := 2, slots := 6, locals := 120 } : Room).slots)) (own_from (mkF m 0 #[rv sx, rv a] []) (castTop (own_ef_I1_2 m sx a)) ?_)
  refine own_aln 1 X0 hx (hb hby own_d13) rfl rfl rfl ?_
  refine own_aln 2 X0 hx (hb hby own_d14) rfl rfl rfl ?_
  refine own_ic 3 0 X0 hx (hb hby own_d15) rfl rfl ?_
  refine own_aln 4 X0 hx (hb hby own_d16) rfl rfl rfl ?_
  obtain ⟨cl92, Ar92, -, S92, M92, -, -⟩ := id Va
  refine own_to (mkF m 5 #[rv sx, rv a] [(.int (2 : Int32)), (.int (0 : Int32)), (.ref a), (.ref sx)]) (by have q := X0.arraylength hx (by rw [e0]; exact Ar92.1) (State.isArrayOf_alike hZ.alike Ar92.2.1) (g := (mkF m 4 #[rv sx, rv a] [(.ref a), (.int (0 : Int32)), (.ref a), (.ref sx)])) rfl rfl (hb hby own_d17); rw [len_of S92 M92] at q; exact q) ?_
  refine own_nul 6 X0 hx (hb hby own_d18) rfl ?_
  obtain ⟨_, T93, Lc93, X93, hQ93, st93⟩ := own_special X0 hx (y := (⟨"java/lang/String", "<init>", "([CIILjava/lang/Void;)V"⟩ : MethodName)) rfl hown (mvT hZ (own_w hw 14 rfl)) (mvT hZ (own_w hw 15 rfl)) (mvT hZ (own_w hw 17 rfl)) (by decide) (backOf (W := 0) (own_rmI4_2 l Z a0 hw [] x0 x1 G1 sx a ka h0 n0 (Nat.le_trans Z0 KP.1) OL ge_sx ne_sx_a E_sx F_value_sx F_coder_sx hx0 hx1 Va O2 P5 OAD OHI OLO) hZ (own_w hw 17 rfl) (own_w hw 6 rfl) (by decide) (by decide)) (g := (mkF m 6 #[rv sx, rv a] [.null, (.int (2 : Int32)), (.int (0 : Int32)), (.ref a), (.ref sx)])) rfl (by rw [hml]; rfl) (a := sx) (argsL := [(.ref a), (.int (0 : Int32)), (.int (2 : Int32)), .null]) (rest := []) (lenOf own_pd0 rfl) rfl (by show 2 * 0 + _ ≤ _; exact Nat.le_of_eq rfl) (hb hby own_d19) rfl e0 (kc := 2) (ks := 6) rfl rfl (by decide) (by decide)
  obtain ⟨rfl, N93q, K93, hrest93⟩ := hQ93
  have N93 := Fr.app N0 N93q
  have OL := OL.keep K93 (allS ge_sx all0)
  have KP := KP.trans K93 (allS (Or.inl (List.mem_of_getElem? (i := 0) rfl)) all0)
  have Va := Va.keep K93 (ninS (Ne.symm ne_sx_a) nin0)
  refine own_via (mkF m 9 #[rv sx, rv a] []) st93 ?_
  exact own_ret0 X93 hx Bd.returns hlk (hb hby own_d20) (by decide) (by decide) (by exact ⟨rfl, N93, KP, hrest93⟩)
def own_QC5_3 (Z : State) (x0 x1 x2 : Int32) (a : Addr) (ka : ClassId) (b : Addr) (kb : ClassId) (h0 : Heap) (n0 : Nat) (v : Option Value) (h : Heap) (L : List Loc) : Prop := Fr n0 L ∧ Keep h0 h [b] ∧ ((v = some (.int (3 : Int32)) ∧ ¬ ((255 : Int32) < x0) ∧ ¬ ((255 : Int32) < x1) ∧ ¬ ((255 : Int32) < x2) ∧ Arv Z h b kb .byte (3 : Int32) [(.int (x0.toInt8.toInt32)), (.int (x1.toInt8.toInt32)), (.int (x2.toInt8.toInt32))] (.int (0 : Int32))) ∨ (v = some (.int (0 : Int32)) ∧ (255 : Int32) < x0) ∨ (v = some (.int (1 : Int32)) ∧ (255 : Int32) < x1) ∨ (v = some (.int (2 : Int32)) ∧ (255 : Int32) < x2))
set_option maxRecDepth 65536 in
set_option maxHeartbeats 40000000 in
theorem own_rmC5_3 (l : Launch) (Z : State) (a0 : Array Value) (hw : ∀ d ∈ tables_1, d.before a0 Z = true) (ws : List Jvm.Cond) (x0 x1 x2 : Int32) (a : Addr) (ka : ClassId) (b : Addr) (kb : ClassId) (h0 : Heap) (n0 : Nat) (Z0 : n0 ≤ h0.size) (OL : Old Z n0 h0) (ne_a_b : a ≠ b) (ge_b : n0 ≤ b) (Va : Arv Z h0 a ka .char (3 : Int32) [(.int x0), (.int x1), (.int x2)] (.int (0 : Int32))) (Vb : Arv Z h0 b kb .byte (3 : Int32) [(.int (0 : Int32)), (.int (0 : Int32)), (.int (0 : Int32))] (.int (0 : Int32))) :
    own_MF l (⟨"java/lang/StringUTF16", "compress", "([CI[BII)I"⟩ : MethodName) (Jvm.Cond.code (⟨"java/lang/StringUTF16", "compress", "([CI[BII)I"⟩ : MethodName) jdk_52_method_21_code 7 (some .int) :: ws) ({ frames := 0, cells := 0, slots := 0, locals := 0 } : Room) #[(.ref a), (.int (0 : Int32)), (.ref b), (.int (0 : Int32)), (.int (3 : Int32))] Z h0 (own_QC5_3 Z x0 x1 x2 a ka b kb h0 n0) := by
  refine MetFree.of_bodySF (plainFor_of_name own_pn1) hisR ?_
  intro p e s m args below meth c s₁ Bd hml0 hP hK
  obtain ⟨rfl, hZ, hh⟩ := hP
  have hx := Bd.exec
  have hby := Bd.bytes
  have hlk : meth.locks = false := BodyLoose.notSynchronized Bd
  have hml : c.maxLocals = 7 := hml0
  have hown : s.vm.findClass "java/lang/StringUTF16" = some m.cls := findClass_of_methodNamed Bd.named
  have hnm := (name_of_methodNamed Bd.named Bd.method).1
  have X0 : Stand p l e ({ frames := 0, cells := 0, slots := 0, locals := 0 } : Room) s m #[(.ref a), (.int (0 : Int32)), (.ref b), (.int (0 : Int32)), (.int (3 : Int32))] below meth c s₁ [] 0 0 := Stand.of_body Bd
  have e0 : s₁.heap = h0 := by rw [← hh, Bd.state]; rfl
  have N0 := Fr.nil n0
  have KP : Keep h0 h0 [b] := Keep.refl _ _
  refine own_start (Fin := (own_Fin s (own_QC5_3 Z x0 x1 x2 a ka b kb h0 n0) ({ frames := 0, cells := 0, slots := 0, locals := 0 } : Room).cells ({ frames := 0, cells := 0, slots := 0, locals := 0 } : Room).slots)) (own_from (mkF m 0 #[rv a, iv 0, rv b, iv 0, iv 3, .unset, .unset] []) (castTop (own_ef_C5_3 m a (0 : Int32) b (0 : Int32) (3 : Int32))) ?_)
  refine own_ic 1 0 X0 hx (hb hby own_d21) rfl rfl ?_
  refine own_is 3 #[rv a, iv 0, rv b, iv 0, iv 3, iv 0, .unset] X0 hx (hb hby own_d22) rfl rfl ?_
  refine own_il 5 X0 hx (hb hby own_d23) rfl rfl ?_
  refine own_il 7 X0 hx (hb hby own_d24) rfl rfl ?_
  refine own_icN 10 X0 hx (hb hby own_d25) (tlt (by decide : (0 : Int32) < (3 : Int32))).2.1 rfl ?_
  refine own_aln 11 X0 hx (hb hby own_d26) rfl rfl rfl ?_
  refine own_iln 12 X0 hx (hb hby own_d27) rfl rfl ?_
  obtain ⟨cl94, Ar94, -, S94, -, H94, -⟩ := id Va
  refine own_to (mkF m 13 #[rv a, iv 0, rv b, iv 0, iv 3, iv 0, .unset] [(.int x0)]) (X0.caload hx (j := (0 : Int32)) (v := (.int x0)) (by rw [e0]; exact Ar94.1) (State.isArrayOf_alike hZ.alike Ar94.2.1) Ar94.2.2 (inb_of S94 ⟨by decide, by decide⟩) (H94.at (inb_of S94 ⟨by decide, by decide⟩) rfl) (g := (mkF m 12 #[rv a, iv 0, rv b, iv 0, iv 3, iv 0, .unset] [(.int (0 : Int32)), (.ref a)])) rfl rfl (hb hby own_d28)) ?_
  refine own_is 15 #[rv a, iv 0, rv b, iv 0, iv 3, iv 0, iv x0] X0 hx (hb hby own_d29) rfl rfl ?_
  refine own_il 17 X0 hx (hb hby own_d30) rfl rfl ?_
  refine own_si 20 255 X0 hx (hb hby own_d31) rfl rfl ?_
  by_cases hb0 : (255 : Int32) < x0
  · refine own_icN 23 X0 hx (hb hby own_d32) (tlt hb0).2.2.2 rfl ?_
    refine own_il 25 X0 hx (hb hby own_d33) rfl rfl ?_
    exact own_retI X0 hx Bd.returns hlk (hb hby own_d34) (by decide) (by decide) (by rw [e0]; exact ⟨N0, KP, (Or.inr (Or.inl ⟨rfl, hb0⟩))⟩)
  · refine own_icY 26 X0 hx (hb hby own_d32) (flt hb0).2.2.2 (by decide) (by decide) ?_
    refine own_aln 27 X0 hx (hb hby own_d35) rfl rfl rfl ?_
    refine own_iln 28 X0 hx (hb hby own_d36) rfl rfl ?_
    refine own_il 30 X0 hx (hb hby own_d37) rfl rfl ?_
    refine own_i2b 31 X0 hx (hb hby own_d38) rfl rfl ?_
    obtain ⟨cl95, Ar95, q95, S95, M95, H95, G95⟩ := id Vb
    obtain ⟨T95, h95, X95, e95, W95, st95⟩ := stB X0 hx hZ e0 Ar95 (j := (0 : Int32)) (inb_of S95 ⟨by decide, by decide⟩) (g := (mkF m 31 #[rv a, iv 0, rv b, iv 0, iv 3, iv 0, iv x0] [(.int (x0.toInt8.toInt32)), (.int (0 : Int32)), (.ref b)])) rfl rfl (hb hby own_d39)
    refine own_to (mkF m 32 #[rv a, iv 0, rv b, iv 0, iv 3, iv 0, iv x0] []) st95 ?_
    have N95 := Fr.snoc X95 N0 ge_b
    have tmp95 : Arv Z h95 b kb .byte (3 : Int32) [(.int ((x0.toInt8.toInt32).toInt8.toInt32)), (.int (0 : Int32)), (.int (0 : Int32))] (.int (0 : Int32)) := Arv.set Ar95 q95 S95 M95 H95 G95 (fits_nar_byte _) W95 0 rfl (Nat.le_of_ble_eq_true rfl)
    rw [own_b8] at tmp95
    have OL := OL.wr W95 ge_b
    have KP := KP.wr W95 (Or.inl (List.mem_of_getElem? (i := 0) rfl))
    have Va := Va.other W95 ne_a_b
    have Vb := tmp95
    refine own_inc 35 #[rv a, iv 1, rv b, iv 0, iv 3, iv 0, iv x0] X95 hx (hb hby own_d40) rfl rfl rfl ?_
    refine own_inc 38 #[rv a, iv 1, rv b, iv 1, iv 3, iv 0, iv x0] X95 hx (hb hby own_d41) rfl rfl rfl ?_
    refine own_inc 41 #[rv a, iv 1, rv b, iv 1, iv 3, iv 1, iv x0] X95 hx (hb hby own_d42) rfl rfl rfl ?_
    refine own_go 3 X95 hx (hb hby own_d43) (by decide) (by decide) ?_
    refine own_il 5 X95 hx (hb hby own_d23) rfl rfl ?_
    refine own_il 7 X95 hx (hb hby own_d24) rfl rfl ?_
    refine own_icN 10 X95 hx (hb hby own_d25) (tlt (by decide : (1 : Int32) < (3 : Int32))).2.1 rfl ?_
    refine own_aln 11 X95 hx (hb hby own_d26) rfl rfl rfl ?_
    refine own_iln 12 X95 hx (hb hby own_d27) rfl rfl ?_
    obtain ⟨cl96, Ar96, -, S96, -, H96, -⟩ := id Va
    refine own_to (mkF m 13 #[rv a, iv 1, rv b, iv 1, iv 3, iv 1, iv x0] [(.int x1)]) (X95.caload hx (j := (1 : Int32)) (v := (.int x1)) (by rw [e95]; exact Ar96.1) (State.isArrayOf_alike hZ.alike Ar96.2.1) Ar96.2.2 (inb_of S96 ⟨by decide, by decide⟩) (H96.at (inb_of S96 ⟨by decide, by decide⟩) rfl) (g := (mkF m 12 #[rv a, iv 1, rv b, iv 1, iv 3, iv 1, iv x0] [(.int (1 : Int32)), (.ref a)])) rfl rfl (hb hby own_d28)) ?_
    refine own_is 15 #[rv a, iv 1, rv b, iv 1, iv 3, iv 1, iv x1] X95 hx (hb hby own_d29) rfl rfl ?_
    refine own_il 17 X95 hx (hb hby own_d30) rfl rfl ?_
    refine own_si 20 255 X95 hx (hb hby own_d31) rfl rfl ?_
    by_cases hb1 : (255 : Int32) < x1
    · refine own_icN 23 X95 hx (hb hby own_d32) (tlt hb1).2.2.2 rfl ?_
      refine own_il 25 X95 hx (hb hby own_d33) rfl rfl ?_
      exact own_retI X95 hx Bd.returns hlk (hb hby own_d34) (by decide) (by decide) (by rw [e95]; exact ⟨N95, KP, (Or.inr (Or.inr (Or.inl ⟨rfl, hb1⟩)))⟩)
    · refine own_icY 26 X95 hx (hb hby own_d32) (flt hb1).2.2.2 (by decide) (by decide) ?_
      refine own_aln 27 X95 hx (hb hby own_d35) rfl rfl rfl ?_
      refine own_iln 28 X95 hx (hb hby own_d36) rfl rfl ?_
      refine own_il 30 X95 hx (hb hby own_d37) rfl rfl ?_
      refine own_i2b 31 X95 hx (hb hby own_d38) rfl rfl ?_
      obtain ⟨cl97, Ar97, q97, S97, M97, H97, G97⟩ := id Vb
      obtain ⟨T97, h97, X97, e97, W97, st97⟩ := stB X95 hx hZ e95 Ar97 (j := (1 : Int32)) (inb_of S97 ⟨by decide, by decide⟩) (g := (mkF m 31 #[rv a, iv 1, rv b, iv 1, iv 3, iv 1, iv x1] [(.int (x1.toInt8.toInt32)), (.int (1 : Int32)), (.ref b)])) rfl rfl (hb hby own_d39)
      refine own_to (mkF m 32 #[rv a, iv 1, rv b, iv 1, iv 3, iv 1, iv x1] []) st97 ?_
      have N97 := Fr.snoc X97 N95 ge_b
      have tmp97 : Arv Z h97 b kb .byte (3 : Int32) [(.int (x0.toInt8.toInt32)), (.int ((x1.toInt8.toInt32).toInt8.toInt32)), (.int (0 : Int32))] (.int (0 : Int32)) := Arv.set Ar97 q97 S97 M97 H97 G97 (fits_nar_byte _) W97 1 rfl (Nat.le_of_ble_eq_true rfl)
      rw [own_b8] at tmp97
      have OL := OL.wr W97 ge_b
      have KP := KP.wr W97 (Or.inl (List.mem_of_getElem? (i := 0) rfl))
      have Va := Va.other W97 ne_a_b
      have Vb := tmp97
      refine own_inc 35 #[rv a, iv 2, rv b, iv 1, iv 3, iv 1, iv x1] X97 hx (hb hby own_d40) rfl rfl rfl ?_
      refine own_inc 38 #[rv a, iv 2, rv b, iv 2, iv 3, iv 1, iv x1] X97 hx (hb hby own_d41) rfl rfl rfl ?_
      refine own_inc 41 #[rv a, iv 2, rv b, iv 2, iv 3, iv 2, iv x1] X97 hx (hb hby own_d42) rfl rfl rfl ?_
      refine own_go 3 X97 hx (hb hby own_d43) (by decide) (by decide) ?_
      refine own_il 5 X97 hx (hb hby own_d23) rfl rfl ?_
      refine own_il 7 X97 hx (hb hby own_d24) rfl rfl ?_
      refine own_icN 10 X97 hx (hb hby own_d25) (tlt (by decide : (2 : Int32) < (3 : Int32))).2.1 rfl ?_
      refine own_aln 11 X97 hx (hb hby own_d26) rfl rfl rfl ?_
      refine own_iln 12 X97 hx (hb hby own_d27) rfl rfl ?_
      obtain ⟨cl98, Ar98, -, S98, -, H98, -⟩ := id Va
      refine own_to (mkF m 13 #[rv a, iv 2, rv b, iv 2, iv 3, iv 2, iv x1] [(.int x2)]) (X97.caload hx (j := (2 : Int32)) (v := (.int x2)) (by rw [e97]; exact Ar98.1) (State.isArrayOf_alike hZ.alike Ar98.2.1) Ar98.2.2 (inb_of S98 ⟨by decide, by decide⟩) (H98.at (inb_of S98 ⟨by decide, by decide⟩) rfl) (g := (mkF m 12 #[rv a, iv 2, rv b, iv 2, iv 3, iv 2, iv x1] [(.int (2 : Int32)), (.ref a)])) rfl rfl (hb hby own_d28)) ?_
      refine own_is 15 #[rv a, iv 2, rv b, iv 2, iv 3, iv 2, iv x2] X97 hx (hb hby own_d29) rfl rfl ?_
      refine own_il 17 X97 hx (hb hby own_d30) rfl rfl ?_
      refine own_si 20 255 X97 hx (hb hby own_d31) rfl rfl ?_
      by_cases hb2 : (255 : Int32) < x2
      · refine own_icN 23 X97 hx (hb hby own_d32) (tlt hb2).2.2.2 rfl ?_
        refine own_il 25 X97 hx (hb hby own_d33) rfl rfl ?_
        exact own_retI X97 hx Bd.returns hlk (hb hby own_d34) (by decide) (by decide) (by rw [e97]; exact ⟨N97, KP, (Or.inr (Or.inr (Or.inr ⟨rfl, hb2⟩)))⟩)
      · refine own_icY 26 X97 hx (hb hby own_d32) (flt hb2).2.2.2 (by decide) (by decide) ?_
        refine own_aln 27 X97 hx (hb hby own_d35) rfl rfl rfl ?_
        refine own_iln 28 X97 hx (hb hby own_d36) rfl rfl ?_
        refine own_il 30 X97 hx (hb hby own_d37) rfl rfl ?_
        refine own_i2b 31 X97 hx (hb hby own_d38) rfl rfl ?_
        obtain ⟨cl99, Ar99, q99, S99, M99, H99, G99⟩ := id Vb
        obtain ⟨T99, h99, X99, e99, W99, st99⟩ := stB X97 hx hZ e97 Ar99 (j := (2 : Int32)) (inb_of S99 ⟨by decide, by decide⟩) (g := (mkF m 31 #[rv a, iv 2, rv b, iv 2, iv 3, iv 2, iv x2] [(.int (x2.toInt8.toInt32)), (.int (2 : Int32)), (.ref b)])) rfl rfl (hb hby own_d39)
        refine own_to (mkF m 32 #[rv a, iv 2, rv b, iv 2, iv 3, iv 2, iv x2] []) st99 ?_
        have N99 := Fr.snoc X99 N97 ge_b
        have tmp99 : Arv Z h99 b kb .byte (3 : Int32) [(.int (x0.toInt8.toInt32)), (.int (x1.toInt8.toInt32)), (.int ((x2.toInt8.toInt32).toInt8.toInt32))] (.int (0 : Int32)) := Arv.set Ar99 q99 S99 M99 H99 G99 (fits_nar_byte _) W99 2 rfl (Nat.le_of_ble_eq_true rfl)
        rw [own_b8] at tmp99
        have OL := OL.wr W99 ge_b
        have KP := KP.wr W99 (Or.inl (List.mem_of_getElem? (i := 0) rfl))
        have Va := Va.other W99 ne_a_b
        have Vb := tmp99
        refine own_inc 35 #[rv a, iv 3, rv b, iv 2, iv 3, iv 2, iv x2] X99 hx (hb hby own_d40) rfl rfl rfl ?_
        refine own_inc 38 #[rv a, iv 3, rv b, iv 3, iv 3, iv 2, iv x2] X99 hx (hb hby own_d41) rfl rfl rfl ?_
        refine own_inc 41 #[rv a, iv 3, rv b, iv 3, iv 3, iv 3, iv x2] X99 hx (hb hby own_d42) rfl rfl rfl ?_
        refine own_go 3 X99 hx (hb hby own_d43) (by decide) (by decide) ?_
        refine own_il 5 X99 hx (hb hby own_d23) rfl rfl ?_
        refine own_il 7 X99 hx (hb hby own_d24) rfl rfl ?_
        refine own_icY 44 X99 hx (hb hby own_d25) (flt (by decide : ¬ ((3 : Int32) < (3 : Int32)))).2.1 (by decide) (by decide) ?_
        refine own_il 46 X99 hx (hb hby own_d44) rfl rfl ?_
        exact own_retI X99 hx Bd.returns hlk (hb hby own_d45) (by decide) (by decide) (by rw [e99]; exact ⟨N99, KP, Or.inl ⟨rfl, hb0, hb1, hb2, Vb⟩⟩)
def own_QNL_3 (Z : State)  (h0 : Heap) (n0 : Nat) (v : Option Value) (h : Heap) (L : List Loc) : Prop := v = some (.int (6 : Int32)) ∧ Fr n0 L ∧ h = h0
set_option maxRecDepth 65536 in
set_option maxHeartbeats 40000000 in
theorem own_rmNL_3 (l : Launch) (Z : State) (a0 : Array Value) (hw : ∀ d ∈ tables_1, d.before a0 Z = true) (ws : List Jvm.Cond)  (h0 : Heap) (n0 : Nat) (Z0 : n0 ≤ h0.size) (OL : Old Z n0 h0)  :
    own_MF l (⟨"java/lang/StringUTF16", "newBytesLength", "(I)I"⟩ : MethodName) (Jvm.Cond.code (⟨"java/lang/StringUTF16", "newBytesLength", "(I)I"⟩ : MethodName) jdk_52_method_3_code 1 (some .int) :: ws) ({ frames := 0, cells := 0, slots := 0, locals := 0 } : Room) #[(.int (3 : Int32))] Z h0 (own_QNL_3 Z  h0 n0) := by
  refine MetFree.of_bodySF (plainFor_of_name own_pn1) hisR ?_
  intro p e s m args below meth c s₁ Bd hml0 hP hK
  obtain ⟨rfl, hZ, hh⟩ := hP
  have hx := Bd.exec
  have hby := Bd.bytes
  have hlk : meth.locks = false := BodyLoose.notSynchronized Bd
  have hml : c.maxLocals = 1 := hml0
  have hown : s.vm.findClass "java/lang/StringUTF16" = some m.cls := findClass_of_methodNamed Bd.named
  have hnm := (name_of_methodNamed Bd.named Bd.method).1
  have X0 : Stand p l e ({ frames := 0, cells := 0, slots := 0, locals := 0 } : Room) s m #[(.int (3 : Int32))] below meth c s₁ [] 0 0 := Stand.of_body Bd
  have e0 : s₁.heap = h0 := by rw [← hh, Bd.state]; rfl
  have N0 := Fr.nil n0
  have KP : Keep h0 h0 [] := Keep.refl _ _
  refine own_start (Fin := (own_Fin s (own_QNL_3 Z  h0 n0) ({ frames := 0, cells := 0, slots := 0, locals := 0 } : Room).cells ({ frames := 0, cells := 0, slots := 0, locals := 0 } : Room).slots)) (own_from (mkF m 0 #[iv 3] []) (castTop (own_ef_NL_3 m (3 : Int32))) ?_)
  refine own_iln 1 X0 hx (hb hby own_d46) rfl rfl ?_
  refine own_ifY 12 X0 hx (hb hby own_d47) ((if0 _ _).trans (flt (by decide : ¬ ((3 : Int32) < (0 : Int32)))).2.1) (by decide) (by decide) ?_
  refine own_iln 13 X0 hx (hb hby own_d48) rfl rfl ?_
  refine own_to (mkF m 15 #[iv 3] [(.int (1073741823 : Int32)), (.int (3 : Int32))]) (X0.ldcInt hx hown (mvT hZ (own_w hw 93 rfl)) (g := (mkF m 13 #[iv 3] [(.int (3 : Int32))])) rfl (hb hby own_d49)) ?_
  refine own_icY 55 X0 hx (hb hby own_d50) (tlt (by decide : (3 : Int32) < (1073741823 : Int32))).1 (by decide) (by decide) ?_
  refine own_iln 56 X0 hx (hb hby own_d51) rfl rfl ?_
  refine own_ic 57 1 X0 hx (hb hby own_d52) rfl rfl ?_
  refine own_ishl 58 X0 hx (hb hby own_d53) (z := (6 : Int32)) rfl rfl ?_
  exact own_retI X0 hx Bd.returns hlk (hb hby own_d54) (by decide) (by decide) (by rw [e0]; exact ⟨rfl, N0, rfl⟩)
def own_QNF_3 (Z : State)  (h0 : Heap) (n0 : Nat) (v : Option Value) (h : Heap) (L : List Loc) : Prop := ∃ (b : Addr) (kb : ClassId), v = some (.ref b) ∧ Fr n0 L ∧ Keep h0 h [] ∧ n0 ≤ b ∧ h0.size ≤ b ∧ Arv Z h b kb .byte (6 : Int32) [(.int (0 : Int32)), (.int (0 : Int32)), (.int (0 : Int32)), (.int (0 : Int32)), (.int (0 : Int32)), (.int (0 : Int32))] (.int (0 : Int32))
set_option maxRecDepth 65536 in
set_option maxHeartbeats 40000000 in
theorem own_rmNF_3 (l : Launch) (Z : State) (a0 : Array Value) (hw : ∀ d ∈ tables_1, d.before a0 Z = true) (ws : List Jvm.Cond)  (h0 : Heap) (n0 : Nat) (Z0 : n0 ≤ h0.size) (OL : Old Z n0 h0)  :
    own_MF l (⟨"java/lang/StringUTF16", "newBytesFor", "(I)[B"⟩ : MethodName) (Jvm.Cond.code (⟨"java/lang/StringUTF16", "newBytesFor", "(I)[B"⟩ : MethodName) jdk_52_method_2_code 1 (some (.array .byte)) :: ws) ({ frames := 1, cells := 1, slots := 6, locals := 20 } : Room) #[(.int (3 : Int32))] Z h0 (own_QNF_3 Z  h0 n0) := by
  refine MetFree.of_bodySF (plainFor_of_name own_pn1) hisR ?_
  intro p e s m args below meth c s₁ Bd hml0 hP hK
  obtain ⟨rfl, hZ, hh⟩ := hP
  have hx := Bd.exec
  have hby := Bd.bytes
  have hlk : meth.locks = false := BodyLoose.notSynchronized Bd
  have hml : c.maxLocals = 1 := hml0
  have hown : s.vm.findClass "java/lang/StringUTF16" = some m.cls := findClass_of_methodNamed Bd.named
  have hnm := (name_of_methodNamed Bd.named Bd.method).1
  have X0 : Stand p l e ({ frames := 1, cells := 1, slots := 6, locals := 20 } : Room) s m #[(.int (3 : Int32))] below meth c s₁ [] 0 0 := Stand.of_body Bd
  have e0 : s₁.heap = h0 := by rw [← hh, Bd.state]; rfl
  have N0 := Fr.nil n0
  have KP : Keep h0 h0 [] := Keep.refl _ _
  refine own_start (Fin := (own_Fin s (own_QNF_3 Z  h0 n0) ({ frames := 1, cells := 1, slots := 6, locals := 20 } : Room).cells ({ frames := 1, cells := 1, slots := 6, locals := 20 } : Room).slots)) (own_from (mkF m 0 #[iv 3] []) (castTop (own_ef_NF_3 m (3 : Int32))) ?_)
  refine own_iln 1 X0 hx (hb hby own_d55) rfl rfl ?_
  obtain ⟨_, T100, Lc100, X100, hQ100, st100⟩ := own_callS X0 hx (y := (⟨"java/lang/StringUTF16", "newBytesLength", "(I)I"⟩ : MethodName)) hown (mvT hZ (own_w hw 90 rfl)) (mvT hZ (own_w hw 91 rfl)) (mvT hZ (own_w hw 24 rfl)) (mvT hZ (own_w hw 92 rfl)) (by decide) (backOf (W := 0) (own_rmNL_3 l Z a0 hw [] h0 n0 (Nat.le_trans Z0 KP.1) OL) hZ (own_w hw 92 rfl) (own_w hw 24 rfl) (by decide) (by decide)) (g := (mkF m 1 #[iv 3] [(.int (3 : Int32))])) rfl (by rw [hml]; rfl) (argsL := [(.int (3 : Int32))]) (rest := []) (lenOf own_pd1 rfl) rfl (by show 2 * 0 + _ ≤ _; exact Nat.le_of_eq rfl) (hb hby own_d56) rfl e0 (kc := 0) (ks := 0) rfl rfl (by decide) (by decide)
  obtain ⟨rfl, N100q, e100⟩ := hQ100
  have N100 := Fr.app N0 N100q
  refine own_to (mkF m 4 #[iv 3] [(.int (6 : Int32))]) st100 ?_
  obtain ⟨T101, h101, k101, X101, e101, E101, A101, B101, st101⟩ := newPE X100 hx hZ (own_w hw 26 rfl) e100 (g := (mkF m 4 #[iv 3] [(.int (6 : Int32))])) rfl (hb hby own_d57) rfl (by decide) (cap := 6) (by decide) (by decide) (by decide) (by decide) (ad := "[B") (by decide)
  obtain ⟨b101, g101⟩ : ∃ z, z = h0.size := ⟨_, rfl⟩
  rw [← g101] at A101 B101 st101
  have sz_b101 : h0.size ≤ b101 := Nat.le_trans KP.1 (Nat.le_of_eq g101.symm)
  have ge_b101 : n0 ≤ b101 := Nat.le_trans Z0 sz_b101
  have OL := OL.ext E101
  have KP := KP.ext E101
  have V_b101 : Arv Z h101 b101 k101 .byte (6 : Int32) [(.int (0 : Int32)), (.int (0 : Int32)), (.int (0 : Int32)), (.int (0 : Int32)), (.int (0 : Int32)), (.int (0 : Int32))] (.int (0 : Int32)) := (Arv.new A101 (by decide)).pad (pad_rep [] (.int (0 : Int32)) 6)
  refine own_to (mkF m 6 #[iv 3] [(.ref b101)]) st101 ?_
  exact own_retA X101 hx Bd.returns rfl hlk (hb hby own_d58) rfl (by decide) (by decide) (by rw [e101]; exact ⟨b101, k101, rfl, N100, KP, ge_b101, sz_b101, V_b101⟩)
def own_QPC_3_0 (Z : State) (u0 u1 u2 u3 u4 u5 cc : Int32) (G1 : Int32) (b : Addr) (kb : ClassId) (h0 : Heap) (n0 : Nat) (v : Option Value) (h : Heap) (L : List Loc) : Prop := v = none ∧ Fr n0 L ∧ Keep h0 h [b] ∧ Arv Z h b kb .byte (6 : Int32) [(.int ((cc >>> ((0 : Int32) &&& 31)).toInt8.toInt32)), (.int ((cc >>> ((8 : Int32) &&& 31)).toInt8.toInt32)), (.int u2), (.int u3), (.int u4), (.int u5)] (.int (0 : Int32))
set_option maxRecDepth 65536 in
set_option maxHeartbeats 40000000 in
theorem own_rmPC_3_0 (l : Launch) (Z : State) (a0 : Array Value) (hw : ∀ d ∈ tables_1, d.before a0 Z = true) (ws : List Jvm.Cond) (u0 u1 u2 u3 u4 u5 cc : Int32) (G1 : Int32) (b : Addr) (kb : ClassId) (h0 : Heap) (n0 : Nat) (Z0 : n0 ≤ h0.size) (OL : Old Z n0 h0) (ge_b : n0 ≤ b) (Vb : Arv Z h0 b kb .byte (6 : Int32) [(.int u0), (.int u1), (.int u2), (.int u3), (.int u4), (.int u5)] (.int (0 : Int32))) (O2 : Sta Z Z.heap "java/lang/String" "COMPACT_STRINGS" "Z" (.int G1)) (P5 : ¬ (G1 = (0 : Int32))) (OAD : Sta Z Z.heap "java/lang/StringUTF16" "$assertionsDisabled" "Z" (.int (1 : Int32))) (OHI : Sta Z Z.heap "java/lang/StringUTF16" "HI_BYTE_SHIFT" "I" (.int (0 : Int32))) (OLO : Sta Z Z.heap "java/lang/StringUTF16" "LO_BYTE_SHIFT" "I" (.int (8 : Int32))) :
    own_MF l (⟨"java/lang/StringUTF16", "putChar", "([BII)V"⟩ : MethodName) (Jvm.Cond.code (⟨"java/lang/StringUTF16", "putChar", "([BII)V"⟩ : MethodName) jdk_52_method_4_code 3 none :: ws) ({ frames := 0, cells := 0, slots := 0, locals := 0 } : Room) #[(.ref b), (.int (0 : Int32)), (.int cc)] Z h0 (own_QPC_3_0 Z u0 u1 u2 u3 u4 u5 cc G1 b kb h0 n0) := by
  refine MetFree.of_bodySF (plainFor_of_name own_pn1) hisR ?_
  intro p e s m args below meth c s₁ Bd hml0 hP hK
  obtain ⟨rfl, hZ, hh⟩ := hP
  have hx := Bd.exec
  have hby := Bd.bytes
  have hlk : meth.locks = false := BodyLoose.notSynchronized Bd
  have hml : c.maxLocals = 3 := hml0
  have hown : s.vm.findClass "java/lang/StringUTF16" = some m.cls := findClass_of_methodNamed Bd.named
  have hnm := (name_of_methodNamed Bd.named Bd.method).1
  have X0 : Stand p l e ({ frames := 0, cells := 0, slots := 0, locals := 0 } : Room) s m #[(.ref b), (.int (0 : Int32)), (.int cc)] below meth c s₁ [] 0 0 := Stand.of_body Bd
  have e0 : s₁.heap = h0 := by rw [← hh, Bd.state]; rfl
  have N0 := Fr.nil n0
  have KP : Keep h0 h0 [b] := Keep.refl _ _
  refine own_start (Fin := (own_Fin s (own_QPC_3_0 Z u0 u1 u2 u3 u4 u5 cc G1 b kb h0 n0) ({ frames := 0, cells := 0, slots := 0, locals := 0 } : Room).cells ({ frames := 0, cells := 0, slots := 0, locals := 0 } : Room).slots)) (own_from (mkF m 0 #[rv b, iv 0, iv cc] []) (castTop (own_ef_PC_3_0 m b (0 : Int32) cc)) ?_)
  obtain ⟨T102, X102, e102, st102⟩ := getS2 X0 hx hZ hown (host := "") (Or.inl (own_w hw 97 rfl)) Via.refl e0 (OAD.ext OL.2) (g := (mkF m 0 #[rv b, iv 0, iv cc] [])) rfl (hb hby own_d59)
  refine own_to (mkF m 3 #[rv b, iv 0, iv cc] [(.int (1 : Int32))]) st102 ?_
  refine own_ifY 28 X102 hx (hb hby own_d60) ((if0 _ _).trans (feq (by decide : ¬ ((1 : Int32) = (0 : Int32)))).2) (by decide) (by decide) ?_
  refine own_iln 29 X102 hx (hb hby own_d61) rfl rfl ?_
  refine own_ic 30 1 X102 hx (hb hby own_d62) rfl rfl ?_
  refine own_ishl 31 X102 hx (hb hby own_d63) (z := (0 : Int32)) rfl rfl ?_
  refine own_isn 32 #[rv b, iv 0, iv cc] X102 hx (hb hby own_d64) rfl rfl ?_
  refine own_aln 33 X102 hx (hb hby own_d65) rfl rfl rfl ?_
  refine own_iln 34 X102 hx (hb hby own_d66) rfl rfl ?_
  refine own_inc 37 #[rv b, iv 1, iv cc] X102 hx (hb hby own_d67) rfl rfl rfl ?_
  refine own_iln 38 X102 hx (hb hby own_d68) rfl rfl ?_
  obtain ⟨T103, X103, e103, st103⟩ := getS2 X102 hx hZ hown (host := "") (Or.inl (own_w hw 98 rfl)) Via.refl e102 (OHI.ext OL.2) (g := (mkF m 38 #[rv b, iv 1, iv cc] [(.int cc), (.int (0 : Int32)), (.ref b)])) rfl (hb hby own_d69)
  refine own_to (mkF m 41 #[rv b, iv 1, iv cc] [(.int (0 : Int32)), (.int cc), (.int (0 : Int32)), (.ref b)]) st103 ?_
  refine own_ishr 42 X103 hx (hb hby own_d70) rfl rfl ?_
  refine own_i2b 43 X103 hx (hb hby own_d71) rfl rfl ?_
  obtain ⟨cl104, Ar104, q104, S104, M104, H104, G104⟩ := id Vb
  obtain ⟨T104, h104, X104, e104, W104, st104⟩ := stB X103 hx hZ e103 Ar104 (j := (0 : Int32)) (inb_of S104 ⟨by decide, by decide⟩) (g := (mkF m 43 #[rv b, iv 1, iv cc] [(.int ((cc >>> ((0 : Int32) &&& 31)).toInt8.toInt32)), (.int (0 : Int32)), (.ref b)])) rfl rfl (hb hby own_d72)
  refine own_to (mkF m 44 #[rv b, iv 1, iv cc] []) st104 ?_
  have N104 := Fr.snoc X104 N0 ge_b
  have tmp104 : Arv Z h104 b kb .byte (6 : Int32) [(.int (((cc >>> ((0 : Int32) &&& 31)).toInt8.toInt32).toInt8.toInt32)), (.int u1), (.int u2), (.int u3), (.int u4), (.int u5)] (.int (0 : Int32)) := Arv.set Ar104 q104 S104 M104 H104 G104 (fits_nar_byte _) W104 0 rfl (Nat.le_of_ble_eq_true rfl)
  rw [own_b8] at tmp104
  have OL := OL.wr W104 ge_b
  have KP := KP.wr W104 (Or.inl (List.mem_of_getElem? (i := 0) rfl))
  have Vb := tmp104
  refine own_aln 45 X104 hx (hb hby own_d73) rfl rfl rfl ?_
  refine own_iln 46 X104 hx (hb hby own_d74) rfl rfl ?_
  refine own_iln 47 X104 hx (hb hby own_d75) rfl rfl ?_
  obtain ⟨T105, X105, e105, st105⟩ := getS2 X104 hx hZ hown (host := "") (Or.inl (own_w hw 99 rfl)) Via.refl e104 (OLO.ext OL.2) (g := (mkF m 47 #[rv b, iv 1, iv cc] [(.int cc), (.int (1 : Int32)), (.ref b)])) rfl (hb hby own_d76)
  refine own_to (mkF m 50 #[rv b, iv 1, iv cc] [(.int (8 : Int32)), (.int cc), (.int (1 : Int32)), (.ref b)]) st105 ?_
  refine own_ishr 51 X105 hx (hb hby own_d77) rfl rfl ?_
  refine own_i2b 52 X105 hx (hb hby own_d78) rfl rfl ?_
  obtain ⟨cl106, Ar106, q106, S106, M106, H106, G106⟩ := id Vb
  obtain ⟨T106, h106, X106, e106, W106, st106⟩ := stB X105 hx hZ e105 Ar106 (j := (1 : Int32)) (inb_of S106 ⟨by decide, by decide⟩) (g := (mkF m 52 #[rv b, iv 1, iv cc] [(.int ((cc >>> ((8 : Int32) &&& 31)).toInt8.toInt32)), (.int (1 : Int32)), (.ref b)])) rfl rfl (hb hby own_d79)
  refine own_to (mkF m 53 #[rv b, iv 1, iv cc] []) st106 ?_
  have N106 := Fr.snoc X106 N104 ge_b
  have tmp106 : Arv Z h106 b kb .byte (6 : Int32) [(.int ((cc >>> ((0 : Int32) &&& 31)).toInt8.toInt32)), (.int (((cc >>> ((8 : Int32) &&& 31)).toInt8.toInt32).toInt8.toInt32)), (.int u2), (.int u3), (.int u4), (.int u5)] (.int (0 : Int32)) := Arv.set Ar106 q106 S106 M106 H106 G106 (fits_nar_byte _) W106 1 rfl (Nat.le_of_ble_eq_true rfl)
  rw [own_b8] at tmp106
  have OL := OL.wr W106 ge_b
  have KP := KP.wr W106 (Or.inl (List.mem_of_getElem? (i := 0) rfl))
  have Vb := tmp106
  exact own_ret0 X106 hx Bd.returns hlk (hb hby own_d80) (by decide) (by decide) (by rw [e106]; exact ⟨rfl, N106, KP, Vb⟩)
def own_QPC_3_1 (Z : State) (u0 u1 u2 u3 u4 u5 cc : Int32) (G1 : Int32) (b : Addr) (kb : ClassId) (h0 : Heap) (n0 : Nat) (v : Option Value) (h : Heap) (L : List Loc) : Prop := v = none ∧ Fr n0 L ∧ Keep h0 h [b] ∧ Arv Z h b kb .byte (6 : Int32) [(.int u0), (.int u1), (.int ((cc >>> ((0 : Int32) &&& 31)).toInt8.toInt32)), (.int ((cc >>> ((8 : Int32) &&& 31)).toInt8.toInt32)), (.int u4), (.int u5)] (.int (0 : Int32))
set_option maxRecDepth 65536 in
set_option maxHeartbeats 40000000 in
theorem own_rmPC_3_1 (l : Launch) (Z : State) (a0 : Array Value) (hw : ∀ d ∈ tables_1, d.before a0 Z = true) (ws : List Jvm.Cond) (u0 u1 u2 u3 u4 u5 cc : Int32) (G1 : Int32) (b : Addr) (kb : ClassId) (h0 : Heap) (n0 : Nat) (Z0 : n0 ≤ h0.size) (OL : Old Z n0 h0) (ge_b : n0 ≤ b) (Vb : Arv Z h0 b kb .byte (6 : Int32) [(.int u0), (.int u1), (.int u2), (.int u3), (.int u4), (.int u5)] (.int (0 : Int32))) (O2 : Sta Z Z.heap "java/lang/String" "COMPACT_STRINGS" "Z" (.int G1)) (P5 : ¬ (G1 = (0 : Int32))) (OAD : Sta Z Z.heap "java/lang/StringUTF16" "$assertionsDisabled" "Z" (.int (1 : Int32))) (OHI : Sta Z Z.heap "java/lang/StringUTF16" "HI_BYTE_SHIFT" "I" (.int (0 : Int32))) (OLO : Sta Z Z.heap "java/lang/StringUTF16" "LO_BYTE_SHIFT" "I" (.int (8 : Int32))) :
    own_MF l (⟨"java/lang/StringUTF16", "putChar", "([BII)V"⟩ : MethodName) (Jvm.Cond.code (⟨"java/lang/StringUTF16", "putChar", "([BII)V"⟩ : MethodName) jdk_52_method_4_code 3 none :: ws) ({ frames := 0, cells := 0, slots := 0, locals := 0 } : Room) #[(.ref b), (.int (1 : Int32)), (.int cc)] Z h0 (own_QPC_3_1 Z u0 u1 u2 u3 u4 u5 cc G1 b kb h0 n0) := by
  refine MetFree.of_bodySF (plainFor_of_name own_pn1) hisR ?_
  intro p e s m args below meth c s₁ Bd hml0 hP hK
  obtain ⟨rfl, hZ, hh⟩ := hP
  have hx := Bd.exec
  have hby := Bd.bytes
  have hlk : meth.locks = false := BodyLoose.notSynchronized Bd
  have hml : c.maxLocals = 3 := hml0
  have hown : s.vm.findClass "java/lang/StringUTF16" = some m.cls := findClass_of_methodNamed Bd.named
  have hnm := (name_of_methodNamed Bd.named Bd.method).1
  have X0 : Stand p l e ({ frames := 0, cells := 0, slots := 0, locals := 0 } : Room) s m #[(.ref b), (.int (1 : Int32)), (.int cc)] below meth c s₁ [] 0 0 := Stand.of_body Bd
  have e0 : s₁.heap = h0 := by rw [← hh, Bd.state]; rfl
  have N0 := Fr.nil n0
  have KP : Keep h0 h0 [b] := Keep.refl _ _
  refine own_start (Fin := (own_Fin s (own_QPC_3_1 Z u0 u1 u2 u3 u4 u5 cc G1 b kb h0 n0) ({ frames := 0, cells := 0, slots := 0, locals := 0 } : Room).cells ({ frames := 0, cells := 0, slots := 0, locals := 0 } : Room).slots)) (own_from (mkF m 0 #[rv b, iv 1, iv cc] []) (castTop (own_ef_PC_3_1 m b (1 : Int32) cc)) ?_)
  obtain ⟨T107, X107, e107, st107⟩ := getS2 X0 hx hZ hown (host := "") (Or.inl (own_w hw 97 rfl)) Via.refl e0 (OAD.ext OL.2) (g := (mkF m 0 #[rv b, iv 1, iv cc] [])) rfl (hb hby own_d59)
  refine own_to (mkF m 3 #[rv b, iv 1, iv cc] [(.int (1 : Int32))]) st107 ?_
  refine own_ifY 28 X107 hx (hb hby own_d60) ((if0 _ _).trans (feq (by decide : ¬ ((1 : Int32) = (0 : Int32)))).2) (by decide) (by decide) ?_
  refine own_iln 29 X107 hx (hb hby own_d61) rfl rfl ?_
  refine own_ic 30 1 X107 hx (hb hby own_d62) rfl rfl ?_
  refine own_ishl 31 X107 hx (hb hby own_d63) (z := (2 : Int32)) rfl rfl ?_
  refine own_isn 32 #[rv b, iv 2, iv cc] X107 hx (hb hby own_d64) rfl rfl ?_
  refine own_aln 33 X107 hx (hb hby own_d65) rfl rfl rfl ?_
  refine own_iln 34 X107 hx (hb hby own_d66) rfl rfl ?_
  refine own_inc 37 #[rv b, iv 3, iv cc] X107 hx (hb hby own_d67) rfl rfl rfl ?_
  refine own_iln 38 X107 hx (hb hby own_d68) rfl rfl ?_
  obtain ⟨T108, X108, e108, st108⟩ := getS2 X107 hx hZ hown (host := "") (Or.inl (own_w hw 98 rfl)) Via.refl e107 (OHI.ext OL.2) (g := (mkF m 38 #[rv b, iv 3, iv cc] [(.int cc), (.int (2 : Int32)), (.ref b)])) rfl (hb hby own_d69)
  refine own_to (mkF m 41 #[rv b, iv 3, iv cc] [(.int (0 : Int32)), (.int cc), (.int (2 : Int32)), (.ref b)]) st108 ?_
  refine own_ishr 42 X108 hx (hb hby own_d70) rfl rfl ?_
  refine own_i2b 43 X108 hx (hb hby own_d71) rfl rfl ?_
  obtain ⟨cl109, Ar109, q109, S109, M109, H109, G109⟩ := id Vb
  obtain ⟨T109, h109, X109, e109, W109, st109⟩ := stB X108 hx hZ e108 Ar109 (j := (2 : Int32)) (inb_of S109 ⟨by decide, by decide⟩) (g := (mkF m 43 #[rv b, iv 3, iv cc] [(.int ((cc >>> ((0 : Int32) &&& 31)).toInt8.toInt32)), (.int (2 : Int32)), (.ref b)])) rfl rfl (hb hby own_d72)
  refine own_to (mkF m 44 #[rv b, iv 3, iv cc] []) st109 ?_
  have N109 := Fr.snoc X109 N0 ge_b
  have tmp109 : Arv Z h109 b kb .byte (6 : Int32) [(.int u0), (.int u1), (.int (((cc >>> ((0 : Int32) &&& 31)).toInt8.toInt32).toInt8.toInt32)), (.int u3), (.int u4), (.int u5)] (.int (0 : Int32)) := Arv.set Ar109 q109 S109 M109 H109 G109 (fits_nar_byte _) W109 2 rfl (Nat.le_of_ble_eq_true rfl)
  rw [own_b8] at tmp109
  have OL := OL.wr W109 ge_b
  have KP := KP.wr W109 (Or.inl (List.mem_of_getElem? (i := 0) rfl))
  have Vb := tmp109
  refine own_aln 45 X109 hx (hb hby own_d73) rfl rfl rfl ?_
  refine own_iln 46 X109 hx (hb hby own_d74) rfl rfl ?_
  refine own_iln 47 X109 hx (hb hby own_d75) rfl rfl ?_
  obtain ⟨T110, X110, e110, st110⟩ := getS2 X109 hx hZ hown (host := "") (Or.inl (own_w hw 99 rfl)) Via.refl e109 (OLO.ext OL.2) (g := (mkF m 47 #[rv b, iv 3, iv cc] [(.int cc), (.int (3 : Int32)), (.ref b)])) rfl (hb hby own_d76)
  refine own_to (mkF m 50 #[rv b, iv 3, iv cc] [(.int (8 : Int32)), (.int cc), (.int (3 : Int32)), (.ref b)]) st110 ?_
  refine own_ishr 51 X110 hx (hb hby own_d77) rfl rfl ?_
  refine own_i2b 52 X110 hx (hb hby own_d78) rfl rfl ?_
  obtain ⟨cl111, Ar111, q111, S111, M111, H111, G111⟩ := id Vb
  obtain ⟨T111, h111, X111, e111, W111, st111⟩ := stB X110 hx hZ e110 Ar111 (j := (3 : Int32)) (inb_of S111 ⟨by decide, by decide⟩) (g := (mkF m 52 #[rv b, iv 3, iv cc] [(.int ((cc >>> ((8 : Int32) &&& 31)).toInt8.toInt32)), (.int (3 : Int32)), (.ref b)])) rfl rfl (hb hby own_d79)
  refine own_to (mkF m 53 #[rv b, iv 3, iv cc] []) st111 ?_
  have N111 := Fr.snoc X111 N109 ge_b
  have tmp111 : Arv Z h111 b kb .byte (6 : Int32) [(.int u0), (.int u1), (.int ((cc >>> ((0 : Int32) &&& 31)).toInt8.toInt32)), (.int (((cc >>> ((8 : Int32) &&& 31)).toInt8.toInt32).toInt8.toInt32)), (.int u4), (.int u5)] (.int (0 : Int32)) := Arv.set Ar111 q111 S111 M111 H111 G111 (fits_nar_byte _) W111 3 rfl (Nat.le_of_ble_eq_true rfl)
  rw [own_b8] at tmp111
  have OL := OL.wr W111 ge_b
  have KP := KP.wr W111 (Or.inl (List.mem_of_getElem? (i := 0) rfl))
  have Vb := tmp111
  exact own_ret0 X111 hx Bd.returns hlk (hb hby own_d80) (by decide) (by decide) (by rw [e111]; exact ⟨rfl, N111, KP, Vb⟩)
def own_QPC_3_2 (Z : State) (u0 u1 u2 u3 u4 u5 cc : Int32) (G1 : Int32) (b : Addr) (kb : ClassId) (h0 : Heap) (n0 : Nat) (v : Option Value) (h : Heap) (L : List Loc) : Prop := v = none ∧ Fr n0 L ∧ Keep h0 h [b] ∧ Arv Z h b kb .byte (6 : Int32) [(.int u0), (.int u1), (.int u2), (.int u3), (.int ((cc >>> ((0 : Int32) &&& 31)).toInt8.toInt32)), (.int ((cc >>> ((8 : Int32) &&& 31)).toInt8.toInt32))] (.int (0 : Int32))
set_option maxRecDepth 65536 in
set_option maxHeartbeats 40000000 in
theorem own_rmPC_3_2 (l : Launch) (Z : State) (a0 : Array Value) (hw : ∀ d ∈ tables_1, d.before a0 Z = true) (ws : List Jvm.Cond) (u0 u1 u2 u3 u4 u5 cc : Int32) (G1 : Int32) (b : Addr) (kb : ClassId) (h0 : Heap) (n0 : Nat) (Z0 : n0 ≤ h0.size) (OL : Old Z n0 h0) (ge_b : n0 ≤ b) (Vb : Arv Z h0 b kb .byte (6 : Int32) [(.int u0), (.int u1), (.int u2), (.int u3), (.int u4), (.int u5)] (.int (0 : Int32))) (O2 : Sta Z Z.heap "java/lang/String" "COMPACT_STRINGS" "Z" (.int G1)) (P5 : ¬ (G1 = (0 : Int32))) (OAD : Sta Z Z.heap "java/lang/StringUTF16" "$assertionsDisabled" "Z" (.int (1 : Int32))) (OHI : Sta Z Z.heap "java/lang/StringUTF16" "HI_BYTE_SHIFT" "I" (.int (0 : Int32))) (OLO : Sta Z Z.heap "java/lang/StringUTF16" "LO_BYTE_SHIFT" "I" (.int (8 : Int32))) :
    own_MF l (⟨"java/lang/StringUTF16", "putChar", "([BII)V"⟩ : MethodName) (Jvm.Cond.code (⟨"java/lang/StringUTF16", "putChar", "([BII)V"⟩ : MethodName) jdk_52_method_4_code 3 none :: ws) ({ frames := 0, cells := 0, slots := 0, locals := 0 } : Room) #[(.ref b), (.int (2 : Int32)), (.int cc)] Z h0 (own_QPC_3_2 Z u0 u1 u2 u3 u4 u5 cc G1 b kb h0 n0) := by
  refine MetFree.of_bodySF (plainFor_of_name own_pn1) hisR ?_
  intro p e s m args below meth c s₁ Bd hml0 hP hK
  obtain ⟨rfl, hZ, hh⟩ := hP
  have hx := Bd.exec
  have hby := Bd.bytes
  have hlk : meth.locks = false := BodyLoose.notSynchronized Bd
  have hml : c.maxLocals = 3 := hml0
  have hown : s.vm.findClass "java/lang/StringUTF16" = some m.cls := findClass_of_methodNamed Bd.named
  have hnm := (name_of_methodNamed Bd.named Bd.method).1
  have X0 : Stand p l e ({ frames := 0, cells := 0, slots := 0, locals := 0 } : Room) s m #[(.ref b), (.int (2 : Int32)), (.int cc)] below meth c s₁ [] 0 0 := Stand.of_body Bd
  have e0 : s₁.heap = h0 := by rw [← hh, Bd.state]; rfl
  have N0 := Fr.nil n0
  have KP : Keep h0 h0 [b] := Keep.refl _ _
  refine own_start (Fin := (own_Fin s (own_QPC_3_2 Z u0 u1 u2 u3 u4 u5 cc G1 b kb h0 n0) ({ frames := 0, cells := 0, slots := 0, locals := 0 } : Room).cells ({ frames := 0, cells := 0, slots := 0, locals := 0 } : Room).slots)) (own_from (mkF m 0 #[rv b, iv 2, iv cc] []) (castTop (own_ef_PC_3_2 m b (2 : Int32) cc)) ?_)
  obtain ⟨T112, X112, e112, st112⟩ := getS2 X0 hx hZ hown (host := "") (Or.inl (own_w hw 97 rfl)) Via.refl e0 (OAD.ext OL.2) (g := (mkF m 0 #[rv b, iv 2, iv cc] [])) rfl (hb hby own_d59)
  refine own_to (mkF m 3 #[rv b, iv 2, iv cc] [(.int (1 : Int32))]) st112 ?_
  refine own_ifY 28 X112 hx (hb hby own_d60) ((if0 _ _).trans (feq (by decide : ¬ ((1 : Int32) = (0 : Int32)))).2) (by decide) (by decide) ?_
  refine own_iln 29 X112 hx (hb hby own_d61) rfl rfl ?_
  refine own_ic 30 1 X112 hx (hb hby own_d62) rfl rfl ?_
  refine own_ishl 31 X112 hx (hb hby own_d63) (z := (4 : Int32)) rfl rfl ?_
  refine own_isn 32 #[rv b, iv 4, iv cc] X112 hx (hb hby own_d64) rfl rfl ?_
  refine own_aln 33 X112 hx (hb hby own_d65) rfl rfl rfl ?_
  refine own_iln 34 X112 hx (hb hby own_d66) rfl rfl ?_
  refine own_inc 37 #[rv b, iv 5, iv cc] X112 hx (hb hby own_d67) rfl rfl rfl ?_
  refine own_iln 38 X112 hx (hb hby own_d68) rfl rfl ?_
  obtain ⟨T113, X113, e113, st113⟩ := getS2 X112 hx hZ hown (host := "") (Or.inl (own_w hw 98 rfl)) Via.refl e112 (OHI.ext OL.2) (g := (mkF m 38 #[rv b, iv 5, iv cc] [(.int cc), (.int (4 : Int32)), (.ref b)])) rfl (hb hby own_d69)
  refine own_to (mkF m 41 #[rv b, iv 5, iv cc] [(.int (0 : Int32)), (.int cc), (.int (4 : Int32)), (.ref b)]) st113 ?_
  refine own_ishr 42 X113 hx (hb hby own_d70) rfl rfl ?_
  refine own_i2b 43 X113 hx (hb hby own_d71) rfl rfl ?_
  obtain ⟨cl114, Ar114, q114, S114, M114, H114, G114⟩ := id Vb
  obtain ⟨T114, h114, X114, e114, W114, st114⟩ := stB X113 hx hZ e113 Ar114 (j := (4 : Int32)) (inb_of S114 ⟨by decide, by decide⟩) (g := (mkF m 43 #[rv b, iv 5, iv cc] [(.int ((cc >>> ((0 : Int32) &&& 31)).toInt8.toInt32)), (.int (4 : Int32)), (.ref b)])) rfl rfl (hb hby own_d72)
  refine own_to (mkF m 44 #[rv b, iv 5, iv cc] []) st114 ?_
  have N114 := Fr.snoc X114 N0 ge_b
  have tmp114 : Arv Z h114 b kb .byte (6 : Int32) [(.int u0), (.int u1), (.int u2), (.int u3), (.int (((cc >>> ((0 : Int32) &&& 31)).toInt8.toInt32).toInt8.toInt32)), (.int u5)] (.int (0 : Int32)) := Arv.set Ar114 q114 S114 M114 H114 G114 (fits_nar_byte _) W114 4 rfl (Nat.le_of_ble_eq_true rfl)
  rw [own_b8] at tmp114
  have OL := OL.wr W114 ge_b
  have KP := KP.wr W114 (Or.inl (List.mem_of_getElem? (i := 0) rfl))
  have Vb := tmp114
  refine own_aln 45 X114 hx (hb hby own_d73) rfl rfl rfl ?_
  refine own_iln 46 X114 hx (hb hby own_d74) rfl rfl ?_
  refine own_iln 47 X114 hx (hb hby own_d75) rfl rfl ?_
  obtain ⟨T115, X115, e115, st115⟩ := getS2 X114 hx hZ hown (host := "") (Or.inl (own_w hw 99 rfl)) Via.refl e114 (OLO.ext OL.2) (g := (mkF m 47 #[rv b, iv 5, iv cc] [(.int cc), (.int (5 : Int32)), (.ref b)])) rfl (hb hby own_d76)
  refine own_to (mkF m 50 #[rv b, iv 5, iv cc] [(.int (8 : Int32)), (.int cc), (.int (5 : Int32)), (.ref b)]) st115 ?_
  refine own_ishr 51 X115 hx (hb hby own_d77) rfl rfl ?_
  refine own_i2b 52 X115 hx (hb hby own_d78) rfl rfl ?_
  obtain ⟨cl116, Ar116, q116, S116, M116, H116, G116⟩ := id Vb
  obtain ⟨T116, h116, X116, e116, W116, st116⟩ := stB X115 hx hZ e115 Ar116 (j := (5 : Int32)) (inb_of S116 ⟨by decide, by decide⟩) (g := (mkF m 52 #[rv b, iv 5, iv cc] [(.int ((cc >>> ((8 : Int32) &&& 31)).toInt8.toInt32)), (.int (5 : Int32)), (.ref b)])) rfl rfl (hb hby own_d79)
  refine own_to (mkF m 53 #[rv b, iv 5, iv cc] []) st116 ?_
  have N116 := Fr.snoc X116 N114 ge_b
  have tmp116 : Arv Z h116 b kb .byte (6 : Int32) [(.int u0), (.int u1), (.int u2), (.int u3), (.int ((cc >>> ((0 : Int32) &&& 31)).toInt8.toInt32)), (.int (((cc >>> ((8 : Int32) &&& 31)).toInt8.toInt32).toInt8.toInt32))] (.int (0 : Int32)) := Arv.set Ar116 q116 S116 M116 H116 G116 (fits_nar_byte _) W116 5 rfl (Nat.le_of_ble_eq_true rfl)
  rw [own_b8] at tmp116
  have OL := OL.wr W116 ge_b
  have KP := KP.wr W116 (Or.inl (List.mem_of_getElem? (i := 0) rfl))
  have Vb := tmp116
  exact own_ret0 X116 hx Bd.returns hlk (hb hby own_d80) (by decide) (by decide) (by rw [e116]; exact ⟨rfl, N116, KP, Vb⟩)
def own_QTS_3 (Z : State) (x0 x1 x2 : Int32) (G1 : Int32) (a : Addr) (ka : ClassId) (h0 : Heap) (n0 : Nat) (v : Option Value) (h : Heap) (L : List Loc) : Prop := ∃ (b : Addr) (kb : ClassId), v = some (.ref b) ∧ Fr n0 L ∧ Keep h0 h [] ∧ n0 ≤ b ∧ h0.size ≤ b ∧ Arv Z h b kb .byte (6 : Int32) [(.int ((x0 >>> ((0 : Int32) &&& 31)).toInt8.toInt32)), (.int ((x0 >>> ((8 : Int32) &&& 31)).toInt8.toInt32)), (.int ((x1 >>> ((0 : Int32) &&& 31)).toInt8.toInt32)), (.int ((x1 >>> ((8 : Int32) &&& 31)).toInt8.toInt32)), (.int ((x2 >>> ((0 : Int32) &&& 31)).toInt8.toInt32)), (.int ((x2 >>> ((8 : Int32) &&& 31)).toInt8.toInt32))] (.int (0 : Int32))
set_option maxRecDepth 65536 in
set_option maxHeartbeats 40000000 in
theorem own_rmTS_3 (l : Launch) (Z : State) (a0 : Array Value) (hw : ∀ d ∈ tables_1, d.before a0 Z = true) (ws : List Jvm.Cond) (x0 x1 x2 : Int32) (G1 : Int32) (a : Addr) (ka : ClassId) (h0 : Heap) (n0 : Nat) (Z0 : n0 ≤ h0.size) (OL : Old Z n0 h0) (Va : Arv Z h0 a ka .char (3 : Int32) [(.int x0), (.int x1), (.int x2)] (.int (0 : Int32))) (O2 : Sta Z Z.heap "java/lang/String" "COMPACT_STRINGS" "Z" (.int G1)) (P5 : ¬ (G1 = (0 : Int32))) (OAD : Sta Z Z.heap "java/lang/StringUTF16" "$assertionsDisabled" "Z" (.int (1 : Int32))) (OHI : Sta Z Z.heap "java/lang/StringUTF16" "HI_BYTE_SHIFT" "I" (.int (0 : Int32))) (OLO : Sta Z Z.heap "java/lang/StringUTF16" "LO_BYTE_SHIFT" "I" (.int (8 : Int32))) :
    own_MF l (⟨"java/lang/StringUTF16", "toBytes", "([CII)[B"⟩ : MethodName) (Jvm.Cond.code (⟨"java/lang/StringUTF16", "toBytes", "([CII)[B"⟩ : MethodName) jdk_52_method_14_code 5 (some (.array .byte)) :: ws) ({ frames := 2, cells := 1, slots := 6, locals := 40 } : Room) #[(.ref a), (.int (0 : Int32)), (.int (3 : Int32))] Z h0 (own_QTS_3 Z x0 x1 x2 G1 a ka h0 n0) := by
  refine MetFree.of_bodySF (plainFor_of_name own_pn1) hisR ?_
  intro p e s m args below meth c s₁ Bd hml0 hP hK
  obtain ⟨rfl, hZ, hh⟩ := hP
  have hx := Bd.exec
  have hby := Bd.bytes
  have hlk : meth.locks = false := BodyLoose.notSynchronized Bd
  have hml : c.maxLocals = 5 := hml0
  have hown : s.vm.findClass "java/lang/StringUTF16" = some m.cls := findClass_of_methodNamed Bd.named
  have hnm := (name_of_methodNamed Bd.named Bd.method).1
  have X0 : Stand p l e ({ frames := 2, cells := 1, slots := 6, locals := 40 } : Room) s m #[(.ref a), (.int (0 : Int32)), (.int (3 : Int32))] below meth c s₁ [] 0 0 := Stand.of_body Bd
  have e0 : s₁.heap = h0 := by rw [← hh, Bd.state]; rfl
  have N0 := Fr.nil n0
  have KP : Keep h0 h0 [] := Keep.refl _ _
  refine own_start (Fin := (own_Fin s (own_QTS_3 Z x0 x1 x2 G1 a ka h0 n0) ({ frames := 2, cells := 1, slots := 6, locals := 40 } : Room).cells ({ frames := 2, cells := 1, slots := 6, locals := 40 } : Room).slots)) (own_from (mkF m 0 #[rv a, iv 0, iv 3, .unset, .unset] []) (castTop (own_ef_TS_3 m a (0 : Int32) (3 : Int32))) ?_)
  refine own_iln 1 X0 hx (hb hby own_d81) rfl rfl ?_
  have KP0 := KP
  have lt0_a := Va.lt
  obtain ⟨_, T117, Lc117, X117, hQ117, st117⟩ := own_callS X0 hx (y := (⟨"java/lang/StringUTF16", "newBytesFor", "(I)[B"⟩ : MethodName)) hown (mvT hZ (own_w hw 87 rfl)) (mvT hZ (own_w hw 88 rfl)) (mvT hZ (own_w hw 24 rfl)) (mvT hZ (own_w hw 89 rfl)) (by decide) (backOf (W := 0) (own_rmNF_3 l Z a0 hw [] h0 n0 (Nat.le_trans Z0 KP.1) OL) hZ (own_w hw 89 rfl) (own_w hw 24 rfl) (by decide) (by decide)) (g := (mkF m 1 #[rv a, iv 0, iv 3, .unset, .unset] [(.int (3 : Int32))])) rfl (by rw [hml]; rfl) (argsL := [(.int (3 : Int32))]) (rest := []) (lenOf own_pd2 rfl) rfl (by show 2 * 0 + _ ≤ _; exact Nat.le_of_eq rfl) (hb hby own_d82) rfl e0 (kc := 1) (ks := 6) rfl rfl (by decide) (by decide)
  obtain ⟨bu, kbu, rfl, N117q, K117, ge_bu, sz0_bu, V0_bu⟩ := hQ117
  have N117 := Fr.app N0 N117q
  have OL := OL.keep K117 all0
  have KP := KP.trans K117 all0
  have Va := Va.keep K117 nin0
  refine own_to (mkF m 4 #[rv a, iv 0, iv 3, .unset, .unset] [(.ref bu)]) st117 ?_
  have sz_bu : h0.size ≤ bu := Nat.le_trans KP0.1 sz0_bu
  have ne_a_bu : a ≠ bu := Nat.ne_of_lt (Nat.lt_of_lt_of_le lt0_a sz0_bu)
  have Vu : Arv Z T117.heap bu kbu .byte (6 : Int32) [(.int (0 : Int32)), (.int (0 : Int32)), (.int (0 : Int32)), (.int (0 : Int32)), (.int (0 : Int32)), (.int (0 : Int32))] (.int (0 : Int32)) := V0_bu
  refine own_asn 5 #[rv a, iv 0, iv 3, rv bu, .unset] X117 hx (hb hby own_d83) rfl rfl rfl ?_
  refine own_ic 6 0 X117 hx (hb hby own_d84) rfl rfl ?_
  refine own_is 8 #[rv a, iv 0, iv 3, rv bu, iv 0] X117 hx (hb hby own_d85) rfl rfl ?_
  refine own_il 10 X117 hx (hb hby own_d86) rfl rfl ?_
  refine own_iln 11 X117 hx (hb hby own_d87) rfl rfl ?_
  refine own_icN 14 X117 hx (hb hby own_d88) (tlt (by decide : (0 : Int32) < (3 : Int32))).2.1 rfl ?_
  refine own_aln 15 X117 hx (hb hby own_d89) rfl rfl rfl ?_
  refine own_il 17 X117 hx (hb hby own_d90) rfl rfl ?_
  refine own_aln 18 X117 hx (hb hby own_d91) rfl rfl rfl ?_
  refine own_iln 19 X117 hx (hb hby own_d92) rfl rfl ?_
  obtain ⟨cl118, Ar118, -, S118, -, H118, -⟩ := id Va
  refine own_to (mkF m 20 #[rv a, iv 0, iv 3, rv bu, iv 0] [(.int x0), (.int (0 : Int32)), (.ref bu)]) (X117.caload hx (j := (0 : Int32)) (v := (.int x0)) Ar118.1 (State.isArrayOf_alike hZ.alike Ar118.2.1) Ar118.2.2 (inb_of S118 ⟨by decide, by decide⟩) (H118.at (inb_of S118 ⟨by decide, by decide⟩) rfl) (g := (mkF m 19 #[rv a, iv 0, iv 3, rv bu, iv 0] [(.int (0 : Int32)), (.ref a), (.int (0 : Int32)), (.ref bu)])) rfl rfl (hb hby own_d93)) ?_
  obtain ⟨_, T119, Lc119, X119, hQ119, st119⟩ := own_callS X117 hx (y := (⟨"java/lang/StringUTF16", "putChar", "([BII)V"⟩ : MethodName)) hown (mvT hZ (own_w hw 94 rfl)) (mvT hZ (own_w hw 95 rfl)) (mvT hZ (own_w hw 24 rfl)) (mvT hZ (own_w hw 96 rfl)) (by decide) (backOf (W := 0) (own_rmPC_3_0 l Z a0 hw [] (0 : Int32) (0 : Int32) (0 : Int32) (0 : Int32) (0 : Int32) (0 : Int32) x0 G1 bu kbu T117.heap n0 (Nat.le_trans Z0 KP.1) OL ge_bu Vu O2 P5 OAD OHI OLO) hZ (own_w hw 96 rfl) (own_w hw 24 rfl) (by decide) (by decide)) (g := (mkF m 20 #[rv a, iv 0, iv 3, rv bu, iv 0] [(.int x0), (.int (0 : Int32)), (.ref bu)])) rfl (by rw [hml]; rfl) (argsL := [(.ref bu), (.int (0 : Int32)), (.int x0)]) (rest := []) (lenOf own_pd3 rfl) rfl (by show 2 * 0 + _ ≤ _; exact Nat.le_of_eq rfl) (hb hby own_d94) rfl rfl (kc := 1) (ks := 6) rfl rfl (by decide) (by decide)
  obtain ⟨rfl, N119q, K119, Vq119⟩ := hQ119
  have N119 := Fr.app N117 N119q
  have OL := OL.keep K119 (allS ge_bu all0)
  have KP := KP.trans K119 (allS (Or.inr sz_bu) all0)
  have Va := Va.keep K119 (ninS ne_a_bu nin0)
  refine own_to (mkF m 23 #[rv a, iv 0, iv 3, rv bu, iv 0] []) st119 ?_
  have Vu : Arv Z T119.heap bu kbu .byte (6 : Int32) [(.int ((x0 >>> ((0 : Int32) &&& 31)).toInt8.toInt32)), (.int ((x0 >>> ((8 : Int32) &&& 31)).toInt8.toInt32)), (.int (0 : Int32)), (.int (0 : Int32)), (.int (0 : Int32)), (.int (0 : Int32))] (.int (0 : Int32)) := Vq119
  refine own_inc 26 #[rv a, iv 1, iv 3, rv bu, iv 0] X119 hx (hb hby own_d95) rfl rfl rfl ?_
  refine own_inc 29 #[rv a, iv 1, iv 3, rv bu, iv 1] X119 hx (hb hby own_d96) rfl rfl rfl ?_
  refine own_go 8 X119 hx (hb hby own_d97) (by decide) (by decide) ?_
  refine own_il 10 X119 hx (hb hby own_d86) rfl rfl ?_
  refine own_iln 11 X119 hx (hb hby own_d87) rfl rfl ?_
  refine own_icN 14 X119 hx (hb hby own_d88) (tlt (by decide : (1 : Int32) < (3 : Int32))).2.1 rfl ?_
  refine own_aln 15 X119 hx (hb hby own_d89) rfl rfl rfl ?_
  refine own_il 17 X119 hx (hb hby own_d90) rfl rfl ?_
  refine own_aln 18 X119 hx (hb hby own_d91) rfl rfl rfl ?_
  refine own_iln 19 X119 hx (hb hby own_d92) rfl rfl ?_
  obtain ⟨cl120, Ar120, -, S120, -, H120, -⟩ := id Va
  refine own_to (mkF m 20 #[rv a, iv 1, iv 3, rv bu, iv 1] [(.int x1), (.int (1 : Int32)), (.ref bu)]) (X119.caload hx (j := (1 : Int32)) (v := (.int x1)) Ar120.1 (State.isArrayOf_alike hZ.alike Ar120.2.1) Ar120.2.2 (inb_of S120 ⟨by decide, by decide⟩) (H120.at (inb_of S120 ⟨by decide, by decide⟩) rfl) (g := (mkF m 19 #[rv a, iv 1, iv 3, rv bu, iv 1] [(.int (1 : Int32)), (.ref a), (.int (1 : Int32)), (.ref bu)])) rfl rfl (hb hby own_d93)) ?_
  obtain ⟨_, T121, Lc121, X121, hQ121, st121⟩ := own_callS X119 hx (y := (⟨"java/lang/StringUTF16", "putChar", "([BII)V"⟩ : MethodName)) hown (mvT hZ (own_w hw 94 rfl)) (mvT hZ (own_w hw 95 rfl)) (mvT hZ (own_w hw 24 rfl)) (mvT hZ (own_w hw 96 rfl)) (by decide) (backOf (W := 0) (own_rmPC_3_1 l Z a0 hw [] ((x0 >>> ((0 : Int32) &&& 31)).toInt8.toInt32) ((x0 >>> ((8 : Int32) &&& 31)).toInt8.toInt32) (0 : Int32) (0 : Int32) (0 : Int32) (0 : Int32) x1 G1 bu kbu T119.heap n0 (Nat.le_trans Z0 KP.1) OL ge_bu Vu O2 P5 OAD OHI OLO) hZ (own_w hw 96 rfl) (own_w hw 24 rfl) (by decide) (by decide)) (g := (mkF m 20 #[rv a, iv 1, iv 3, rv bu, iv 1] [(.int x1), (.int (1 : Int32)), (.ref bu)])) rfl (by rw [hml]; rfl) (argsL := [(.ref bu), (.int (1 : Int32)), (.int x1)]) (rest := []) (lenOf own_pd3 rfl) rfl (by show 2 * 0 + _ ≤ _; exact Nat.le_of_eq rfl) (hb hby own_d94) rfl rfl (kc := 1) (ks := 6) rfl rfl (by decide) (by decide)
  obtain ⟨rfl, N121q, K121, Vq121⟩ := hQ121
  have N121 := Fr.app N119 N121q
  have OL := OL.keep K121 (allS ge_bu all0)
  have KP := KP.trans K121 (allS (Or.inr sz_bu) all0)
  have Va := Va.keep K121 (ninS ne_a_bu nin0)
  refine own_to (mkF m 23 #[rv a, iv 1, iv 3, rv bu, iv 1] []) st121 ?_
  have Vu : Arv Z T121.heap bu kbu .byte (6 : Int32) [(.int ((x0 >>> ((0 : Int32) &&& 31)).toInt8.toInt32)), (.int ((x0 >>> ((8 : Int32) &&& 31)).toInt8.toInt32)), (.int ((x1 >>> ((0 : Int32) &&& 31)).toInt8.toInt32)), (.int ((x1 >>> ((8 : Int32) &&& 31)).toInt8.toInt32)), (.int (0 : Int32)), (.int (0 : Int32))] (.int (0 : Int32)) := Vq121
  refine own_inc 26 #[rv a, iv 2, iv 3, rv bu, iv 1] X121 hx (hb hby own_d95) rfl rfl rfl ?_
  refine own_inc 29 #[rv a, iv 2, iv 3, rv bu, iv 2] X121 hx (hb hby own_d96) rfl rfl rfl ?_
  refine own_go 8 X121 hx (hb hby own_d97) (by decide) (by decide) ?_
  refine own_il 10 X121 hx (hb hby own_d86) rfl rfl ?_
  refine own_iln 11 X121 hx (hb hby own_d87) rfl rfl ?_
  refine own_icN 14 X121 hx (hb hby own_d88) (tlt (by decide : (2 : Int32) < (3 : Int32))).2.1 rfl ?_
  refine own_aln 15 X121 hx (hb hby own_d89) rfl rfl rfl ?_
  refine own_il 17 X121 hx (hb hby own_d90) rfl rfl ?_
  refine own_aln 18 X121 hx (hb hby own_d91) rfl rfl rfl ?_
  refine own_iln 19 X121 hx (hb hby own_d92) rfl rfl ?_
  obtain ⟨cl122, Ar122, -, S122, -, H122, -⟩ := id Va
  refine own_to (mkF m 20 #[rv a, iv 2, iv 3, rv bu, iv 2] [(.int x2), (.int (2 : Int32)), (.ref bu)]) (X121.caload hx (j := (2 : Int32)) (v := (.int x2)) Ar122.1 (State.isArrayOf_alike hZ.alike Ar122.2.1) Ar122.2.2 (inb_of S122 ⟨by decide, by decide⟩) (H122.at (inb_of S122 ⟨by decide, by decide⟩) rfl) (g := (mkF m 19 #[rv a, iv 2, iv 3, rv bu, iv 2] [(.int (2 : Int32)), (.ref a), (.int (2 : Int32)), (.ref bu)])) rfl rfl (hb hby own_d93)) ?_
  obtain ⟨_, T123, Lc123, X123, hQ123, st123⟩ := own_callS X121 hx (y := (⟨"java/lang/StringUTF16", "putChar", "([BII)V"⟩ : MethodName)) hown (mvT hZ (own_w hw 94 rfl)) (mvT hZ (own_w hw 95 rfl)) (mvT hZ (own_w hw 24 rfl)) (mvT hZ (own_w hw 96 rfl)) (by decide) (backOf (W := 0) (own_rmPC_3_2 l Z a0 hw [] ((x0 >>> ((0 : Int32) &&& 31)).toInt8.toInt32) ((x0 >>> ((8 : Int32) &&& 31)).toInt8.toInt32) ((x1 >>> ((0 : Int32) &&& 31)).toInt8.toInt32) ((x1 >>> ((8 : Int32) &&& 31)).toInt8.toInt32) (0 : Int32) (0 : Int32) x2 G1 bu kbu T121.heap n0 (Nat.le_trans Z0 KP.1) OL ge_bu Vu O2 P5 OAD OHI OLO) hZ (own_w hw 96 rfl) (own_w hw 24 rfl) (by decide) (by decide)) (g := (mkF m 20 #[rv a, iv 2, iv 3, rv bu, iv 2] [(.int x2), (.int (2 : Int32)), (.ref bu)])) rfl (by rw [hml]; rfl) (argsL := [(.ref bu), (.int (2 : Int32)), (.int x2)]) (rest := []) (lenOf own_pd3 rfl) rfl (by show 2 * 0 + _ ≤ _; exact Nat.le_of_eq rfl) (hb hby own_d94) rfl rfl (kc := 1) (ks := 6) rfl rfl (by decide) (by decide)
  obtain ⟨rfl, N123q, K123, Vq123⟩ := hQ123
  have N123 := Fr.app N121 N123q
  have OL := OL.keep K123 (allS ge_bu all0)
  have KP := KP.trans K123 (allS (Or.inr sz_bu) all0)
  have Va := Va.keep K123 (ninS ne_a_bu nin0)
  refine own_to (mkF m 23 #[rv a, iv 2, iv 3, rv bu, iv 2] []) st123 ?_
  have Vu : Arv Z T123.heap bu kbu .byte (6 : Int32) [(.int ((x0 >>> ((0 : Int32) &&& 31)).toInt8.toInt32)), (.int ((x0 >>> ((8 : Int32) &&& 31)).toInt8.toInt32)), (.int ((x1 >>> ((0 : Int32) &&& 31)).toInt8.toInt32)), (.int ((x1 >>> ((8 : Int32) &&& 31)).toInt8.toInt32)), (.int ((x2 >>> ((0 : Int32) &&& 31)).toInt8.toInt32)), (.int ((x2 >>> ((8 : Int32) &&& 31)).toInt8.toInt32))] (.int (0 : Int32)) := Vq123
  refine own_inc 26 #[rv a, iv 3, iv 3, rv bu, iv 2] X123 hx (hb hby own_d95) rfl rfl rfl ?_
  refine own_inc 29 #[rv a, iv 3, iv 3, rv bu, iv 3] X123 hx (hb hby own_d96) rfl rfl rfl ?_
  refine own_go 8 X123 hx (hb hby own_d97) (by decide) (by decide) ?_
  refine own_il 10 X123 hx (hb hby own_d86) rfl rfl ?_
  refine own_iln 11 X123 hx (hb hby own_d87) rfl rfl ?_
  refine own_icY 32 X123 hx (hb hby own_d88) (flt (by decide : ¬ ((3 : Int32) < (3 : Int32)))).2.1 (by decide) (by decide) ?_
  refine own_aln 33 X123 hx (hb hby own_d98) rfl rfl rfl ?_
  exact own_retA X123 hx Bd.returns rfl hlk (hb hby own_d99) rfl (by decide) (by decide) (by exact ⟨bu, kbu, rfl, N123, KP, ge_bu, sz_bu, Vu⟩)
def own_QGC_3_0 (Z : State) (x0 x1 x2 : Int32) (G1 : Int32) (b : Addr) (kb : ClassId) (h0 : Heap) (n0 : Nat) (v : Option Value) (h : Heap) (L : List Loc) : Prop := v = some (.int x0) ∧ Fr n0 L ∧ h = h0
set_option maxRecDepth 65536 in
set_option maxHeartbeats 40000000 in
theorem own_rmGC_3_0 (l : Launch) (Z : State) (a0 : Array Value) (hw : ∀ d ∈ tables_1, d.before a0 Z = true) (ws : List Jvm.Cond) (x0 x1 x2 : Int32) (G1 : Int32) (b : Addr) (kb : ClassId) (h0 : Heap) (n0 : Nat) (Z0 : n0 ≤ h0.size) (OL : Old Z n0 h0) (hx0 : own_C16 x0) (Vb : Arv Z h0 b kb .byte (6 : Int32) [(.int ((x0 >>> ((0 : Int32) &&& 31)).toInt8.toInt32)), (.int ((x0 >>> ((8 : Int32) &&& 31)).toInt8.toInt32)), (.int ((x1 >>> ((0 : Int32) &&& 31)).toInt8.toInt32)), (.int ((x1 >>> ((8 : Int32) &&& 31)).toInt8.toInt32)), (.int ((x2 >>> ((0 : Int32) &&& 31)).toInt8.toInt32)), (.int ((x2 >>> ((8 : Int32) &&& 31)).toInt8.toInt32))] (.int (0 : Int32))) (O2 : Sta Z Z.heap "java/lang/String" "COMPACT_STRINGS" "Z" (.int G1)) (P5 : ¬ (G1 = (0 : Int32))) (OAD : Sta Z Z.heap "java/lang/StringUTF16" "$assertionsDisabled" "Z" (.int (1 : Int32))) (OHI : Sta Z Z.heap "java/lang/StringUTF16" "HI_BYTE_SHIFT" "I" (.int (0 : Int32))) (OLO : Sta Z Z.heap "java/lang/StringUTF16" "LO_BYTE_SHIFT" "I" (.int (8 : Int32))) :
    own_MF l (⟨"java/lang/StringUTF16", "getChar", "([BI)C"⟩ : MethodName) (Jvm.Cond.code (⟨"java/lang/StringUTF16", "getChar", "([BI)C"⟩ : MethodName) jdk_52_method_5_code 2 (some .char) :: ws) ({ frames := 0, cells := 0, slots := 0, locals := 0 } : Room) #[(.ref b), (.int (0 : Int32))] Z h0 (own_QGC_3_0 Z x0 x1 x2 G1 b kb h0 n0) := by
  refine MetFree.of_bodySF (plainFor_of_name own_pn1) hisR ?_
  intro p e s m args below meth c s₁ Bd hml0 hP hK
  obtain ⟨rfl, hZ, hh⟩ := hP
  have hx := Bd.exec
  have hby := Bd.bytes
  have hlk : meth.locks = false := BodyLoose.notSynchronized Bd
  have hml : c.maxLocals = 2 := hml0
  have hown : s.vm.findClass "java/lang/StringUTF16" = some m.cls := findClass_of_methodNamed Bd.named
  have hnm := (name_of_methodNamed Bd.named Bd.method).1
  have X0 : Stand p l e ({ frames := 0, cells := 0, slots := 0, locals := 0 } : Room) s m #[(.ref b), (.int (0 : Int32))] below meth c s₁ [] 0 0 := Stand.of_body Bd
  have e0 : s₁.heap = h0 := by rw [← hh, Bd.state]; rfl
  have N0 := Fr.nil n0
  have KP : Keep h0 h0 [] := Keep.refl _ _
  refine own_start (Fin := (own_Fin s (own_QGC_3_0 Z x0 x1 x2 G1 b kb h0 n0) ({ frames := 0, cells := 0, slots := 0, locals := 0 } : Room).cells ({ frames := 0, cells := 0, slots := 0, locals := 0 } : Room).slots)) (own_from (mkF m 0 #[rv b, iv 0] []) (castTop (own_ef_GC_3_0 m b (0 : Int32))) ?_)
  obtain ⟨T124, X124, e124, st124⟩ := getS2 X0 hx hZ hown (host := "") (Or.inl (own_w hw 97 rfl)) Via.refl e0 (OAD.ext OL.2) (g := (mkF m 0 #[rv b, iv 0] [])) rfl (hb hby own_d100)
  refine own_to (mkF m 3 #[rv b, iv 0] [(.int (1 : Int32))]) st124 ?_
  refine own_ifY 28 X124 hx (hb hby own_d101) ((if0 _ _).trans (feq (by decide : ¬ ((1 : Int32) = (0 : Int32)))).2) (by decide) (by decide) ?_
  refine own_iln 29 X124 hx (hb hby own_d102) rfl rfl ?_
  refine own_ic 30 1 X124 hx (hb hby own_d103) rfl rfl ?_
  refine own_ishl 31 X124 hx (hb hby own_d104) (z := (0 : Int32)) rfl rfl ?_
  refine own_isn 32 #[rv b, iv 0] X124 hx (hb hby own_d105) rfl rfl ?_
  refine own_aln 33 X124 hx (hb hby own_d106) rfl rfl rfl ?_
  refine own_iln 34 X124 hx (hb hby own_d107) rfl rfl ?_
  refine own_inc 37 #[rv b, iv 1] X124 hx (hb hby own_d108) rfl rfl rfl ?_
  obtain ⟨cl125, Ar125, -, S125, -, H125, -⟩ := id Vb
  refine own_to (mkF m 38 #[rv b, iv 1] [(.int ((x0 >>> ((0 : Int32) &&& 31)).toInt8.toInt32))]) (X124.baloadBytes hx (j := (0 : Int32)) (v := (.int ((x0 >>> ((0 : Int32) &&& 31)).toInt8.toInt32))) (by rw [e124]; exact Ar125.1) (State.isArrayOf_alike hZ.alike Ar125.2.1) Ar125.2.2 (inb_of S125 ⟨by decide, by decide⟩) (H125.at (inb_of S125 ⟨by decide, by decide⟩) rfl) (g := (mkF m 37 #[rv b, iv 1] [(.int (0 : Int32)), (.ref b)])) rfl rfl (hb hby own_d109)) ?_
  refine own_si 41 255 X124 hx (hb hby own_d110) rfl rfl ?_
  refine own_iand 42 X124 hx (hb hby own_d111) rfl rfl ?_
  obtain ⟨T126, X126, e126, st126⟩ := getS2 X124 hx hZ hown (host := "") (Or.inl (own_w hw 98 rfl)) Via.refl e124 (OHI.ext OL.2) (g := (mkF m 42 #[rv b, iv 1] [(.int (((x0 >>> ((0 : Int32) &&& 31)).toInt8.toInt32) &&& (255 : Int32)))])) rfl (hb hby own_d112)
  refine own_to (mkF m 45 #[rv b, iv 1] [(.int (0 : Int32)), (.int (((x0 >>> ((0 : Int32) &&& 31)).toInt8.toInt32) &&& (255 : Int32)))]) st126 ?_
  refine own_ishl 46 X126 hx (hb hby own_d113) rfl rfl ?_
  refine own_aln 47 X126 hx (hb hby own_d114) rfl rfl rfl ?_
  refine own_iln 48 X126 hx (hb hby own_d115) rfl rfl ?_
  obtain ⟨cl127, Ar127, -, S127, -, H127, -⟩ := id Vb
  refine own_to (mkF m 49 #[rv b, iv 1] [(.int ((x0 >>> ((8 : Int32) &&& 31)).toInt8.toInt32)), (.int ((((x0 >>> ((0 : Int32) &&& 31)).toInt8.toInt32) &&& (255 : Int32)) <<< ((0 : Int32) &&& 31)))]) (X126.baloadBytes hx (j := (1 : Int32)) (v := (.int ((x0 >>> ((8 : Int32) &&& 31)).toInt8.toInt32))) (by rw [e126]; exact Ar127.1) (State.isArrayOf_alike hZ.alike Ar127.2.1) Ar127.2.2 (inb_of S127 ⟨by decide, by decide⟩) (H127.at (inb_of S127 ⟨by decide, by decide⟩) rfl) (g := (mkF m 48 #[rv b, iv 1] [(.int (1 : Int32)), (.ref b), (.int ((((x0 >>> ((0 : Int32) &&& 31)).toInt8.toInt32) &&& (255 : Int32)) <<< ((0 : Int32) &&& 31)))])) rfl rfl (hb hby own_d116)) ?_
  refine own_si 52 255 X126 hx (hb hby own_d117) rfl rfl ?_
  refine own_iand 53 X126 hx (hb hby own_d118) rfl rfl ?_
  obtain ⟨T128, X128, e128, st128⟩ := getS2 X126 hx hZ hown (host := "") (Or.inl (own_w hw 99 rfl)) Via.refl e126 (OLO.ext OL.2) (g := (mkF m 53 #[rv b, iv 1] [(.int (((x0 >>> ((8 : Int32) &&& 31)).toInt8.toInt32) &&& (255 : Int32))), (.int ((((x0 >>> ((0 : Int32) &&& 31)).toInt8.toInt32) &&& (255 : Int32)) <<< ((0 : Int32) &&& 31)))])) rfl (hb hby own_d119)
  refine own_to (mkF m 56 #[rv b, iv 1] [(.int (8 : Int32)), (.int (((x0 >>> ((8 : Int32) &&& 31)).toInt8.toInt32) &&& (255 : Int32))), (.int ((((x0 >>> ((0 : Int32) &&& 31)).toInt8.toInt32) &&& (255 : Int32)) <<< ((0 : Int32) &&& 31)))]) st128 ?_
  refine own_ishl 57 X128 hx (hb hby own_d120) rfl rfl ?_
  refine own_ior 58 X128 hx (hb hby own_d121) rfl rfl ?_
  refine own_i2c 59 X128 hx (hb hby own_d122) rfl rfl ?_
  exact own_retN X128 hx (t := .char) Bd.returns (by simp) hlk (hb hby own_d123) (by decide) (by decide) (by rw [e128]; exact ⟨by rw [own_hi hx0, own_nar16 hx0], N0, rfl⟩)
def own_QGC_3_1 (Z : State) (x0 x1 x2 : Int32) (G1 : Int32) (b : Addr) (kb : ClassId) (h0 : Heap) (n0 : Nat) (v : Option Value) (h : Heap) (L : List Loc) : Prop := v = some (.int x1) ∧ Fr n0 L ∧ h = h0
set_option maxRecDepth 65536 in
set_option maxHeartbeats 40000000 in
theorem own_rmGC_3_1 (l : Launch) (Z : State) (a0 : Array Value) (hw : ∀ d ∈ tables_1, d.before a0 Z = true) (ws : List Jvm.Cond) (x0 x1 x2 : Int32) (G1 : Int32) (b : Addr) (kb : ClassId) (h0 : Heap) (n0 : Nat) (Z0 : n0 ≤ h0.size) (OL : Old Z n0 h0) (hx1 : own_C16 x1) (Vb : Arv Z h0 b kb .byte (6 : Int32) [(.int ((x0 >>> ((0 : Int32) &&& 31)).toInt8.toInt32)), (.int ((x0 >>> ((8 : Int32) &&& 31)).toInt8.toInt32)), (.int ((x1 >>> ((0 : Int32) &&& 31)).toInt8.toInt32)), (.int ((x1 >>> ((8 : Int32) &&& 31)).toInt8.toInt32)), (.int ((x2 >>> ((0 : Int32) &&& 31)).toInt8.toInt32)), (.int ((x2 >>> ((8 : Int32) &&& 31)).toInt8.toInt32))] (.int (0 : Int32))) (O2 : Sta Z Z.heap "java/lang/String" "COMPACT_STRINGS" "Z" (.int G1)) (P5 : ¬ (G1 = (0 : Int32))) (OAD : Sta Z Z.heap "java/lang/StringUTF16" "$assertionsDisabled" "Z" (.int (1 : Int32))) (OHI : Sta Z Z.heap "java/lang/StringUTF16" "HI_BYTE_SHIFT" "I" (.int (0 : Int32))) (OLO : Sta Z Z.heap "java/lang/StringUTF16" "LO_BYTE_SHIFT" "I" (.int (8 : Int32))) :
    own_MF l (⟨"java/lang/StringUTF16", "getChar", "([BI)C"⟩ : MethodName) (Jvm.Cond.code (⟨"java/lang/StringUTF16", "getChar", "([BI)C"⟩ : MethodName) jdk_52_method_5_code 2 (some .char) :: ws) ({ frames := 0, cells := 0, slots := 0, locals := 0 } : Room) #[(.ref b), (.int (1 : Int32))] Z h0 (own_QGC_3_1 Z x0 x1 x2 G1 b kb h0 n0) := by
  refine MetFree.of_bodySF (plainFor_of_name own_pn1) hisR ?_
  intro p e s m args below meth c s₁ Bd hml0 hP hK
  obtain ⟨rfl, hZ, hh⟩ := hP
  have hx := Bd.exec
  have hby := Bd.bytes
  have hlk : meth.locks = false := BodyLoose.notSynchronized Bd
  have hml : c.maxLocals = 2 := hml0
  have hown : s.vm.findClass "java/lang/StringUTF16" = some m.cls := findClass_of_methodNamed Bd.named
  have hnm := (name_of_methodNamed Bd.named Bd.method).1
  have X0 : Stand p l e ({ frames := 0, cells := 0, slots := 0, locals := 0 } : Room) s m #[(.ref b), (.int (1 : Int32))] below meth c s₁ [] 0 0 := Stand.of_body Bd
  have e0 : s₁.heap = h0 := by rw [← hh, Bd.state]; rfl
  have N0 := Fr.nil n0
  have KP : Keep h0 h0 [] := Keep.refl _ _
  refine own_start (Fin := (own_Fin s (own_QGC_3_1 Z x0 x1 x2 G1 b kb h0 n0) ({ frames := 0, cells := 0, slots := 0, locals := 0 } : Room).cells ({ frames := 0, cells := 0, slots := 0, locals := 0 } : Room).slots)) (own_from (mkF m 0 #[rv b, iv 1] []) (castTop (own_ef_GC_3_1 m b (1 : Int32))) ?_)
  obtain ⟨T129, X129, e129, st129⟩ := getS2 X0 hx hZ hown (host := "") (Or.inl (own_w hw 97 rfl)) Via.refl e0 (OAD.ext OL.2) (g := (mkF m 0 #[rv b, iv 1] [])) rfl (hb hby own_d100)
  refine own_to (mkF m 3 #[rv b, iv 1] [(.int (1 : Int32))]) st129 ?_
  refine own_ifY 28 X129 hx (hb hby own_d101) ((if0 _ _).trans (feq (by decide : ¬ ((1 : Int32) = (0 : Int32)))).2) (by decide) (by decide) ?_
  refine own_iln 29 X129 hx (hb hby own_d102) rfl rfl ?_
  refine own_ic 30 1 X129 hx (hb hby own_d103) rfl rfl ?_
  refine own_ishl 31 X129 hx (hb hby own_d104) (z := (2 : Int32)) rfl rfl ?_
  refine own_isn 32 #[rv b, iv 2] X129 hx (hb hby own_d105) rfl rfl ?_
  refine own_aln 33 X129 hx (hb hby own_d106) rfl rfl rfl ?_
  refine own_iln 34 X129 hx (hb hby own_d107) rfl rfl ?_
  refine own_inc 37 #[rv b, iv 3] X129 hx (hb hby own_d108) rfl rfl rfl ?_
  obtain ⟨cl130, Ar130, -, S130, -, H130, -⟩ := id Vb
  refine own_to (mkF m 38 #[rv b, iv 3] [(.int ((x1 >>> ((0 : Int32) &&& 31)).toInt8.toInt32))]) (X129.baloadBytes hx (j := (2 : Int32)) (v := (.int ((x1 >>> ((0 : Int32) &&& 31)).toInt8.toInt32))) (by rw [e129]; exact Ar130.1) (State.isArrayOf_alike hZ.alike Ar130.2.1) Ar130.2.2 (inb_of S130 ⟨by decide, by decide⟩) (H130.at (inb_of S130 ⟨by decide, by decide⟩) rfl) (g := (mkF m 37 #[rv b, iv 3] [(.int (2 : Int32)), (.ref b)])) rfl rfl (hb hby own_d109)) ?_
  refine own_si 41 255 X129 hx (hb hby own_d110) rfl rfl ?_
  refine own_iand 42 X129 hx (hb hby own_d111) rfl rfl ?_
  obtain ⟨T131, X131, e131, st131⟩ := getS2 X129 hx hZ hown (host := "") (Or.inl (own_w hw 98 rfl)) Via.refl e129 (OHI.ext OL.2) (g := (mkF m 42 #[rv b, iv 3] [(.int (((x1 >>> ((0 : Int32) &&& 31)).toInt8.toInt32) &&& (255 : Int32)))])) rfl (hb hby own_d112)
  refine own_to (mkF m 45 #[rv b, iv 3] [(.int (0 : Int32)), (.int (((x1 >>> ((0 : Int32) &&& 31)).toInt8.toInt32) &&& (255 : Int32)))]) st131 ?_
  refine own_ishl 46 X131 hx (hb hby own_d113) rfl rfl ?_
  refine own_aln 47 X131 hx (hb hby own_d114) rfl rfl rfl ?_
  refine own_iln 48 X131 hx (hb hby own_d115) rfl rfl ?_
  obtain ⟨cl132, Ar132, -, S132, -, H132, -⟩ := id Vb
  refine own_to (mkF m 49 #[rv b, iv 3] [(.int ((x1 >>> ((8 : Int32) &&& 31)).toInt8.toInt32)), (.int ((((x1 >>> ((0 : Int32) &&& 31)).toInt8.toInt32) &&& (255 : Int32)) <<< ((0 : Int32) &&& 31)))]) (X131.baloadBytes hx (j := (3 : Int32)) (v := (.int ((x1 >>> ((8 : Int32) &&& 31)).toInt8.toInt32))) (by rw [e131]; exact Ar132.1) (State.isArrayOf_alike hZ.alike Ar132.2.1) Ar132.2.2 (inb_of S132 ⟨by decide, by decide⟩) (H132.at (inb_of S132 ⟨by decide, by decide⟩) rfl) (g := (mkF m 48 #[rv b, iv 3] [(.int (3 : Int32)), (.ref b), (.int ((((x1 >>> ((0 : Int32) &&& 31)).toInt8.toInt32) &&& (255 : Int32)) <<< ((0 : Int32) &&& 31)))])) rfl rfl (hb hby own_d116)) ?_
  refine own_si 52 255 X131 hx (hb hby own_d117) rfl rfl ?_
  refine own_iand 53 X131 hx (hb hby own_d118) rfl rfl ?_
  obtain ⟨T133, X133, e133, st133⟩ := getS2 X131 hx hZ hown (host := "") (Or.inl (own_w hw 99 rfl)) Via.refl e131 (OLO.ext OL.2) (g := (mkF m 53 #[rv b, iv 3] [(.int (((x1 >>> ((8 : Int32) &&& 31)).toInt8.toInt32) &&& (255 : Int32))), (.int ((((x1 >>> ((0 : Int32) &&& 31)).toInt8.toInt32) &&& (255 : Int32)) <<< ((0 : Int32) &&& 31)))])) rfl (hb hby own_d119)
  refine own_to (mkF m 56 #[rv b, iv 3] [(.int (8 : Int32)), (.int (((x1 >>> ((8 : Int32) &&& 31)).toInt8.toInt32) &&& (255 : Int32))), (.int ((((x1 >>> ((0 : Int32) &&& 31)).toInt8.toInt32) &&& (255 : Int32)) <<< ((0 : Int32) &&& 31)))]) st133 ?_
  refine own_ishl 57 X133 hx (hb hby own_d120) rfl rfl ?_
  refine own_ior 58 X133 hx (hb hby own_d121) rfl rfl ?_
  refine own_i2c 59 X133 hx (hb hby own_d122) rfl rfl ?_
  exact own_retN X133 hx (t := .char) Bd.returns (by simp) hlk (hb hby own_d123) (by decide) (by decide) (by rw [e133]; exact ⟨by rw [own_hi hx1, own_nar16 hx1], N0, rfl⟩)
def own_QGC_3_2 (Z : State) (x0 x1 x2 : Int32) (G1 : Int32) (b : Addr) (kb : ClassId) (h0 : Heap) (n0 : Nat) (v : Option Value) (h : Heap) (L : List Loc) : Prop := v = some (.int x2) ∧ Fr n0 L ∧ h = h0
set_option maxRecDepth 65536 in
set_option maxHeartbeats 40000000 in
theorem own_rmGC_3_2 (l : Launch) (Z : State) (a0 : Array Value) (hw : ∀ d ∈ tables_1, d.before a0 Z = true) (ws : List Jvm.Cond) (x0 x1 x2 : Int32) (G1 : Int32) (b : Addr) (kb : ClassId) (h0 : Heap) (n0 : Nat) (Z0 : n0 ≤ h0.size) (OL : Old Z n0 h0) (hx2 : own_C16 x2) (Vb : Arv Z h0 b kb .byte (6 : Int32) [(.int ((x0 >>> ((0 : Int32) &&& 31)).toInt8.toInt32)), (.int ((x0 >>> ((8 : Int32) &&& 31)).toInt8.toInt32)), (.int ((x1 >>> ((0 : Int32) &&& 31)).toInt8.toInt32)), (.int ((x1 >>> ((8 : Int32) &&& 31)).toInt8.toInt32)), (.int ((x2 >>> ((0 : Int32) &&& 31)).toInt8.toInt32)), (.int ((x2 >>> ((8 : Int32) &&& 31)).toInt8.toInt32))] (.int (0 : Int32))) (O2 : Sta Z Z.heap "java/lang/String" "COMPACT_STRINGS" "Z" (.int G1)) (P5 : ¬ (G1 = (0 : Int32))) (OAD : Sta Z Z.heap "java/lang/StringUTF16" "$assertionsDisabled" "Z" (.int (1 : Int32))) (OHI : Sta Z Z.heap "java/lang/StringUTF16" "HI_BYTE_SHIFT" "I" (.int (0 : Int32))) (OLO : Sta Z Z.heap "java/lang/StringUTF16" "LO_BYTE_SHIFT" "I" (.int (8 : Int32))) :
    own_MF l (⟨"java/lang/StringUTF16", "getChar", "([BI)C"⟩ : MethodName) (Jvm.Cond.code (⟨"java/lang/StringUTF16", "getChar", "([BI)C"⟩ : MethodName) jdk_52_method_5_code 2 (some .char) :: ws) ({ frames := 0, cells := 0, slots := 0, locals := 0 } : Room) #[(.ref b), (.int (2 : Int32))] Z h0 (own_QGC_3_2 Z x0 x1 x2 G1 b kb h0 n0) := by
  refine MetFree.of_bodySF (plainFor_of_name own_pn1) hisR ?_
  intro p e s m args below meth c s₁ Bd hml0 hP hK
  obtain ⟨rfl, hZ, hh⟩ := hP
  have hx := Bd.exec
  have hby := Bd.bytes
  have hlk : meth.locks = false := BodyLoose.notSynchronized Bd
  have hml : c.maxLocals = 2 := hml0
  have hown : s.vm.findClass "java/lang/StringUTF16" = some m.cls := findClass_of_methodNamed Bd.named
  have hnm := (name_of_methodNamed Bd.named Bd.method).1
  have X0 : Stand p l e ({ frames := 0, cells := 0, slots := 0, locals := 0 } : Room) s m #[(.ref b), (.int (2 : Int32))] below meth c s₁ [] 0 0 := Stand.of_body Bd
  have e0 : s₁.heap = h0 := by rw [← hh, Bd.state]; rfl
  have N0 := Fr.nil n0
  have KP : Keep h0 h0 [] := Keep.refl _ _
  refine own_start (Fin := (own_Fin s (own_QGC_3_2 Z x0 x1 x2 G1 b kb h0 n0) ({ frames := 0, cells := 0, slots := 0, locals := 0 } : Room).cells ({ frames := 0, cells := 0, slots := 0, locals := 0 } : Room).slots)) (own_from (mkF m 0 #[rv b, iv 2] []) (castTop (own_ef_GC_3_2 m b (2 : Int32))) ?_)
  obtain ⟨T134, X134, e134, st134⟩ := getS2 X0 hx hZ hown (host := "") (Or.inl (own_w hw 97 rfl)) Via.refl e0 (OAD.ext OL.2) (g := (mkF m 0 #[rv b, iv 2] [])) rfl (hb hby own_d100)
  refine own_to (mkF m 3 #[rv b, iv 2] [(.int (1 : Int32))]) st134 ?_
  refine own_ifY 28 X134 hx (hb hby own_d101) ((if0 _ _).trans (feq (by decide : ¬ ((1 : Int32) = (0 : Int32)))).2) (by decide) (by decide) ?_
  refine own_iln 29 X134 hx (hb hby own_d102) rfl rfl ?_
  refine own_ic 30 1 X134 hx (hb hby own_d103) rfl rfl ?_
  refine own_ishl 31 X134 hx (hb hby own_d104) (z := (4 : Int32)) rfl rfl ?_
  refine own_isn 32 #[rv b, iv 4] X134 hx (hb hby own_d105) rfl rfl ?_
  refine own_aln 33 X134 hx (hb hby own_d106) rfl rfl rfl ?_
  refine own_iln 34 X134 hx (hb hby own_d107) rfl rfl ?_
  refine own_inc 37 #[rv b, iv 5] X134 hx (hb hby own_d108) rfl rfl rfl ?_
  obtain ⟨cl135, Ar135, -, S135, -, H135, -⟩ := id Vb
  refine own_to (mkF m 38 #[rv b, iv 5] [(.int ((x2 >>> ((0 : Int32) &&& 31)).toInt8.toInt32))]) (X134.baloadBytes hx (j := (4 : Int32)) (v := (.int ((x2 >>> ((0 : Int32) &&& 31)).toInt8.toInt32))) (by rw [e134]; exact Ar135.1) (State.isArrayOf_alike hZ.alike Ar135.2.1) Ar135.2.2 (inb_of S135 ⟨by decide, by decide⟩) (H135.at (inb_of S135 ⟨by decide, by decide⟩) rfl) (g := (mkF m 37 #[rv b, iv 5] [(.int (4 : Int32)), (.ref b)])) rfl rfl (hb hby own_d109)) ?_
  refine own_si 41 255 X134 hx (hb hby own_d110) rfl rfl ?_
  refine own_iand 42 X134 hx (hb hby own_d111) rfl rfl ?_
  obtain ⟨T136, X136, e136, st136⟩ := getS2 X134 hx hZ hown (host := "") (Or.inl (own_w hw 98 rfl)) Via.refl e134 (OHI.ext OL.2) (g := (mkF m 42 #[rv b, iv 5] [(.int (((x2 >>> ((0 : Int32) &&& 31)).toInt8.toInt32) &&& (255 : Int32)))])) rfl (hb hby own_d112)
  refine own_to (mkF m 45 #[rv b, iv 5] [(.int (0 : Int32)), (.int (((x2 >>> ((0 : Int32) &&& 31)).toInt8.toInt32) &&& (255 : Int32)))]) st136 ?_
  refine own_ishl 46 X136 hx (hb hby own_d113) rfl rfl ?_
  refine own_aln 47 X136 hx (hb hby own_d114) rfl rfl rfl ?_
  refine own_iln 48 X136 hx (hb hby own_d115) rfl rfl ?_
  obtain ⟨cl137, Ar137, -, S137, -, H137, -⟩ := id Vb
  refine own_to (mkF m 49 #[rv b, iv 5] [(.int ((x2 >>> ((8 : Int32) &&& 31)).toInt8.toInt32)), (.int ((((x2 >>> ((0 : Int32) &&& 31)).toInt8.toInt32) &&& (255 : Int32)) <<< ((0 : Int32) &&& 31)))]) (X136.baloadBytes hx (j := (5 : Int32)) (v := (.int ((x2 >>> ((8 : Int32) &&& 31)).toInt8.toInt32))) (by rw [e136]; exact Ar137.1) (State.isArrayOf_alike hZ.alike Ar137.2.1) Ar137.2.2 (inb_of S137 ⟨by decide, by decide⟩) (H137.at (inb_of S137 ⟨by decide, by decide⟩) rfl) (g := (mkF m 48 #[rv b, iv 5] [(.int (5 : Int32)), (.ref b), (.int ((((x2 >>> ((0 : Int32) &&& 31)).toInt8.toInt32) &&& (255 : Int32)) <<< ((0 : Int32) &&& 31)))])) rfl rfl (hb hby own_d116)) ?_
  refine own_si 52 255 X136 hx (hb hby own_d117) rfl rfl ?_
  refine own_iand 53 X136 hx (hb hby own_d118) rfl rfl ?_
  obtain ⟨T138, X138, e138, st138⟩ := getS2 X136 hx hZ hown (host := "") (Or.inl (own_w hw 99 rfl)) Via.refl e136 (OLO.ext OL.2) (g := (mkF m 53 #[rv b, iv 5] [(.int (((x2 >>> ((8 : Int32) &&& 31)).toInt8.toInt32) &&& (255 : Int32))), (.int ((((x2 >>> ((0 : Int32) &&& 31)).toInt8.toInt32) &&& (255 : Int32)) <<< ((0 : Int32) &&& 31)))])) rfl (hb hby own_d119)
  refine own_to (mkF m 56 #[rv b, iv 5] [(.int (8 : Int32)), (.int (((x2 >>> ((8 : Int32) &&& 31)).toInt8.toInt32) &&& (255 : Int32))), (.int ((((x2 >>> ((0 : Int32) &&& 31)).toInt8.toInt32) &&& (255 : Int32)) <<< ((0 : Int32) &&& 31)))]) st138 ?_
  refine own_ishl 57 X138 hx (hb hby own_d120) rfl rfl ?_
  refine own_ior 58 X138 hx (hb hby own_d121) rfl rfl ?_
  refine own_i2c 59 X138 hx (hb hby own_d122) rfl rfl ?_
  exact own_retN X138 hx (t := .char) Bd.returns (by simp) hlk (hb hby own_d123) (by decide) (by decide) (by rw [e138]; exact ⟨by rw [own_hi hx2, own_nar16 hx2], N0, rfl⟩)
def own_QC3_3 (Z : State) (x0 x1 x2 : Int32) (G1 : Int32) (a : Addr) (ka : ClassId) (h0 : Heap) (n0 : Nat) (v : Option Value) (h : Heap) (L : List Loc) : Prop := ∃ (b : Addr) (kb : ClassId), v = some (.ref b) ∧ Fr n0 L ∧ Keep h0 h [] ∧ n0 ≤ b ∧ h0.size ≤ b ∧ ((¬ ((255 : Int32) < x0) ∧ ¬ ((255 : Int32) < x1) ∧ ¬ ((255 : Int32) < x2) ∧ Arv Z h b kb .byte (3 : Int32) [(.int (x0.toInt8.toInt32)), (.int (x1.toInt8.toInt32)), (.int (x2.toInt8.toInt32))] (.int (0 : Int32))) ∨ Arv Z h b kb .byte (6 : Int32) [(.int ((x0 >>> ((0 : Int32) &&& 31)).toInt8.toInt32)), (.int ((x0 >>> ((8 : Int32) &&& 31)).toInt8.toInt32)), (.int ((x1 >>> ((0 : Int32) &&& 31)).toInt8.toInt32)), (.int ((x1 >>> ((8 : Int32) &&& 31)).toInt8.toInt32)), (.int ((x2 >>> ((0 : Int32) &&& 31)).toInt8.toInt32)), (.int ((x2 >>> ((8 : Int32) &&& 31)).toInt8.toInt32))] (.int (0 : Int32)))
set_option maxRecDepth 65536 in
set_option maxHeartbeats 40000000 in
theorem own_rmC3_3 (l : Launch) (Z : State) (a0 : Array Value) (hw : ∀ d ∈ tables_1, d.before a0 Z = true) (ws : List Jvm.Cond) (x0 x1 x2 : Int32) (G1 : Int32) (a : Addr) (ka : ClassId) (h0 : Heap) (n0 : Nat) (Z0 : n0 ≤ h0.size) (OL : Old Z n0 h0) (hx0 : own_C16 x0) (hx1 : own_C16 x1) (hx2 : own_C16 x2) (Va : Arv Z h0 a ka .char (3 : Int32) [(.int x0), (.int x1), (.int x2)] (.int (0 : Int32))) (O2 : Sta Z Z.heap "java/lang/String" "COMPACT_STRINGS" "Z" (.int G1)) (P5 : ¬ (G1 = (0 : Int32))) (OAD : Sta Z Z.heap "java/lang/StringUTF16" "$assertionsDisabled" "Z" (.int (1 : Int32))) (OHI : Sta Z Z.heap "java/lang/StringUTF16" "HI_BYTE_SHIFT" "I" (.int (0 : Int32))) (OLO : Sta Z Z.heap "java/lang/StringUTF16" "LO_BYTE_SHIFT" "I" (.int (8 : Int32))) :
    own_MF l (⟨"java/lang/StringUTF16", "compress", "([CII)[B"⟩ : MethodName) (Jvm.Cond.code (⟨"java/lang/StringUTF16", "compress", "([CII)[B"⟩ : MethodName) jdk_52_method_16_code 6 (some (.array .byte)) :: ws) ({ frames := 3, cells := 2, slots := 9, locals := 70 } : Room) #[(.ref a), (.int (0 : Int32)), (.int (3 : Int32))] Z h0 (own_QC3_3 Z x0 x1 x2 G1 a ka h0 n0) := by
  refine MetFree.of_bodySF (plainFor_of_name own_pn1) hisR ?_
  intro p e s m args below meth c s₁ Bd hml0 hP hK
  obtain ⟨rfl, hZ, hh⟩ := hP
  have hx := Bd.exec
  have hby := Bd.bytes
  have hlk : meth.locks = false := BodyLoose.notSynchronized Bd
  have hml : c.maxLocals = 6 := hml0
  have hown : s.vm.findClass "java/lang/StringUTF16" = some m.cls := findClass_of_methodNamed Bd.named
  have hnm := (name_of_methodNamed Bd.named Bd.method).1
  have X0 : Stand p l e ({ frames := 3, cells := 2, slots := 9, locals := 70 } : Room) s m #[(.ref a), (.int (0 : Int32)), (.int (3 : Int32))] below meth c s₁ [] 0 0 := Stand.of_body Bd
  have e0 : s₁.heap = h0 := by rw [← hh, Bd.state]; rfl
  have N0 := Fr.nil n0
  have KP : Keep h0 h0 [] := Keep.refl _ _
  refine own_start (Fin := (own_Fin s (own_QC3_3 Z x0 x1 x2 G1 a ka h0 n0) ({ frames := 3, cells := 2, slots := 9, locals := 70 } : Room).cells ({ frames := 3, cells := 2, slots := 9, locals := 70 } : Room).slots)) (own_from (mkF m 0 #[rv a, iv 0, iv 3, .unset, .unset, .unset] []) (castTop (own_ef_C3_3 m a (0 : Int32) (3 : Int32))) ?_)
  refine own_iln 1 X0 hx (hb hby own_d124) rfl rfl ?_
  obtain ⟨T139, h139, k139, X139, e139, E139, A139, B139, st139⟩ := newPE X0 hx hZ (own_w hw 26 rfl) e0 (g := (mkF m 1 #[rv a, iv 0, iv 3, .unset, .unset, .unset] [(.int (3 : Int32))])) rfl (hb hby own_d125) rfl (by decide) (cap := 3) (by decide) (by decide) (by decide) (by decide) (ad := "[B") (by decide)
  obtain ⟨b139, g139⟩ : ∃ z, z = h0.size := ⟨_, rfl⟩
  rw [← g139] at A139 B139 st139
  have sz_b139 : h0.size ≤ b139 := Nat.le_trans KP.1 (Nat.le_of_eq g139.symm)
  have ge_b139 : n0 ≤ b139 := Nat.le_trans Z0 sz_b139
  have ne_a_b139 : a ≠ b139 := Nat.ne_of_lt (Nat.lt_of_lt_of_le Va.lt (Nat.le_of_eq g139.symm))
  have OL := OL.ext E139
  have KP := KP.ext E139
  have Va := Va.ext E139
  have V_b139 : Arv Z h139 b139 k139 .byte (3 : Int32) [(.int (0 : Int32)), (.int (0 : Int32)), (.int (0 : Int32))] (.int (0 : Int32)) := (Arv.new A139 (by decide)).pad (pad_rep [] (.int (0 : Int32)) 3)
  refine own_to (mkF m 3 #[rv a, iv 0, iv 3, .unset, .unset, .unset] [(.ref b139)]) st139 ?_
  refine own_asn 4 #[rv a, iv 0, iv 3, rv b139, .unset, .unset] X139 hx (hb hby own_d126) rfl rfl rfl ?_
  refine own_aln 5 X139 hx (hb hby own_d127) rfl rfl rfl ?_
  refine own_iln 6 X139 hx (hb hby own_d128) rfl rfl ?_
  refine own_aln 7 X139 hx (hb hby own_d129) rfl rfl rfl ?_
  refine own_ic 8 0 X139 hx (hb hby own_d130) rfl rfl ?_
  refine own_iln 9 X139 hx (hb hby own_d131) rfl rfl ?_
  obtain ⟨_, T140, Lc140, X140, hQ140, st140⟩ := own_callS X139 hx (y := (⟨"java/lang/StringUTF16", "compress", "([CI[BII)I"⟩ : MethodName)) hown (mvT hZ (own_w hw 27 rfl)) (mvT hZ (own_w hw 28 rfl)) (mvT hZ (own_w hw 24 rfl)) (mvT hZ (own_w hw 29 rfl)) (by decide) (backOf (W := 0) (own_rmC5_3 l Z a0 hw [] x0 x1 x2 a ka b139 k139 h139 n0 (Nat.le_trans Z0 KP.1) OL ne_a_b139 ge_b139 Va V_b139) hZ (own_w hw 29 rfl) (own_w hw 24 rfl) (by decide) (by decide)) (g := (mkF m 9 #[rv a, iv 0, iv 3, rv b139, .unset, .unset] [(.int (3 : Int32)), (.int (0 : Int32)), (.ref b139), (.int (0 : Int32)), (.ref a)])) rfl (by rw [hml]; rfl) (argsL := [(.ref a), (.int (0 : Int32)), (.ref b139), (.int (0 : Int32)), (.int (3 : Int32))]) (rest := []) (lenOf own_pd4 rfl) rfl (by show 2 * 0 + _ ≤ _; exact Nat.le_of_eq rfl) (hb hby own_d132) rfl e139 (kc := 1) (ks := 3) rfl rfl (by decide) (by decide)
  obtain ⟨N140q, K140, hor140⟩ := hQ140
  have N140 := Fr.app N0 N140q
  have OL := OL.keep K140 (allS ge_b139 all0)
  have KP := KP.trans K140 (allS (Or.inr sz_b139) all0)
  have Va := Va.keep K140 (ninS ne_a_b139 nin0)
  rcases hor140 with ⟨rfl, hg0, hg1, hg2, Vg⟩ | ⟨rfl, hbad⟩ | ⟨rfl, hbad⟩ | ⟨rfl, hbad⟩
  · refine own_to (mkF m 12 #[rv a, iv 0, iv 3, rv b139, .unset, .unset] [(.int (3 : Int32))]) st140 ?_
    refine own_is 14 #[rv a, iv 0, iv 3, rv b139, iv 3, .unset] X140 hx (hb hby own_d133) rfl rfl ?_
    refine own_il 16 X140 hx (hb hby own_d134) rfl rfl ?_
    refine own_iln 17 X140 hx (hb hby own_d135) rfl rfl ?_
    refine own_icY 57 X140 hx (hb hby own_d136) (teq (by decide : (3 : Int32) = (3 : Int32))).1 (by decide) (by decide) ?_
    refine own_aln 58 X140 hx (hb hby own_d137) rfl rfl rfl ?_
    exact own_retA X140 hx Bd.returns rfl hlk (hb hby own_d138) rfl (by decide) (by decide) (by exact ⟨b139, k139, rfl, N140, KP, ge_b139, sz_b139, Or.inl ⟨hg0, hg1, hg2, Vg⟩⟩)
  · refine own_to (mkF m 12 #[rv a, iv 0, iv 3, rv b139, .unset, .unset] [(.int (0 : Int32))]) st140 ?_
    refine own_is 14 #[rv a, iv 0, iv 3, rv b139, iv 0, .unset] X140 hx (hb hby own_d133) rfl rfl ?_
    refine own_il 16 X140 hx (hb hby own_d134) rfl rfl ?_
    refine own_iln 17 X140 hx (hb hby own_d135) rfl rfl ?_
    refine own_icN 20 X140 hx (hb hby own_d136) (feq (by decide : ¬ ((0 : Int32) = (3 : Int32)))).1 rfl ?_
    refine own_aln 21 X140 hx (hb hby own_d139) rfl rfl rfl ?_
    refine own_iln 22 X140 hx (hb hby own_d140) rfl rfl ?_
    refine own_iln 23 X140 hx (hb hby own_d141) rfl rfl ?_
    have KP0 := KP
    have lt0_a := Va.lt
    obtain ⟨_, T141, Lc141, X141, hQ141, st141⟩ := own_callS X140 hx (y := (⟨"java/lang/StringUTF16", "toBytes", "([CII)[B"⟩ : MethodName)) hown (mvT hZ (own_w hw 84 rfl)) (mvT hZ (own_w hw 85 rfl)) (mvT hZ (own_w hw 24 rfl)) (mvT hZ (own_w hw 86 rfl)) (by decide) (backOf (W := 0) (own_rmTS_3 l Z a0 hw [] x0 x1 x2 G1 a ka T140.heap n0 (Nat.le_trans Z0 KP.1) OL Va O2 P5 OAD OHI OLO) hZ (own_w hw 86 rfl) (own_w hw 24 rfl) (by decide) (by decide)) (g := (mkF m 23 #[rv a, iv 0, iv 3, rv b139, iv 0, .unset] [(.int (3 : Int32)), (.int (0 : Int32)), (.ref a)])) rfl (by rw [hml]; rfl) (argsL := [(.ref a), (.int (0 : Int32)), (.int (3 : Int32))]) (rest := []) (lenOf own_pd5 rfl) rfl (by show 2 * 0 + _ ≤ _; exact Nat.le_of_eq rfl) (hb hby own_d142) rfl rfl (kc := 2) (ks := 9) rfl rfl (by decide) (by decide)
    obtain ⟨bu, kbu, rfl, N141q, K141, ge_bu, sz0_bu, Vu⟩ := hQ141
    have N141 := Fr.app N140 N141q
    have OL := OL.keep K141 all0
    have KP := KP.trans K141 all0
    have Va := Va.keep K141 nin0
    refine own_to (mkF m 26 #[rv a, iv 0, iv 3, rv b139, iv 0, .unset] [(.ref bu)]) st141 ?_
    have sz_bu : h0.size ≤ bu := Nat.le_trans KP0.1 sz0_bu
    have ne_a_bu : a ≠ bu := Nat.ne_of_lt (Nat.lt_of_lt_of_le lt0_a sz0_bu)
    refine own_as 28 #[rv a, iv 0, iv 3, rv b139, iv 0, rv bu] X141 hx (hb hby own_d143) rfl rfl rfl ?_
    refine own_al 30 X141 hx (hb hby own_d144) rfl rfl rfl ?_
    refine own_il 32 X141 hx (hb hby own_d145) rfl rfl ?_
    obtain ⟨_, T142, Lc142, X142, hQ142, st142⟩ := own_callS X141 hx (y := (⟨"java/lang/StringUTF16", "getChar", "([BI)C"⟩ : MethodName)) hown (mvT hZ (own_w hw 100 rfl)) (mvT hZ (own_w hw 101 rfl)) (mvT hZ (own_w hw 24 rfl)) (mvT hZ (own_w hw 102 rfl)) (by decide) (backOf (W := 0) (own_rmGC_3_0 l Z a0 hw [] x0 x1 x2 G1 bu kbu T141.heap n0 (Nat.le_trans Z0 KP.1) OL hx0 Vu O2 P5 OAD OHI OLO) hZ (own_w hw 102 rfl) (own_w hw 24 rfl) (by decide) (by decide)) (g := (mkF m 32 #[rv a, iv 0, iv 3, rv b139, iv 0, rv bu] [(.int (0 : Int32)), (.ref bu)])) rfl (by rw [hml]; rfl) (argsL := [(.ref bu), (.int (0 : Int32))]) (rest := []) (lenOf own_pd6 rfl) rfl (by show 2 * 0 + _ ≤ _; exact Nat.le_of_eq rfl) (hb hby own_d146) rfl rfl (kc := 2) (ks := 9) rfl rfl (by decide) (by decide)
    obtain ⟨rfl, N142q, e142⟩ := hQ142
    have N142 := Fr.app N141 N142q
    refine own_to (mkF m 35 #[rv a, iv 0, iv 3, rv b139, iv 0, rv bu] [(.int x0)]) st142 ?_
    refine own_si 38 255 X142 hx (hb hby own_d147) rfl rfl ?_
    refine own_icY 54 X142 hx (hb hby own_d148) (tlt hbad).2.2.1 (by decide) (by decide) ?_
    refine own_al 56 X142 hx (hb hby own_d149) rfl rfl rfl ?_
    exact own_retA X142 hx Bd.returns rfl hlk (hb hby own_d150) rfl (by decide) (by decide) (by rw [e142]; exact ⟨bu, kbu, rfl, N142, KP, ge_bu, sz_bu, Or.inr Vu⟩)
  · refine own_to (mkF m 12 #[rv a, iv 0, iv 3, rv b139, .unset, .unset] [(.int (1 : Int32))]) st140 ?_
    refine own_is 14 #[rv a, iv 0, iv 3, rv b139, iv 1, .unset] X140 hx (hb hby own_d133) rfl rfl ?_
    refine own_il 16 X140 hx (hb hby own_d134) rfl rfl ?_
    refine own_iln 17 X140 hx (hb hby own_d135) rfl rfl ?_
    refine own_icN 20 X140 hx (hb hby own_d136) (feq (by decide : ¬ ((1 : Int32) = (3 : Int32)))).1 rfl ?_
    refine own_aln 21 X140 hx (hb hby own_d139) rfl rfl rfl ?_
    refine own_iln 22 X140 hx (hb hby own_d140) rfl rfl ?_
    refine own_iln 23 X140 hx (hb hby own_d141) rfl rfl ?_
    have KP0 := KP
    have lt0_a := Va.lt
    obtain ⟨_, T143, Lc143, X143, hQ143, st143⟩ := own_callS X140 hx (y := (⟨"java/lang/StringUTF16", "toBytes", "([CII)[B"⟩ : MethodName)) hown (mvT hZ (own_w hw 84 rfl)) (mvT hZ (own_w hw 85 rfl)) (mvT hZ (own_w hw 24 rfl)) (mvT hZ (own_w hw 86 rfl)) (by decide) (backOf (W := 0) (own_rmTS_3 l Z a0 hw [] x0 x1 x2 G1 a ka T140.heap n0 (Nat.le_trans Z0 KP.1) OL Va O2 P5 OAD OHI OLO) hZ (own_w hw 86 rfl) (own_w hw 24 rfl) (by decide) (by decide)) (g := (mkF m 23 #[rv a, iv 0, iv 3, rv b139, iv 1, .unset] [(.int (3 : Int32)), (.int (0 : Int32)), (.ref a)])) rfl (by rw [hml]; rfl) (argsL := [(.ref a), (.int (0 : Int32)), (.int (3 : Int32))]) (rest := []) (lenOf own_pd5 rfl) rfl (by show 2 * 0 + _ ≤ _; exact Nat.le_of_eq rfl) (hb hby own_d142) rfl rfl (kc := 2) (ks := 9) rfl rfl (by decide) (by decide)
    obtain ⟨bu, kbu, rfl, N143q, K143, ge_bu, sz0_bu, Vu⟩ := hQ143
    have N143 := Fr.app N140 N143q
    have OL := OL.keep K143 all0
    have KP := KP.trans K143 all0
    have Va := Va.keep K143 nin0
    refine own_to (mkF m 26 #[rv a, iv 0, iv 3, rv b139, iv 1, .unset] [(.ref bu)]) st143 ?_
    have sz_bu : h0.size ≤ bu := Nat.le_trans KP0.1 sz0_bu
    have ne_a_bu : a ≠ bu := Nat.ne_of_lt (Nat.lt_of_lt_of_le lt0_a sz0_bu)
    refine own_as 28 #[rv a, iv 0, iv 3, rv b139, iv 1, rv bu] X143 hx (hb hby own_d143) rfl rfl rfl ?_
    refine own_al 30 X143 hx (hb hby own_d144) rfl rfl rfl ?_
    refine own_il 32 X143 hx (hb hby own_d145) rfl rfl ?_
    obtain ⟨_, T144, Lc144, X144, hQ144, st144⟩ := own_callS X143 hx (y := (⟨"java/lang/StringUTF16", "getChar", "([BI)C"⟩ : MethodName)) hown (mvT hZ (own_w hw 100 rfl)) (mvT hZ (own_w hw 101 rfl)) (mvT hZ (own_w hw 24 rfl)) (mvT hZ (own_w hw 102 rfl)) (by decide) (backOf (W := 0) (own_rmGC_3_1 l Z a0 hw [] x0 x1 x2 G1 bu kbu T143.heap n0 (Nat.le_trans Z0 KP.1) OL hx1 Vu O2 P5 OAD OHI OLO) hZ (own_w hw 102 rfl) (own_w hw 24 rfl) (by decide) (by decide)) (g := (mkF m 32 #[rv a, iv 0, iv 3, rv b139, iv 1, rv bu] [(.int (1 : Int32)), (.ref bu)])) rfl (by rw [hml]; rfl) (argsL := [(.ref bu), (.int (1 : Int32))]) (rest := []) (lenOf own_pd6 rfl) rfl (by show 2 * 0 + _ ≤ _; exact Nat.le_of_eq rfl) (hb hby own_d146) rfl rfl (kc := 2) (ks := 9) rfl rfl (by decide) (by decide)
    obtain ⟨rfl, N144q, e144⟩ := hQ144
    have N144 := Fr.app N143 N144q
    refine own_to (mkF m 35 #[rv a, iv 0, iv 3, rv b139, iv 1, rv bu] [(.int x1)]) st144 ?_
    refine own_si 38 255 X144 hx (hb hby own_d147) rfl rfl ?_
    refine own_icY 54 X144 hx (hb hby own_d148) (tlt hbad).2.2.1 (by decide) (by decide) ?_
    refine own_al 56 X144 hx (hb hby own_d149) rfl rfl rfl ?_
    exact own_retA X144 hx Bd.returns rfl hlk (hb hby own_d150) rfl (by decide) (by decide) (by rw [e144]; exact ⟨bu, kbu, rfl, N144, KP, ge_bu, sz_bu, Or.inr Vu⟩)
  · refine own_to (mkF m 12 #[rv a, iv 0, iv 3, rv b139, .unset, .unset] [(.int (2 : Int32))]) st140 ?_
    refine own_is 14 #[rv a, iv 0, iv 3, rv b139, iv 2, .unset] X140 hx (hb hby own_d133) rfl rfl ?_
    refine own_il 16 X140 hx (hb hby own_d134) rfl rfl ?_
    refine own_iln 17 X140 hx (hb hby own_d135) rfl rfl ?_
    refine own_icN 20 X140 hx (hb hby own_d136) (feq (by decide : ¬ ((2 : Int32) = (3 : Int32)))).1 rfl ?_
    refine own_aln 21 X140 hx (hb hby own_d139) rfl rfl rfl ?_
    refine own_iln 22 X140 hx (hb hby own_d140) rfl rfl ?_
    refine own_iln 23 X140 hx (hb hby own_d141) rfl rfl ?_
    have KP0 := KP
    have lt0_a := Va.lt
    obtain ⟨_, T145, Lc145, X145, hQ145, st145⟩ := own_callS X140 hx (y := (⟨"java/lang/StringUTF16", "toBytes", "([CII)[B"⟩ : MethodName)) hown (mvT hZ (own_w hw 84 rfl)) (mvT hZ (own_w hw 85 rfl)) (mvT hZ (own_w hw 24 rfl)) (mvT hZ (own_w hw 86 rfl)) (by decide) (backOf (W := 0) (own_rmTS_3 l Z a0 hw [] x0 x1 x2 G1 a ka T140.heap n0 (Nat.le_trans Z0 KP.1) OL Va O2 P5 OAD OHI OLO) hZ (own_w hw 86 rfl) (own_w hw 24 rfl) (by decide) (by decide)) (g := (mkF m 23 #[rv a, iv 0, iv 3, rv b139, iv 2, .unset] [(.int (3 : Int32)), (.int (0 : Int32)), (.ref a)])) rfl (by rw [hml]; rfl) (argsL := [(.ref a), (.int (0 : Int32)), (.int (3 : Int32))]) (rest := []) (lenOf own_pd5 rfl) rfl (by show 2 * 0 + _ ≤ _; exact Nat.le_of_eq rfl) (hb hby own_d142) rfl rfl (kc := 2) (ks := 9) rfl rfl (by decide) (by decide)
    obtain ⟨bu, kbu, rfl, N145q, K145, ge_bu, sz0_bu, Vu⟩ := hQ145
    have N145 := Fr.app N140 N145q
    have OL := OL.keep K145 all0
    have KP := KP.trans K145 all0
    have Va := Va.keep K145 nin0
    refine own_to (mkF m 26 #[rv a, iv 0, iv 3, rv b139, iv 2, .unset] [(.ref bu)]) st145 ?_
    have sz_bu : h0.size ≤ bu := Nat.le_trans KP0.1 sz0_bu
    have ne_a_bu : a ≠ bu := Nat.ne_of_lt (Nat.lt_of_lt_of_le lt0_a sz0_bu)
    refine own_as 28 #[rv a, iv 0, iv 3, rv b139, iv 2, rv bu] X145 hx (hb hby own_d143) rfl rfl rfl ?_
    refine own_al 30 X145 hx (hb hby own_d144) rfl rfl rfl ?_
    refine own_il 32 X145 hx (hb hby own_d145) rfl rfl ?_
    obtain ⟨_, T146, Lc146, X146, hQ146, st146⟩ := own_callS X145 hx (y := (⟨"java/lang/StringUTF16", "getChar", "([BI)C"⟩ : MethodName)) hown (mvT hZ (own_w hw 100 rfl)) (mvT hZ (own_w hw 101 rfl)) (mvT hZ (own_w hw 24 rfl)) (mvT hZ (own_w hw 102 rfl)) (by decide) (backOf (W := 0) (own_rmGC_3_2 l Z a0 hw [] x0 x1 x2 G1 bu kbu T145.heap n0 (Nat.le_trans Z0 KP.1) OL hx2 Vu O2 P5 OAD OHI OLO) hZ (own_w hw 102 rfl) (own_w hw 24 rfl) (by decide) (by decide)) (g := (mkF m 32 #[rv a, iv 0, iv 3, rv b139, iv 2, rv bu] [(.int (2 : Int32)), (.ref bu)])) rfl (by rw [hml]; rfl) (argsL := [(.ref bu), (.int (2 : Int32))]) (rest := []) (lenOf own_pd6 rfl) rfl (by show 2 * 0 + _ ≤ _; exact Nat.le_of_eq rfl) (hb hby own_d146) rfl rfl (kc := 2) (ks := 9) rfl rfl (by decide) (by decide)
    obtain ⟨rfl, N146q, e146⟩ := hQ146
    have N146 := Fr.app N145 N146q
    refine own_to (mkF m 35 #[rv a, iv 0, iv 3, rv b139, iv 2, rv bu] [(.int x2)]) st146 ?_
    refine own_si 38 255 X146 hx (hb hby own_d147) rfl rfl ?_
    refine own_icY 54 X146 hx (hb hby own_d148) (tlt hbad).2.2.1 (by decide) (by decide) ?_
    refine own_al 56 X146 hx (hb hby own_d149) rfl rfl rfl ?_
    exact own_retA X146 hx Bd.returns rfl hlk (hb hby own_d150) rfl (by decide) (by decide) (by rw [e146]; exact ⟨bu, kbu, rfl, N146, KP, ge_bu, sz_bu, Or.inr Vu⟩)
def own_QCF_3_0 (Z : State) (x0 x1 x2 : Int32) (b : Addr) (kb : ClassId) (h0 : Heap) (n0 : Nat) (v : Option Value) (h : Heap) (L : List Loc) : Prop := v = some (.int (0 : Int32)) ∧ Fr n0 L ∧ h = h0
set_option maxRecDepth 65536 in
set_option maxHeartbeats 40000000 in
theorem own_rmCF_3_0 (l : Launch) (Z : State) (a0 : Array Value) (hw : ∀ d ∈ tables_1, d.before a0 Z = true) (ws : List Jvm.Cond) (x0 x1 x2 : Int32) (b : Addr) (kb : ClassId) (h0 : Heap) (n0 : Nat) (Z0 : n0 ≤ h0.size) (OL : Old Z n0 h0) (Vb : Arv Z h0 b kb .byte (3 : Int32) [(.int (x0.toInt8.toInt32)), (.int (x1.toInt8.toInt32)), (.int (x2.toInt8.toInt32))] (.int (0 : Int32))) :
    own_MF l (⟨"java/lang/StringUTF16", "coderFromArrayLen", "([BI)B"⟩ : MethodName) (Jvm.Cond.code (⟨"java/lang/StringUTF16", "coderFromArrayLen", "([BI)B"⟩ : MethodName) jdk_52_method_15_code 2 (some .byte) :: ws) ({ frames := 0, cells := 0, slots := 0, locals := 0 } : Room) #[(.ref b), (.int (3 : Int32))] Z h0 (own_QCF_3_0 Z x0 x1 x2 b kb h0 n0) := by
  refine MetFree.of_bodySF (plainFor_of_name own_pn1) hisR ?_
  intro p e s m args below meth c s₁ Bd hml0 hP hK
  obtain ⟨rfl, hZ, hh⟩ := hP
  have hx := Bd.exec
  have hby := Bd.bytes
  have hlk : meth.locks = false := BodyLoose.notSynchronized Bd
  have hml : c.maxLocals = 2 := hml0
  have hown : s.vm.findClass "java/lang/StringUTF16" = some m.cls := findClass_of_methodNamed Bd.named
  have hnm := (name_of_methodNamed Bd.named Bd.method).1
  have X0 : Stand p l e ({ frames := 0, cells := 0, slots := 0, locals := 0 } : Room) s m #[(.ref b), (.int (3 : Int32))] below meth c s₁ [] 0 0 := Stand.of_body Bd
  have e0 : s₁.heap = h0 := by rw [← hh, Bd.state]; rfl
  have N0 := Fr.nil n0
  have KP : Keep h0 h0 [] := Keep.refl _ _
  refine own_start (Fin := (own_Fin s (own_QCF_3_0 Z x0 x1 x2 b kb h0 n0) ({ frames := 0, cells := 0, slots := 0, locals := 0 } : Room).cells ({ frames := 0, cells := 0, slots := 0, locals := 0 } : Room).slots)) (own_from (mkF m 0 #[rv b, iv 3] []) (castTop (own_ef_CF_3_0 m b (3 : Int32))) ?_)
  refine own_iln 1 X0 hx (hb hby own_d151) rfl rfl ?_
  refine own_aln 2 X0 hx (hb hby own_d152) rfl rfl rfl ?_
  obtain ⟨cl147, Ar147, -, S147, M147, -, -⟩ := id Vb
  refine own_to (mkF m 3 #[rv b, iv 3] [(.int (3 : Int32)), (.int (3 : Int32))]) (by have q := X0.arraylength hx (by rw [e0]; exact Ar147.1) (State.isArrayOf_alike hZ.alike Ar147.2.1) (g := (mkF m 2 #[rv b, iv 3] [(.ref b), (.int (3 : Int32))])) rfl rfl (hb hby own_d153); rw [len_of S147 M147] at q; exact q) ?_
  refine own_isub 4 X0 hx (hb hby own_d154) (z := (0 : Int32)) rfl rfl ?_
  refine own_bi 6 31 X0 hx (hb hby own_d155) rfl rfl ?_
  refine own_iushr 7 X0 hx (hb hby own_d156) (z := (0 : Int32)) rfl rfl ?_
  refine own_i2b 8 X0 hx (hb hby own_d157) rfl rfl ?_
  exact own_retN X0 hx (t := .byte) Bd.returns (by simp) hlk (hb hby own_d158) (by decide) (by decide) (by rw [e0]; exact ⟨rfl, N0, rfl⟩)
def own_QCF_3_1 (Z : State) (x0 x1 x2 : Int32) (b : Addr) (kb : ClassId) (h0 : Heap) (n0 : Nat) (v : Option Value) (h : Heap) (L : List Loc) : Prop := v = some (.int (1 : Int32)) ∧ Fr n0 L ∧ h = h0
set_option maxRecDepth 65536 in
set_option maxHeartbeats 40000000 in
theorem own_rmCF_3_1 (l : Launch) (Z : State) (a0 : Array Value) (hw : ∀ d ∈ tables_1, d.before a0 Z = true) (ws : List Jvm.Cond) (x0 x1 x2 : Int32) (b : Addr) (kb : ClassId) (h0 : Heap) (n0 : Nat) (Z0 : n0 ≤ h0.size) (OL : Old Z n0 h0) (Vb : Arv Z h0 b kb .byte (6 : Int32) [(.int ((x0 >>> ((0 : Int32) &&& 31)).toInt8.toInt32)), (.int ((x0 >>> ((8 : Int32) &&& 31)).toInt8.toInt32)), (.int ((x1 >>> ((0 : Int32) &&& 31)).toInt8.toInt32)), (.int ((x1 >>> ((8 : Int32) &&& 31)).toInt8.toInt32)), (.int ((x2 >>> ((0 : Int32) &&& 31)).toInt8.toInt32)), (.int ((x2 >>> ((8 : Int32) &&& 31)).toInt8.toInt32))] (.int (0 : Int32))) :
    own_MF l (⟨"java/lang/StringUTF16", "coderFromArrayLen", "([BI)B"⟩ : MethodName) (Jvm.Cond.code (⟨"java/lang/StringUTF16", "coderFromArrayLen", "([BI)B"⟩ : MethodName) jdk_52_method_15_code 2 (some .byte) :: ws) ({ frames := 0, cells := 0, slots := 0, locals := 0 } : Room) #[(.ref b), (.int (3 : Int32))] Z h0 (own_QCF_3_1 Z x0 x1 x2 b kb h0 n0) := by
  refine MetFree.of_bodySF (plainFor_of_name own_pn1) hisR ?_
  intro p e s m args below meth c s₁ Bd hml0 hP hK
  obtain ⟨rfl, hZ, hh⟩ := hP
  have hx := Bd.exec
  have hby := Bd.bytes
  have hlk : meth.locks = false := BodyLoose.notSynchronized Bd
  have hml : c.maxLocals = 2 := hml0
  have hown : s.vm.findClass "java/lang/StringUTF16" = some m.cls := findClass_of_methodNamed Bd.named
  have hnm := (name_of_methodNamed Bd.named Bd.method).1
  have X0 : Stand p l e ({ frames := 0, cells := 0, slots := 0, locals := 0 } : Room) s m #[(.ref b), (.int (3 : Int32))] below meth c s₁ [] 0 0 := Stand.of_body Bd
  have e0 : s₁.heap = h0 := by rw [← hh, Bd.state]; rfl
  have N0 := Fr.nil n0
  have KP : Keep h0 h0 [] := Keep.refl _ _
  refine own_start (Fin := (own_Fin s (own_QCF_3_1 Z x0 x1 x2 b kb h0 n0) ({ frames := 0, cells := 0, slots := 0, locals := 0 } : Room).cells ({ frames := 0, cells := 0, slots := 0, locals := 0 } : Room).slots)) (own_from (mkF m 0 #[rv b, iv 3] []) (castTop (own_ef_CF_3_1 m b (3 : Int32))) ?_)
  refine own_iln 1 X0 hx (hb hby own_d151) rfl rfl ?_
  refine own_aln 2 X0 hx (hb hby own_d152) rfl rfl rfl ?_
  obtain ⟨cl148, Ar148, -, S148, M148, -, -⟩ := id Vb
  refine own_to (mkF m 3 #[rv b, iv 3] [(.int (6 : Int32)), (.int (3 : Int32))]) (by have q := X0.arraylength hx (by rw [e0]; exact Ar148.1) (State.isArrayOf_alike hZ.alike Ar148.2.1) (g := (mkF m 2 #[rv b, iv 3] [(.ref b), (.int (3 : Int32))])) rfl rfl (hb hby own_d153); rw [len_of S148 M148] at q; exact q) ?_
  refine own_isub 4 X0 hx (hb hby own_d154) (z := (-3 : Int32)) rfl rfl ?_
  refine own_bi 6 31 X0 hx (hb hby own_d155) rfl rfl ?_
  refine own_iushr 7 X0 hx (hb hby own_d156) (z := (1 : Int32)) rfl rfl ?_
  refine own_i2b 8 X0 hx (hb hby own_d157) rfl rfl ?_
  exact own_retN X0 hx (t := .byte) Bd.returns (by simp) hlk (hb hby own_d158) (by decide) (by decide) (by rw [e0]; exact ⟨rfl, N0, rfl⟩)
def own_QI4_3 (Z : State) (x0 x1 x2 : Int32) (G1 : Int32) (sx a : Addr) (ka : ClassId) (h0 : Heap) (n0 : Nat) (v : Option Value) (h : Heap) (L : List Loc) : Prop := v = none ∧ Fr n0 L ∧ Keep h0 h [sx] ∧ ∃ (t : Addr) (kb : ClassId), n0 ≤ t ∧ h0.size ≤ t ∧ ((¬ ((255 : Int32) < x0) ∧ ¬ ((255 : Int32) < x1) ∧ ¬ ((255 : Int32) < x2) ∧ own_StrG Z h sx t kb (0 : Int32) (3 : Int32) [(.int (x0.toInt8.toInt32)), (.int (x1.toInt8.toInt32)), (.int (x2.toInt8.toInt32))]) ∨ own_StrG Z h sx t kb (1 : Int32) (6 : Int32) [(.int ((x0 >>> ((0 : Int32) &&& 31)).toInt8.toInt32)), (.int ((x0 >>> ((8 : Int32) &&& 31)).toInt8.toInt32)), (.int ((x1 >>> ((0 : Int32) &&& 31)).toInt8.toInt32)), (.int ((x1 >>> ((8 : Int32) &&& 31)).toInt8.toInt32)), (.int ((x2 >>> ((0 : Int32) &&& 31)).toInt8.toInt32)), (.int ((x2 >>> ((8 : Int32) &&& 31)).toInt8.toInt32))])
set_option maxRecDepth 65536 in
set_option maxHeartbeats 40000000 in
theorem own_rmI4_3 (l : Launch) (Z : State) (a0 : Array Value) (hw : ∀ d ∈ tables_1, d.before a0 Z = true) (ws : List Jvm.Cond) (x0 x1 x2 : Int32) (G1 : Int32) (sx a : Addr) (ka : ClassId) (h0 : Heap) (n0 : Nat) (Z0 : n0 ≤ h0.size) (OL : Old Z n0 h0) (ge_sx : n0 ≤ sx) (ne_sx_a : sx ≠ a) (E_sx : Exa Z h0 sx "java/lang/String") (F_value_sx : Fld Z h0 sx "java/lang/String" "value" "[B" .null) (F_coder_sx : Fld Z h0 sx "java/lang/String" "coder" "B" (.int (0 : Int32))) (hx0 : own_C16 x0) (hx1 : own_C16 x1) (hx2 : own_C16 x2) (Va : Arv Z h0 a ka .char (3 : Int32) [(.int x0), (.int x1), (.int x2)] (.int (0 : Int32))) (O2 : Sta Z Z.heap "java/lang/String" "COMPACT_STRINGS" "Z" (.int G1)) (P5 : ¬ (G1 = (0 : Int32))) (OAD : Sta Z Z.heap "java/lang/StringUTF16" "$assertionsDisabled" "Z" (.int (1 : Int32))) (OHI : Sta Z Z.heap "java/lang/StringUTF16" "HI_BYTE_SHIFT" "I" (.int (0 : Int32))) (OLO : Sta Z Z.heap "java/lang/StringUTF16" "LO_BYTE_SHIFT" "I" (.int (8 : Int32))) :
    own_MF l (⟨"java/lang/String", "<init>", "([CIILjava/lang/Void;)V"⟩ : MethodName) (Jvm.Cond.code (⟨"java/lang/String", "<init>", "([CIILjava/lang/Void;)V"⟩ : MethodName) jdk_42_method_149_code 6 none :: ws) ({ frames := 4, cells := 2, slots := 9, locals := 100 } : Room) #[(.ref sx), (.ref a), (.int (0 : Int32)), (.int (3 : Int32)), .null] Z h0 (own_QI4_3 Z x0 x1 x2 G1 sx a ka h0 n0) := by
  refine MetFree.of_bodySF (plainFor_of_name own_pn0) hisR ?_
  intro p e s m args below meth c s₁ Bd hml0 hP hK
  obtain ⟨rfl, hZ, hh⟩ := hP
  have hx := Bd.exec
  have hby := Bd.bytes
  have hlk : meth.locks = false := BodyLoose.notSynchronized Bd
  have hml : c.maxLocals = 6 := hml0
  have hown : s.vm.findClass "java/lang/String" = some m.cls := findClass_of_methodNamed Bd.named
  have hnm := (name_of_methodNamed Bd.named Bd.method).1
  have X0 : Stand p l e ({ frames := 4, cells := 2, slots := 9, locals := 100 } : Room) s m #[(.ref sx), (.ref a), (.int (0 : Int32)), (.int (3 : Int32)), .null] below meth c s₁ [] 0 0 := Stand.of_body Bd
  have e0 : s₁.heap = h0 := by rw [← hh, Bd.state]; rfl
  have N0 := Fr.nil n0
  have KP : Keep h0 h0 [sx] := Keep.refl _ _
  refine own_start (Fin := (own_Fin s (own_QI4_3 Z x0 x1 x2 G1 sx a ka h0 n0) ({ frames := 4, cells := 2, slots := 9, locals := 100 } : Room).cells ({ frames := 4, cells := 2, slots := 9, locals := 100 } : Room).slots)) (own_from (mkF m 0 #[rv sx, rv a, iv 0, iv 3, .val .null, .unset] []) (castTop (own_ef_I4_3 m sx a (0 : Int32) (3 : Int32))) ?_)
  refine own_aln 1 X0 hx (hb hby own_d0) rfl rfl rfl ?_
  obtain ⟨T149, X149, e149, st149⟩ := initO X0 hx hZ hown (own_w hw 18 rfl) (own_w hw 19 rfl) (own_w hw 20 rfl) e0 (g := (mkF m 1 #[rv sx, rv a, iv 0, iv 3, .val .null, .unset] [(.ref sx)])) rfl (by rw [hml]; rfl) rfl (hb hby own_d1) (by decide) (W := 0) (by show 2 * 0 + _ ≤ _; exact Nat.le_of_eq rfl) (by decide)
  refine own_to (mkF m 4 #[rv sx, rv a, iv 0, iv 3, .val .null, .unset] []) st149 ?_
  refine own_iln 5 X149 hx (hb hby own_d2) rfl rfl ?_
  refine own_ifY 27 X149 hx (hb hby own_d3) ((if0 _ _).trans (feq (by decide : ¬ ((3 : Int32) = (0 : Int32)))).2) (by decide) (by decide) ?_
  obtain ⟨T150, X150, e150, st150⟩ := getS2 X149 hx hZ hown (host := "") (Or.inl (own_w hw 21 rfl)) Via.refl e149 (O2.ext OL.2) (g := (mkF m 27 #[rv sx, rv a, iv 0, iv 3, .val .null, .unset] [])) rfl (hb hby own_d159)
  refine own_to (mkF m 30 #[rv sx, rv a, iv 0, iv 3, .val .null, .unset] [(.int G1)]) st150 ?_
  refine own_ifN 33 X150 hx (hb hby own_d160) ((if0 _ _).trans (feq P5).1) rfl ?_
  refine own_aln 34 X150 hx (hb hby own_d161) rfl rfl rfl ?_
  refine own_iln 35 X150 hx (hb hby own_d162) rfl rfl ?_
  refine own_iln 36 X150 hx (hb hby own_d163) rfl rfl ?_
  have KP0 := KP
  have lt0_sx := E_sx.lt
  have lt0_a := Va.lt
  obtain ⟨_, T151, Lc151, X151, hQ151, st151⟩ := own_callS X150 hx (y := (⟨"java/lang/StringUTF16", "compress", "([CII)[B"⟩ : MethodName)) hown (mvT hZ (own_w hw 22 rfl)) (mvT hZ (own_w hw 23 rfl)) (mvT hZ (own_w hw 24 rfl)) (mvT hZ (own_w hw 25 rfl)) (by decide) (backOf (W := 0) (own_rmC3_3 l Z a0 hw [] x0 x1 x2 G1 a ka h0 n0 (Nat.le_trans Z0 KP.1) OL hx0 hx1 hx2 Va O2 P5 OAD OHI OLO) hZ (own_w hw 25 rfl) (own_w hw 24 rfl) (by decide) (by decide)) (g := (mkF m 36 #[rv sx, rv a, iv 0, iv 3, .val .null, .unset] [(.int (3 : Int32)), (.int (0 : Int32)), (.ref a)])) rfl (by rw [hml]; rfl) (argsL := [(.ref a), (.int (0 : Int32)), (.int (3 : Int32))]) (rest := []) (lenOf own_pd5 rfl) rfl (by show 2 * 0 + _ ≤ _; exact Nat.le_of_eq rfl) (hb hby own_d164) rfl e150 (kc := 2) (ks := 9) rfl rfl (by decide) (by decide)
  obtain ⟨bb, kbb, rfl, N151q, K151, ge_bb, sz0_bb, hor151⟩ := hQ151
  have N151 := Fr.app N0 N151q
  have OL := OL.keep K151 all0
  have KP := KP.trans K151 all0
  have E_sx := E_sx.keep K151
  have F_value_sx := F_value_sx.keep K151 nin0
  have F_coder_sx := F_coder_sx.keep K151 nin0
  have Va := Va.keep K151 nin0
  rcases hor151 with ⟨hg0, hg1, hg2, Vb⟩ | Vb
  · refine own_to (mkF m 39 #[rv sx, rv a, iv 0, iv 3, .val .null, .unset] [(.ref bb)]) st151 ?_
    have sz_bb : h0.size ≤ bb := Nat.le_trans KP0.1 sz0_bb
    have ne_sx_bb : sx ≠ bb := Nat.ne_of_lt (Nat.lt_of_lt_of_le lt0_sx sz0_bb)
    have ne_a_bb : a ≠ bb := Nat.ne_of_lt (Nat.lt_of_lt_of_le lt0_a sz0_bb)
    refine own_as 41 #[rv sx, rv a, iv 0, iv 3, .val .null, rv bb] X151 hx (hb hby own_d165) rfl rfl rfl ?_
    refine own_aln 42 X151 hx (hb hby own_d166) rfl rfl rfl ?_
    refine own_al 44 X151 hx (hb hby own_d167) rfl rfl rfl ?_
    refine own_iln 45 X151 hx (hb hby own_d168) rfl rfl ?_
    obtain ⟨_, T152, Lc152, X152, hQ152, st152⟩ := own_callS X151 hx (y := (⟨"java/lang/StringUTF16", "coderFromArrayLen", "([BI)B"⟩ : MethodName)) hown (mvT hZ (own_w hw 30 rfl)) (mvT hZ (own_w hw 31 rfl)) (mvT hZ (own_w hw 24 rfl)) (mvT hZ (own_w hw 32 rfl)) (by decide) (backOf (W := 1) (own_rmCF_3_0 l Z a0 hw [] x0 x1 x2 bb kbb T151.heap n0 (Nat.le_trans Z0 KP.1) OL Vb) hZ (own_w hw 32 rfl) (own_w hw 24 rfl) (by decide) (by decide)) (g := (mkF m 45 #[rv sx, rv a, iv 0, iv 3, .val .null, rv bb] [(.int (3 : Int32)), (.ref bb), (.ref sx)])) rfl (by rw [hml]; rfl) (argsL := [(.ref bb), (.int (3 : Int32))]) (rest := [(.ref sx)]) (lenOf own_pd7 rfl) rfl (by show 2 * 0 + _ ≤ _; exact Nat.le_of_eq rfl) (hb hby own_d169) rfl rfl (kc := 2) (ks := 9) rfl rfl (by decide) (by decide)
    obtain ⟨rfl, N152q, e152⟩ := hQ152
    have N152 := Fr.app N151 N152q
    refine own_to (mkF m 48 #[rv sx, rv a, iv 0, iv 3, .val .null, rv bb] [(.int (0 : Int32)), (.ref sx)]) st152 ?_
    obtain ⟨T153, h153, X153, e153, W153, st153⟩ := putFN X152 hx hZ hown (own_w hw 33 rfl) Via.refl e152 F_coder_sx E_sx (Or.inr ⟨(own_w hw 34 rfl), rfl, hnm⟩) (own_w hw 5 rfl) (ty := .byte) (v' := (.int (0 : Int32))) (by decide) rfl rfl (g := (mkF m 48 #[rv sx, rv a, iv 0, iv 3, .val .null, rv bb] [(.int (0 : Int32)), (.ref sx)])) rfl rfl (hb hby own_d170)
    refine own_to (mkF m 51 #[rv sx, rv a, iv 0, iv 3, .val .null, rv bb] []) st153 ?_
    have N153 := Fr.snoc X153 N152 ge_sx
    have tmp153 : Fld Z h153 sx "java/lang/String" "coder" "B" (.int (0 : Int32)) := F_coder_sx.same W153
    have OL := OL.wr W153 ge_sx
    have KP := KP.wr W153 (Or.inl (List.mem_of_getElem? (i := 0) rfl))
    have E_sx := E_sx.wr W153
    have F_value_sx := F_value_sx.other W153 (Or.inr (slot_ne (Or.inr (own_w hw 36 rfl)) (Or.inr (own_w hw 34 rfl)) (by decide) (t := (.array .byte)) (t' := .byte) (by decide) (by decide)))
    have Va := Va.other W153 (Ne.symm ne_sx_a)
    have Vb := Vb.other W153 (Ne.symm ne_sx_bb)
    have F_coder_sx := tmp153
    refine own_aln 52 X153 hx (hb hby own_d171) rfl rfl rfl ?_
    refine own_al 54 X153 hx (hb hby own_d172) rfl rfl rfl ?_
    obtain ⟨T154, h154, X154, e154, W154, st154⟩ := putF X153 hx hZ hown (host := "") (Or.inl (own_w hw 35 rfl)) Via.refl e153 F_value_sx E_sx (Or.inr ⟨(own_w hw 36 rfl), rfl, hnm⟩) (own_w hw 5 rfl) (ty := (.array .byte)) (by decide) rfl rfl (g := (mkF m 54 #[rv sx, rv a, iv 0, iv 3, .val .null, rv bb] [(.ref bb), (.ref sx)])) rfl rfl (hb hby own_d173)
    refine own_to (mkF m 57 #[rv sx, rv a, iv 0, iv 3, .val .null, rv bb] []) st154 ?_
    have N154 := Fr.snoc X154 N153 ge_sx
    have tmp154 : Fld Z h154 sx "java/lang/String" "value" "[B" (.ref bb) := F_value_sx.same W154
    have OL := OL.wr W154 ge_sx
    have KP := KP.wr W154 (Or.inl (List.mem_of_getElem? (i := 0) rfl))
    have E_sx := E_sx.wr W154
    have F_coder_sx := F_coder_sx.other W154 (Or.inr (slot_ne (Or.inr (own_w hw 34 rfl)) (Or.inr (own_w hw 36 rfl)) (by decide) (t := .byte) (t' := (.array .byte)) (by decide) (by decide)))
    have Va := Va.other W154 (Ne.symm ne_sx_a)
    have Vb := Vb.other W154 (Ne.symm ne_sx_bb)
    have F_value_sx := tmp154
    exact own_ret0 X154 hx Bd.returns hlk (hb hby own_d174) (by decide) (by decide) (by rw [e154]; exact ⟨rfl, N154, KP, bb, kbb, ge_bb, sz_bb, Or.inl ⟨hg0, hg1, hg2, ⟨E_sx, F_value_sx, F_coder_sx, Vb⟩⟩⟩)
  · refine own_to (mkF m 39 #[rv sx, rv a, iv 0, iv 3, .val .null, .unset] [(.ref bb)]) st151 ?_
    have sz_bb : h0.size ≤ bb := Nat.le_trans KP0.1 sz0_bb
    have ne_sx_bb : sx ≠ bb := Nat.ne_of_lt (Nat.lt_of_lt_of_le lt0_sx sz0_bb)
    have ne_a_bb : a ≠ bb := Nat.ne_of_lt (Nat.lt_of_lt_of_le lt0_a sz0_bb)
    refine own_as 41 #[rv sx, rv a, iv 0, iv 3, .val .null, rv bb] X151 hx (hb hby own_d165) rfl rfl rfl ?_
    refine own_aln 42 X151 hx (hb hby own_d166) rfl rfl rfl ?_
    refine own_al 44 X151 hx (hb hby own_d167) rfl rfl rfl ?_
    refine own_iln 45 X151 hx (hb hby own_d168) rfl rfl ?_
    obtain ⟨_, T155, Lc155, X155, hQ155, st155⟩ := own_callS X151 hx (y := (⟨"java/lang/StringUTF16", "coderFromArrayLen", "([BI)B"⟩ : MethodName)) hown (mvT hZ (own_w hw 30 rfl)) (mvT hZ (own_w hw 31 rfl)) (mvT hZ (own_w hw 24 rfl)) (mvT hZ (own_w hw 32 rfl)) (by decide) (backOf (W := 1) (own_rmCF_3_1 l Z a0 hw [] x0 x1 x2 bb kbb T151.heap n0 (Nat.le_trans Z0 KP.1) OL Vb) hZ (own_w hw 32 rfl) (own_w hw 24 rfl) (by decide) (by decide)) (g := (mkF m 45 #[rv sx, rv a, iv 0, iv 3, .val .null, rv bb] [(.int (3 : Int32)), (.ref bb), (.ref sx)])) rfl (by rw [hml]; rfl) (argsL := [(.ref bb), (.int (3 : Int32))]) (rest := [(.ref sx)]) (lenOf own_pd7 rfl) rfl (by show 2 * 0 + _ ≤ _; exact Nat.le_of_eq rfl) (hb hby own_d169) rfl rfl (kc := 2) (ks := 9) rfl rfl (by decide) (by decide)
    obtain ⟨rfl, N155q, e155⟩ := hQ155
    have N155 := Fr.app N151 N155q
    refine own_to (mkF m 48 #[rv sx, rv a, iv 0, iv 3, .val .null, rv bb] [(.int (1 : Int32)), (.ref sx)]) st155 ?_
    obtain ⟨T156, h156, X156, e156, W156, st156⟩ := putFN X155 hx hZ hown (own_w hw 33 rfl) Via.refl e155 F_coder_sx E_sx (Or.inr ⟨(own_w hw 34 rfl), rfl, hnm⟩) (own_w hw 5 rfl) (ty := .byte) (v' := (.int (1 : Int32))) (by decide) rfl rfl (g := (mkF m 48 #[rv sx, rv a, iv 0, iv 3, .val .null, rv bb] [(.int (1 : Int32)), (.ref sx)])) rfl rfl (hb hby own_d170)
    refine own_to (mkF m 51 #[rv sx, rv a, iv 0, iv 3, .val .null, rv bb] []) st156 ?_
    have N156 := Fr.snoc X156 N155 ge_sx
    have tmp156 : Fld Z h156 sx "java/lang/String" "coder" "B" (.int (1 : Int32)) := F_coder_sx.same W156
    have OL := OL.wr W156 ge_sx
    have KP := KP.wr W156 (Or.inl (List.mem_of_getElem? (i := 0) rfl))
    have E_sx := E_sx.wr W156
    have F_value_sx := F_value_sx.other W156 (Or.inr (slot_ne (Or.inr (own_w hw 36 rfl)) (Or.inr (own_w hw 34 rfl)) (by decide) (t := (.array .byte)) (t' := .byte) (by decide) (by decide)))
    have Va := Va.other W156 (Ne.symm ne_sx_a)
    have Vb := Vb.other W156 (Ne.symm ne_sx_bb)
    have F_coder_sx := tmp156
    refine own_aln 52 X156 hx (hb hby own_d171) rfl rfl rfl ?_
    refine own_al 54 X156 hx (hb hby own_d172) rfl rfl rfl ?_
    obtain ⟨T157, h157, X157, e157, W157, st157⟩ := putF X156 hx hZ hown (host := "") (Or.inl (own_w hw 35 rfl)) Via.refl e156 F_value_sx E_sx (Or.inr ⟨(own_w hw 36 rfl), rfl, hnm⟩) (own_w hw 5 rfl) (ty := (.array .byte)) (by decide) rfl rfl (g := (mkF m 54 #[rv sx, rv a, iv 0, iv 3, .val .null, rv bb] [(.ref bb), (.ref sx)])) rfl rfl (hb hby own_d173)
    refine own_to (mkF m 57 #[rv sx, rv a, iv 0, iv 3, .val .null, rv bb] []) st157 ?_
    have N157 := Fr.snoc X157 N156 ge_sx
    have tmp157 : Fld Z h157 sx "java/lang/String" "value" "[B" (.ref bb) := F_value_sx.same W157
    have OL := OL.wr W157 ge_sx
    have KP := KP.wr W157 (Or.inl (List.mem_of_getElem? (i := 0) rfl))
    have E_sx := E_sx.wr W157
    have F_coder_sx := F_coder_sx.other W157 (Or.inr (slot_ne (Or.inr (own_w hw 34 rfl)) (Or.inr (own_w hw 36 rfl)) (by decide) (t := .byte) (t' := (.array .byte)) (by decide) (by decide)))
    have Va := Va.other W157 (Ne.symm ne_sx_a)
    have Vb := Vb.other W157 (Ne.symm ne_sx_bb)
    have F_value_sx := tmp157
    exact own_ret0 X157 hx Bd.returns hlk (hb hby own_d174) (by decide) (by decide) (by rw [e157]; exact ⟨rfl, N157, KP, bb, kbb, ge_bb, sz_bb, Or.inr ⟨E_sx, F_value_sx, F_coder_sx, Vb⟩⟩)
def own_QI1_3 (Z : State) (x0 x1 x2 : Int32) (G1 : Int32) (sx a : Addr) (ka : ClassId) (h0 : Heap) (n0 : Nat) (v : Option Value) (h : Heap) (L : List Loc) : Prop := v = none ∧ Fr n0 L ∧ Keep h0 h [sx] ∧ ∃ (t : Addr) (kb : ClassId), n0 ≤ t ∧ h0.size ≤ t ∧ ((¬ ((255 : Int32) < x0) ∧ ¬ ((255 : Int32) < x1) ∧ ¬ ((255 : Int32) < x2) ∧ own_StrG Z h sx t kb (0 : Int32) (3 : Int32) [(.int (x0.toInt8.toInt32)), (.int (x1.toInt8.toInt32)), (.int (x2.toInt8.toInt32))]) ∨ own_StrG Z h sx t kb (1 : Int32) (6 : Int32) [(.int ((x0 >>> ((0 : Int32) &&& 31)).toInt8.toInt32)), (.int ((x0 >>> ((8 : Int32) &&& 31)).toInt8.toInt32)), (.int ((x1 >>> ((0 : Int32) &&& 31)).toInt8.toInt32)), (.int ((x1 >>> ((8 : Int32) &&& 31)).toInt8.toInt32)), (.int ((x2 >>> ((0 : Int32) &&& 31)).toInt8.toInt32)), (.int ((x2 >>> ((8 : Int32) &&& 31)).toInt8.toInt32))])
set_option maxRecDepth 65536 in
set_option maxHeartbeats 40000000 in
theorem own_rmI1_3 (l : Launch) (Z : State) (a0 : Array Value) (hw : ∀ d ∈ tables_1, d.before a0 Z = true) (ws : List Jvm.Cond) (x0 x1 x2 : Int32) (G1 : Int32) (sx a : Addr) (ka : ClassId) (h0 : Heap) (n0 : Nat) (Z0 : n0 ≤ h0.size) (OL : Old Z n0 h0) (ge_sx : n0 ≤ sx) (ne_sx_a : sx ≠ a) (E_sx : Exa Z h0 sx "java/lang/String") (F_value_sx : Fld Z h0 sx "java/lang/String" "value" "[B" .null) (F_coder_sx : Fld Z h0 sx "java/lang/String" "coder" "B" (.int (0 : Int32))) (hx0 : own_C16 x0) (hx1 : own_C16 x1) (hx2 : own_C16 x2) (Va : Arv Z h0 a ka .char (3 : Int32) [(.int x0), (.int x1), (.int x2)] (.int (0 : Int32))) (O2 : Sta Z Z.heap "java/lang/String" "COMPACT_STRINGS" "Z" (.int G1)) (P5 : ¬ (G1 = (0 : Int32))) (OAD : Sta Z Z.heap "java/lang/StringUTF16" "$assertionsDisabled" "Z" (.int (1 : Int32))) (OHI : Sta Z Z.heap "java/lang/StringUTF16" "HI_BYTE_SHIFT" "I" (.int (0 : Int32))) (OLO : Sta Z Z.heap "java/lang/StringUTF16" "LO_BYTE_SHIFT" "I" (.int (8 : Int32))) :
    own_MF l (⟨"java/lang/String", "<init>", "([C)V"⟩ : MethodName) (Jvm.Cond.code (⟨"java/lang/String", "<init>", "([C)V"⟩ : MethodName) jdk_42_method_3_code 2 none :: ws) ({ frames := 5, cells := 2, slots := 9, locals := 120 } : Room) #[(.ref sx), (.ref a)] Z h0 (own_QI1_3 Z x0 x1 x2 G1 sx a ka h0 n0) := by
  refine MetFree.of_bodySF (plainFor_of_name own_pn0) hisR ?_
  intro p e s m args below meth c s₁ Bd hml0 hP hK
  obtain ⟨rfl, hZ, hh⟩ := hP
  have hx := Bd.exec
  have hby := Bd.bytes
  have hlk : meth.locks = false := BodyLoose.notSynchronized Bd
  have hml : c.maxLocals = 2 := hml0
  have hown : s.vm.findClass "java/lang/String" = some m.cls := findClass_of_methodNamed Bd.named
  have hnm := (name_of_methodNamed Bd.named Bd.method).1
  have X0 : Stand p l e ({ frames := 5, cells := 2, slots := 9, locals := 120 } : Room) s m #[(.ref sx), (.ref a)] below meth c s₁ [] 0 0 := Stand.of_body Bd
  have e0 : s₁.heap = h0 := by rw [← hh, Bd.state]; rfl
  have N0 := Fr.nil n0
  have KP : Keep h0 h0 [sx] := Keep.refl _ _
  refine own_start (Fin := (own_Fin s (own_QI1_3 Z x0 x1 x2 G1 sx a ka h0 n0) ({ frames := 5, cells := 2, slots := 9, locals := 120 } : Room).cells ({ frames := 5, cells := 2, slots := 9, locals := 120 } : Room).slots)) (own_from (mkF m 0 #[rv sx, rv a] []) (castTop (own_ef_I1_3 m sx a)) ?_)
  refine own_aln 1 X0 hx (hb hby own_d13) rfl rfl rfl ?_
  refine own_aln 2 X0 hx (hb hby own_d14) rfl rfl rfl ?_
  refine own_ic 3 0 X0 hx (hb hby own_d15) rfl rfl ?_
  refine own_aln 4 X0 hx (hb hby own_d16) rfl rfl rfl ?_
  obtain ⟨cl158, Ar158, -, S158, M158, -, -⟩ := id Va
  refine own_to (mkF m 5 #[rv sx, rv a] [(.int (3 : Int32)), (.int (0 : Int32)), (.ref a), (.ref sx)]) (by have q := X0.arraylength hx (by rw [e0]; exact Ar158.1) (State.isArrayOf_alike hZ.alike Ar158.2.1) (g := (mkF m 4 #[rv sx, rv a] [(.ref a), (.int (0 : Int32)), (.ref a), (.ref sx)])) rfl rfl (hb hby own_d17); rw [len_of S158 M158] at q; exact q) ?_
  refine own_nul 6 X0 hx (hb hby own_d18) rfl ?_
  obtain ⟨_, T159, Lc159, X159, hQ159, st159⟩ := own_special X0 hx (y := (⟨"java/lang/String", "<init>", "([CIILjava/lang/Void;)V"⟩ : MethodName)) rfl hown (mvT hZ (own_w hw 14 rfl)) (mvT hZ (own_w hw 15 rfl)) (mvT hZ (own_w hw 17 rfl)) (by decide) (backOf (W := 0) (own_rmI4_3 l Z a0 hw [] x0 x1 x2 G1 sx a ka h0 n0 (Nat.le_trans Z0 KP.1) OL ge_sx ne_sx_a E_sx F_value_sx F_coder_sx hx0 hx1 hx2 Va O2 P5 OAD OHI OLO) hZ (own_w hw 17 rfl) (own_w hw 6 rfl) (by decide) (by decide)) (g := (mkF m 6 #[rv sx, rv a] [.null, (.int (3 : Int32)), (.int (0 : Int32)), (.ref a), (.ref sx)])) rfl (by rw [hml]; rfl) (a := sx) (argsL := [(.ref a), (.int (0 : Int32)), (.int (3 : Int32)), .null]) (rest := []) (lenOf own_pd0 rfl) rfl (by show 2 * 0 + _ ≤ _; exact Nat.le_of_eq rfl) (hb hby own_d19) rfl e0 (kc := 2) (ks := 9) rfl rfl (by decide) (by decide)
  obtain ⟨rfl, N159q, K159, hrest159⟩ := hQ159
  have N159 := Fr.app N0 N159q
  have OL := OL.keep K159 (allS ge_sx all0)
  have KP := KP.trans K159 (allS (Or.inl (List.mem_of_getElem? (i := 0) rfl)) all0)
  have Va := Va.keep K159 (ninS (Ne.symm ne_sx_a) nin0)
  refine own_via (mkF m 9 #[rv sx, rv a] []) st159 ?_
  exact own_ret0 X159 hx Bd.returns hlk (hb hby own_d20) (by decide) (by decide) (by exact ⟨rfl, N159, KP, hrest159⟩)
def own_QCD_0 (Z : State) (G1 : Int32) (sx : Addr) (h0 : Heap) (n0 : Nat) (v : Option Value) (h : Heap) (L : List Loc) : Prop := v = some (.int (0 : Int32)) ∧ Fr n0 L ∧ h = h0
set_option maxRecDepth 65536 in
set_option maxHeartbeats 40000000 in
theorem own_rmCD_0 (l : Launch) (Z : State) (a0 : Array Value) (hw : ∀ d ∈ tables_1, d.before a0 Z = true) (ws : List Jvm.Cond) (G1 : Int32) (sx : Addr) (h0 : Heap) (n0 : Nat) (Z0 : n0 ≤ h0.size) (OL : Old Z n0 h0) (Fc : Fld Z h0 sx "java/lang/String" "coder" "B" (.int (0 : Int32))) (O2 : Sta Z Z.heap "java/lang/String" "COMPACT_STRINGS" "Z" (.int G1)) (P5 : ¬ (G1 = (0 : Int32))) :
    own_MF l (⟨"java/lang/String", "coder", "()B"⟩ : MethodName) (Jvm.Cond.code (⟨"java/lang/String", "coder", "()B"⟩ : MethodName) jdk_42_method_152_code 1 (some .byte) :: ws) ({ frames := 0, cells := 0, slots := 0, locals := 0 } : Room) #[(.ref sx)] Z h0 (own_QCD_0 Z G1 sx h0 n0) := by
  refine MetFree.of_bodySF (plainFor_of_name own_pn0) hisR ?_
  intro p e s m args below meth c s₁ Bd hml0 hP hK
  obtain ⟨rfl, hZ, hh⟩ := hP
  have hx := Bd.exec
  have hby := Bd.bytes
  have hlk : meth.locks = false := BodyLoose.notSynchronized Bd
  have hml : c.maxLocals = 1 := hml0
  have hown : s.vm.findClass "java/lang/String" = some m.cls := findClass_of_methodNamed Bd.named
  have hnm := (name_of_methodNamed Bd.named Bd.method).1
  have X0 : Stand p l e ({ frames := 0, cells := 0, slots := 0, locals := 0 } : Room) s m #[(.ref sx)] below meth c s₁ [] 0 0 := Stand.of_body Bd
  have e0 : s₁.heap = h0 := by rw [← hh, Bd.state]; rfl
  have N0 := Fr.nil n0
  have KP : Keep h0 h0 [] := Keep.refl _ _
  refine own_start (Fin := (own_Fin s (own_QCD_0 Z G1 sx h0 n0) ({ frames := 0, cells := 0, slots := 0, locals := 0 } : Room).cells ({ frames := 0, cells := 0, slots := 0, locals := 0 } : Room).slots)) (own_from (mkF m 0 #[rv sx] []) (castTop (own_ef_CD_0 m sx)) ?_)
  obtain ⟨T160, X160, e160, st160⟩ := getS2 X0 hx hZ hown (host := "") (Or.inl (own_w hw 21 rfl)) Via.refl e0 (O2.ext OL.2) (g := (mkF m 0 #[rv sx] [])) rfl (hb hby own_d175)
  refine own_to (mkF m 3 #[rv sx] [(.int G1)]) st160 ?_
  refine own_ifN 6 X160 hx (hb hby own_d176) ((if0 _ _).trans (feq P5).1) rfl ?_
  refine own_aln 7 X160 hx (hb hby own_d177) rfl rfl rfl ?_
  obtain ⟨T161, X161, e161, st161⟩ := getF X160 hx hZ hown (host := "") (Or.inl (own_w hw 33 rfl)) Via.refl e160 Fc (g := (mkF m 7 #[rv sx] [(.ref sx)])) rfl rfl (hb hby own_d178)
  refine own_to (mkF m 10 #[rv sx] [(.int (0 : Int32))]) st161 ?_
  refine own_go 14 X161 hx (hb hby own_d179) (by decide) (by decide) ?_
  exact own_retN X161 hx (t := .byte) Bd.returns (by simp) hlk (hb hby own_d180) (by decide) (by decide) (by rw [e161]; exact ⟨rfl, N0, rfl⟩)
def own_QCD_1 (Z : State) (G1 : Int32) (sx : Addr) (h0 : Heap) (n0 : Nat) (v : Option Value) (h : Heap) (L : List Loc) : Prop := v = some (.int (1 : Int32)) ∧ Fr n0 L ∧ h = h0
set_option maxRecDepth 65536 in
set_option maxHeartbeats 40000000 in
theorem own_rmCD_1 (l : Launch) (Z : State) (a0 : Array Value) (hw : ∀ d ∈ tables_1, d.before a0 Z = true) (ws : List Jvm.Cond) (G1 : Int32) (sx : Addr) (h0 : Heap) (n0 : Nat) (Z0 : n0 ≤ h0.size) (OL : Old Z n0 h0) (Fc : Fld Z h0 sx "java/lang/String" "coder" "B" (.int (1 : Int32))) (O2 : Sta Z Z.heap "java/lang/String" "COMPACT_STRINGS" "Z" (.int G1)) (P5 : ¬ (G1 = (0 : Int32))) :
    own_MF l (⟨"java/lang/String", "coder", "()B"⟩ : MethodName) (Jvm.Cond.code (⟨"java/lang/String", "coder", "()B"⟩ : MethodName) jdk_42_method_152_code 1 (some .byte) :: ws) ({ frames := 0, cells := 0, slots := 0, locals := 0 } : Room) #[(.ref sx)] Z h0 (own_QCD_1 Z G1 sx h0 n0) := by
  refine MetFree.of_bodySF (plainFor_of_name own_pn0) hisR ?_
  intro p e s m args below meth c s₁ Bd hml0 hP hK
  obtain ⟨rfl, hZ, hh⟩ := hP
  have hx := Bd.exec
  have hby := Bd.bytes
  have hlk : meth.locks = false := BodyLoose.notSynchronized Bd
  have hml : c.maxLocals = 1 := hml0
  have hown : s.vm.findClass "java/lang/String" = some m.cls := findClass_of_methodNamed Bd.named
  have hnm := (name_of_methodNamed Bd.named Bd.method).1
  have X0 : Stand p l e ({ frames := 0, cells := 0, slots := 0, locals := 0 } : Room) s m #[(.ref sx)] below meth c s₁ [] 0 0 := Stand.of_body Bd
  have e0 : s₁.heap = h0 := by rw [← hh, Bd.state]; rfl
  have N0 := Fr.nil n0
  have KP : Keep h0 h0 [] := Keep.refl _ _
  refine own_start (Fin := (own_Fin s (own_QCD_1 Z G1 sx h0 n0) ({ frames := 0, cells := 0, slots := 0, locals := 0 } : Room).cells ({ frames := 0, cells := 0, slots := 0, locals := 0 } : Room).slots)) (own_from (mkF m 0 #[rv sx] []) (castTop (own_ef_CD_1 m sx)) ?_)
  obtain ⟨T162, X162, e162, st162⟩ := getS2 X0 hx hZ hown (host := "") (Or.inl (own_w hw 21 rfl)) Via.refl e0 (O2.ext OL.2) (g := (mkF m 0 #[rv sx] [])) rfl (hb hby own_d175)
  refine own_to (mkF m 3 #[rv sx] [(.int G1)]) st162 ?_
  refine own_ifN 6 X162 hx (hb hby own_d176) ((if0 _ _).trans (feq P5).1) rfl ?_
  refine own_aln 7 X162 hx (hb hby own_d177) rfl rfl rfl ?_
  obtain ⟨T163, X163, e163, st163⟩ := getF X162 hx hZ hown (host := "") (Or.inl (own_w hw 33 rfl)) Via.refl e162 Fc (g := (mkF m 7 #[rv sx] [(.ref sx)])) rfl rfl (hb hby own_d178)
  refine own_to (mkF m 10 #[rv sx] [(.int (1 : Int32))]) st163 ?_
  refine own_go 14 X163 hx (hb hby own_d179) (by decide) (by decide) ?_
  exact own_retN X163 hx (t := .byte) Bd.returns (by simp) hlk (hb hby own_d180) (by decide) (by decide) (by rw [e163]; exact ⟨rfl, N0, rfl⟩)
def own_QLN_0 (Z : State) (G1 : Int32) (sx tx : Addr) (h0 : Heap) (n0 : Nat) (v : Option Value) (h : Heap) (L : List Loc) : Prop := v = some (.int (0 : Int32)) ∧ Fr n0 L ∧ h = h0
set_option maxRecDepth 65536 in
set_option maxHeartbeats 40000000 in
theorem own_rmLN_0 (l : Launch) (Z : State) (a0 : Array Value) (hw : ∀ d ∈ tables_1, d.before a0 Z = true) (ws : List Jvm.Cond) (G1 : Int32) (sx tx : Addr) (h0 : Heap) (n0 : Nat) (Z0 : n0 ≤ h0.size) (OL : Old Z n0 h0) (SL : own_StrL Z h0 sx tx (0 : Int32) (0 : Int32)) (O2 : Sta Z Z.heap "java/lang/String" "COMPACT_STRINGS" "Z" (.int G1)) (P5 : ¬ (G1 = (0 : Int32))) :
    own_MF l (⟨"java/lang/String", "length", "()I"⟩ : MethodName) (Jvm.Cond.code (⟨"java/lang/String", "length", "()I"⟩ : MethodName) jdk_42_method_54_code 1 (some .int) :: ws) ({ frames := 1, cells := 0, slots := 0, locals := 20 } : Room) #[(.ref sx)] Z h0 (own_QLN_0 Z G1 sx tx h0 n0) := by
  refine MetFree.of_bodySF (plainFor_of_name own_pn0) hisR ?_
  intro p e s m args below meth c s₁ Bd hml0 hP hK
  obtain ⟨rfl, hZ, hh⟩ := hP
  have hx := Bd.exec
  have hby := Bd.bytes
  have hlk : meth.locks = false := BodyLoose.notSynchronized Bd
  have hml : c.maxLocals = 1 := hml0
  have hown : s.vm.findClass "java/lang/String" = some m.cls := findClass_of_methodNamed Bd.named
  have hnm := (name_of_methodNamed Bd.named Bd.method).1
  have X0 : Stand p l e ({ frames := 1, cells := 0, slots := 0, locals := 20 } : Room) s m #[(.ref sx)] below meth c s₁ [] 0 0 := Stand.of_body Bd
  have e0 : s₁.heap = h0 := by rw [← hh, Bd.state]; rfl
  have N0 := Fr.nil n0
  have KP : Keep h0 h0 [] := Keep.refl _ _
  refine own_start (Fin := (own_Fin s (own_QLN_0 Z G1 sx tx h0 n0) ({ frames := 1, cells := 0, slots := 0, locals := 20 } : Room).cells ({ frames := 1, cells := 0, slots := 0, locals := 20 } : Room).slots)) (own_from (mkF m 0 #[rv sx] []) (castTop (own_ef_LN_0 m sx)) ?_)
  obtain ⟨kb, cd, N, vs, ⟨E_sx, Fv, Fc, Va⟩, hor⟩ := SL
  rcases hor with ⟨q1, q⟩ | ⟨q1, q⟩
  · subst q
    subst q1
    refine own_aln 1 X0 hx (hb hby own_d181) rfl rfl rfl ?_
    obtain ⟨T164, X164, e164, st164⟩ := getF X0 hx hZ hown (host := "") (Or.inl (own_w hw 35 rfl)) Via.refl e0 Fv (g := (mkF m 1 #[rv sx] [(.ref sx)])) rfl rfl (hb hby own_d182)
    refine own_to (mkF m 4 #[rv sx] [(.ref tx)]) st164 ?_
    obtain ⟨cl165, Ar165, -, S165, M165, -, -⟩ := id Va
    refine own_to (mkF m 5 #[rv sx] [(.int (0 : Int32))]) (by have q := X164.arraylength hx (by rw [e164]; exact Ar165.1) (State.isArrayOf_alike hZ.alike Ar165.2.1) (g := (mkF m 4 #[rv sx] [(.ref tx)])) rfl rfl (hb hby own_d183); rw [len_of S165 M165] at q; exact q) ?_
    refine own_aln 6 X164 hx (hb hby own_d184) rfl rfl rfl ?_
    obtain ⟨cq166, kq166, q166a, q166b, q166c⟩ := isOf hZ e164 E_sx
    obtain ⟨_, T166, Lc166, X166, hQ166, st166⟩ := own_virtual X164 hx (y := (⟨"java/lang/String", "coder", "()B"⟩ : MethodName)) (z := (⟨"java/lang/String", "coder", "()B"⟩ : MethodName)) hown (mvT hZ (own_w hw 120 rfl)) (mvT hZ (own_w hw 121 rfl)) (notFace_of_selects (args := #[]) (mvT hZ (own_w hw 123 rfl))) (mvT hZ (own_w hw 123 rfl)) (mvT hZ (own_w hw 122 rfl)) (by decide) (backOf (W := 1) (own_rmCD_0 l Z a0 hw [] G1 sx h0 n0 (Nat.le_trans Z0 KP.1) OL Fc O2 P5) hZ (own_w hw 124 rfl) (own_w hw 6 rfl) (by decide) (by decide)) q166a q166c (g := (mkF m 6 #[rv sx] [(.ref sx), (.int (0 : Int32))])) rfl (by rw [hml]; rfl) (argsL := []) (rest := [(.int (0 : Int32))]) (lenOf own_pd8 rfl) rfl (by show 2 * 0 + _ ≤ _; exact Nat.le_of_eq rfl) (hb hby own_d185) rfl e164 (kc := 0) (ks := 0) rfl rfl (by decide) (by decide)
    obtain ⟨rfl, N166q, e166⟩ := hQ166
    have N166 := Fr.app N0 N166q
    refine own_via (mkF m 9 #[rv sx] [(.int (0 : Int32)), (.int (0 : Int32))]) st166 ?_
    refine own_ishr 10 X166 hx (hb hby own_d186) (z := (0 : Int32)) rfl rfl ?_
    exact own_retI X166 hx Bd.returns hlk (hb hby own_d187) (by decide) (by decide) (by rw [e166]; exact ⟨rfl, N166, rfl⟩)
  · subst q
    subst q1
    refine own_aln 1 X0 hx (hb hby own_d181) rfl rfl rfl ?_
    obtain ⟨T167, X167, e167, st167⟩ := getF X0 hx hZ hown (host := "") (Or.inl (own_w hw 35 rfl)) Via.refl e0 Fv (g := (mkF m 1 #[rv sx] [(.ref sx)])) rfl rfl (hb hby own_d182)
    refine own_to (mkF m 4 #[rv sx] [(.ref tx)]) st167 ?_
    obtain ⟨cl168, Ar168, -, S168, M168, -, -⟩ := id Va
    refine own_to (mkF m 5 #[rv sx] [(.int (0 : Int32))]) (by have q := X167.arraylength hx (by rw [e167]; exact Ar168.1) (State.isArrayOf_alike hZ.alike Ar168.2.1) (g := (mkF m 4 #[rv sx] [(.ref tx)])) rfl rfl (hb hby own_d183); rw [len_of S168 M168] at q; exact q) ?_
    refine own_aln 6 X167 hx (hb hby own_d184) rfl rfl rfl ?_
    obtain ⟨cq169, kq169, q169a, q169b, q169c⟩ := isOf hZ e167 E_sx
    obtain ⟨_, T169, Lc169, X169, hQ169, st169⟩ := own_virtual X167 hx (y := (⟨"java/lang/String", "coder", "()B"⟩ : MethodName)) (z := (⟨"java/lang/String", "coder", "()B"⟩ : MethodName)) hown (mvT hZ (own_w hw 120 rfl)) (mvT hZ (own_w hw 121 rfl)) (notFace_of_selects (args := #[]) (mvT hZ (own_w hw 123 rfl))) (mvT hZ (own_w hw 123 rfl)) (mvT hZ (own_w hw 122 rfl)) (by decide) (backOf (W := 1) (own_rmCD_1 l Z a0 hw [] G1 sx h0 n0 (Nat.le_trans Z0 KP.1) OL Fc O2 P5) hZ (own_w hw 124 rfl) (own_w hw 6 rfl) (by decide) (by decide)) q169a q169c (g := (mkF m 6 #[rv sx] [(.ref sx), (.int (0 : Int32))])) rfl (by rw [hml]; rfl) (argsL := []) (rest := [(.int (0 : Int32))]) (lenOf own_pd8 rfl) rfl (by show 2 * 0 + _ ≤ _; exact Nat.le_of_eq rfl) (hb hby own_d185) rfl e167 (kc := 0) (ks := 0) rfl rfl (by decide) (by decide)
    obtain ⟨rfl, N169q, e169⟩ := hQ169
    have N169 := Fr.app N0 N169q
    refine own_via (mkF m 9 #[rv sx] [(.int (1 : Int32)), (.int (0 : Int32))]) st169 ?_
    refine own_ishr 10 X169 hx (hb hby own_d186) (z := (0 : Int32)) rfl rfl ?_
    exact own_retI X169 hx Bd.returns hlk (hb hby own_d187) (by decide) (by decide) (by rw [e169]; exact ⟨rfl, N169, rfl⟩)
def own_QLN_1 (Z : State) (G1 : Int32) (sx tx : Addr) (h0 : Heap) (n0 : Nat) (v : Option Value) (h : Heap) (L : List Loc) : Prop := v = some (.int (1 : Int32)) ∧ Fr n0 L ∧ h = h0
set_option maxRecDepth 65536 in
set_option maxHeartbeats 40000000 in
theorem own_rmLN_1 (l : Launch) (Z : State) (a0 : Array Value) (hw : ∀ d ∈ tables_1, d.before a0 Z = true) (ws : List Jvm.Cond) (G1 : Int32) (sx tx : Addr) (h0 : Heap) (n0 : Nat) (Z0 : n0 ≤ h0.size) (OL : Old Z n0 h0) (SL : own_StrL Z h0 sx tx (1 : Int32) (2 : Int32)) (O2 : Sta Z Z.heap "java/lang/String" "COMPACT_STRINGS" "Z" (.int G1)) (P5 : ¬ (G1 = (0 : Int32))) :
    own_MF l (⟨"java/lang/String", "length", "()I"⟩ : MethodName) (Jvm.Cond.code (⟨"java/lang/String", "length", "()I"⟩ : MethodName) jdk_42_method_54_code 1 (some .int) :: ws) ({ frames := 1, cells := 0, slots := 0, locals := 20 } : Room) #[(.ref sx)] Z h0 (own_QLN_1 Z G1 sx tx h0 n0) := by
  refine MetFree.of_bodySF (plainFor_of_name own_pn0) hisR ?_
  intro p e s m args below meth c s₁ Bd hml0 hP hK
  obtain ⟨rfl, hZ, hh⟩ := hP
  have hx := Bd.exec
  have hby := Bd.bytes
  have hlk : meth.locks = false := BodyLoose.notSynchronized Bd
  have hml : c.maxLocals = 1 := hml0
  have hown : s.vm.findClass "java/lang/String" = some m.cls := findClass_of_methodNamed Bd.named
  have hnm := (name_of_methodNamed Bd.named Bd.method).1
  have X0 : Stand p l e ({ frames := 1, cells := 0, slots := 0, locals := 20 } : Room) s m #[(.ref sx)] below meth c s₁ [] 0 0 := Stand.of_body Bd
  have e0 : s₁.heap = h0 := by rw [← hh, Bd.state]; rfl
  have N0 := Fr.nil n0
  have KP : Keep h0 h0 [] := Keep.refl _ _
  refine own_start (Fin := (own_Fin s (own_QLN_1 Z G1 sx tx h0 n0) ({ frames := 1, cells := 0, slots := 0, locals := 20 } : Room).cells ({ frames := 1, cells := 0, slots := 0, locals := 20 } : Room).slots)) (own_from (mkF m 0 #[rv sx] []) (castTop (own_ef_LN_1 m sx)) ?_)
  obtain ⟨kb, cd, N, vs, ⟨E_sx, Fv, Fc, Va⟩, hor⟩ := SL
  rcases hor with ⟨q1, q⟩ | ⟨q1, q⟩
  · subst q
    subst q1
    refine own_aln 1 X0 hx (hb hby own_d181) rfl rfl rfl ?_
    obtain ⟨T170, X170, e170, st170⟩ := getF X0 hx hZ hown (host := "") (Or.inl (own_w hw 35 rfl)) Via.refl e0 Fv (g := (mkF m 1 #[rv sx] [(.ref sx)])) rfl rfl (hb hby own_d182)
    refine own_to (mkF m 4 #[rv sx] [(.ref tx)]) st170 ?_
    obtain ⟨cl171, Ar171, -, S171, M171, -, -⟩ := id Va
    refine own_to (mkF m 5 #[rv sx] [(.int (1 : Int32))]) (by have q := X170.arraylength hx (by rw [e170]; exact Ar171.1) (State.isArrayOf_alike hZ.alike Ar171.2.1) (g := (mkF m 4 #[rv sx] [(.ref tx)])) rfl rfl (hb hby own_d183); rw [len_of S171 M171] at q; exact q) ?_
    refine own_aln 6 X170 hx (hb hby own_d184) rfl rfl rfl ?_
    obtain ⟨cq172, kq172, q172a, q172b, q172c⟩ := isOf hZ e170 E_sx
    obtain ⟨_, T172, Lc172, X172, hQ172, st172⟩ := own_virtual X170 hx (y := (⟨"java/lang/String", "coder", "()B"⟩ : MethodName)) (z := (⟨"java/lang/String", "coder", "()B"⟩ : MethodName)) hown (mvT hZ (own_w hw 120 rfl)) (mvT hZ (own_w hw 121 rfl)) (notFace_of_selects (args := #[]) (mvT hZ (own_w hw 123 rfl))) (mvT hZ (own_w hw 123 rfl)) (mvT hZ (own_w hw 122 rfl)) (by decide) (backOf (W := 1) (own_rmCD_0 l Z a0 hw [] G1 sx h0 n0 (Nat.le_trans Z0 KP.1) OL Fc O2 P5) hZ (own_w hw 124 rfl) (own_w hw 6 rfl) (by decide) (by decide)) q172a q172c (g := (mkF m 6 #[rv sx] [(.ref sx), (.int (1 : Int32))])) rfl (by rw [hml]; rfl) (argsL := []) (rest := [(.int (1 : Int32))]) (lenOf own_pd8 rfl) rfl (by show 2 * 0 + _ ≤ _; exact Nat.le_of_eq rfl) (hb hby own_d185) rfl e170 (kc := 0) (ks := 0) rfl rfl (by decide) (by decide)
    obtain ⟨rfl, N172q, e172⟩ := hQ172
    have N172 := Fr.app N0 N172q
    refine own_via (mkF m 9 #[rv sx] [(.int (0 : Int32)), (.int (1 : Int32))]) st172 ?_
    refine own_ishr 10 X172 hx (hb hby own_d186) (z := (1 : Int32)) rfl rfl ?_
    exact own_retI X172 hx Bd.returns hlk (hb hby own_d187) (by decide) (by decide) (by rw [e172]; exact ⟨rfl, N172, rfl⟩)
  · subst q
    subst q1
    refine own_aln 1 X0 hx (hb hby own_d181) rfl rfl rfl ?_
    obtain ⟨T173, X173, e173, st173⟩ := getF X0 hx hZ hown (host := "") (Or.inl (own_w hw 35 rfl)) Via.refl e0 Fv (g := (mkF m 1 #[rv sx] [(.ref sx)])) rfl rfl (hb hby own_d182)
    refine own_to (mkF m 4 #[rv sx] [(.ref tx)]) st173 ?_
    obtain ⟨cl174, Ar174, -, S174, M174, -, -⟩ := id Va
    refine own_to (mkF m 5 #[rv sx] [(.int (2 : Int32))]) (by have q := X173.arraylength hx (by rw [e173]; exact Ar174.1) (State.isArrayOf_alike hZ.alike Ar174.2.1) (g := (mkF m 4 #[rv sx] [(.ref tx)])) rfl rfl (hb hby own_d183); rw [len_of S174 M174] at q; exact q) ?_
    refine own_aln 6 X173 hx (hb hby own_d184) rfl rfl rfl ?_
    obtain ⟨cq175, kq175, q175a, q175b, q175c⟩ := isOf hZ e173 E_sx
    obtain ⟨_, T175, Lc175, X175, hQ175, st175⟩ := own_virtual X173 hx (y := (⟨"java/lang/String", "coder", "()B"⟩ : MethodName)) (z := (⟨"java/lang/String", "coder", "()B"⟩ : MethodName)) hown (mvT hZ (own_w hw 120 rfl)) (mvT hZ (own_w hw 121 rfl)) (notFace_of_selects (args := #[]) (mvT hZ (own_w hw 123 rfl))) (mvT hZ (own_w hw 123 rfl)) (mvT hZ (own_w hw 122 rfl)) (by decide) (backOf (W := 1) (own_rmCD_1 l Z a0 hw [] G1 sx h0 n0 (Nat.le_trans Z0 KP.1) OL Fc O2 P5) hZ (own_w hw 124 rfl) (own_w hw 6 rfl) (by decide) (by decide)) q175a q175c (g := (mkF m 6 #[rv sx] [(.ref sx), (.int (2 : Int32))])) rfl (by rw [hml]; rfl) (argsL := []) (rest := [(.int (2 : Int32))]) (lenOf own_pd8 rfl) rfl (by show 2 * 0 + _ ≤ _; exact Nat.le_of_eq rfl) (hb hby own_d185) rfl e173 (kc := 0) (ks := 0) rfl rfl (by decide) (by decide)
    obtain ⟨rfl, N175q, e175⟩ := hQ175
    have N175 := Fr.app N0 N175q
    refine own_via (mkF m 9 #[rv sx] [(.int (1 : Int32)), (.int (2 : Int32))]) st175 ?_
    refine own_ishr 10 X175 hx (hb hby own_d186) (z := (1 : Int32)) rfl rfl ?_
    exact own_retI X175 hx Bd.returns hlk (hb hby own_d187) (by decide) (by decide) (by rw [e175]; exact ⟨rfl, N175, rfl⟩)
def own_QLN_2 (Z : State) (G1 : Int32) (sx tx : Addr) (h0 : Heap) (n0 : Nat) (v : Option Value) (h : Heap) (L : List Loc) : Prop := v = some (.int (2 : Int32)) ∧ Fr n0 L ∧ h = h0
set_option maxRecDepth 65536 in
set_option maxHeartbeats 40000000 in
theorem own_rmLN_2 (l : Launch) (Z : State) (a0 : Array Value) (hw : ∀ d ∈ tables_1, d.before a0 Z = true) (ws : List Jvm.Cond) (G1 : Int32) (sx tx : Addr) (h0 : Heap) (n0 : Nat) (Z0 : n0 ≤ h0.size) (OL : Old Z n0 h0) (SL : own_StrL Z h0 sx tx (2 : Int32) (4 : Int32)) (O2 : Sta Z Z.heap "java/lang/String" "COMPACT_STRINGS" "Z" (.int G1)) (P5 : ¬ (G1 = (0 : Int32))) :
    own_MF l (⟨"java/lang/String", "length", "()I"⟩ : MethodName) (Jvm.Cond.code (⟨"java/lang/String", "length", "()I"⟩ : MethodName) jdk_42_method_54_code 1 (some .int) :: ws) ({ frames := 1, cells := 0, slots := 0, locals := 20 } : Room) #[(.ref sx)] Z h0 (own_QLN_2 Z G1 sx tx h0 n0) := by
  refine MetFree.of_bodySF (plainFor_of_name own_pn0) hisR ?_
  intro p e s m args below meth c s₁ Bd hml0 hP hK
  obtain ⟨rfl, hZ, hh⟩ := hP
  have hx := Bd.exec
  have hby := Bd.bytes
  have hlk : meth.locks = false := BodyLoose.notSynchronized Bd
  have hml : c.maxLocals = 1 := hml0
  have hown : s.vm.findClass "java/lang/String" = some m.cls := findClass_of_methodNamed Bd.named
  have hnm := (name_of_methodNamed Bd.named Bd.method).1
  have X0 : Stand p l e ({ frames := 1, cells := 0, slots := 0, locals := 20 } : Room) s m #[(.ref sx)] below meth c s₁ [] 0 0 := Stand.of_body Bd
  have e0 : s₁.heap = h0 := by rw [← hh, Bd.state]; rfl
  have N0 := Fr.nil n0
  have KP : Keep h0 h0 [] := Keep.refl _ _
  refine own_start (Fin := (own_Fin s (own_QLN_2 Z G1 sx tx h0 n0) ({ frames := 1, cells := 0, slots := 0, locals := 20 } : Room).cells ({ frames := 1, cells := 0, slots := 0, locals := 20 } : Room).slots)) (own_from (mkF m 0 #[rv sx] []) (castTop (own_ef_LN_2 m sx)) ?_)
  obtain ⟨kb, cd, N, vs, ⟨E_sx, Fv, Fc, Va⟩, hor⟩ := SL
  rcases hor with ⟨q1, q⟩ | ⟨q1, q⟩
  · subst q
    subst q1
    refine own_aln 1 X0 hx (hb hby own_d181) rfl rfl rfl ?_
    obtain ⟨T176, X176, e176, st176⟩ := getF X0 hx hZ hown (host := "") (Or.inl (own_w hw 35 rfl)) Via.refl e0 Fv (g := (mkF m 1 #[rv sx] [(.ref sx)])) rfl rfl (hb hby own_d182)
    refine own_to (mkF m 4 #[rv sx] [(.ref tx)]) st176 ?_
    obtain ⟨cl177, Ar177, -, S177, M177, -, -⟩ := id Va
    refine own_to (mkF m 5 #[rv sx] [(.int (2 : Int32))]) (by have q := X176.arraylength hx (by rw [e176]; exact Ar177.1) (State.isArrayOf_alike hZ.alike Ar177.2.1) (g := (mkF m 4 #[rv sx] [(.ref tx)])) rfl rfl (hb hby own_d183); rw [len_of S177 M177] at q; exact q) ?_
    refine own_aln 6 X176 hx (hb hby own_d184) rfl rfl rfl ?_
    obtain ⟨cq178, kq178, q178a, q178b, q178c⟩ := isOf hZ e176 E_sx
    obtain ⟨_, T178, Lc178, X178, hQ178, st178⟩ := own_virtual X176 hx (y := (⟨"java/lang/String", "coder", "()B"⟩ : MethodName)) (z := (⟨"java/lang/String", "coder", "()B"⟩ : MethodName)) hown (mvT hZ (own_w hw 120 rfl)) (mvT hZ (own_w hw 121 rfl)) (notFace_of_selects (args := #[]) (mvT hZ (own_w hw 123 rfl))) (mvT hZ (own_w hw 123 rfl)) (mvT hZ (own_w hw 122 rfl)) (by decide) (backOf (W := 1) (own_rmCD_0 l Z a0 hw [] G1 sx h0 n0 (Nat.le_trans Z0 KP.1) OL Fc O2 P5) hZ (own_w hw 124 rfl) (own_w hw 6 rfl) (by decide) (by decide)) q178a q178c (g := (mkF m 6 #[rv sx] [(.ref sx), (.int (2 : Int32))])) rfl (by rw [hml]; rfl) (argsL := []) (rest := [(.int (2 : Int32))]) (lenOf own_pd8 rfl) rfl (by show 2 * 0 + _ ≤ _; exact Nat.le_of_eq rfl) (hb hby own_d185) rfl e176 (kc := 0) (ks := 0) rfl rfl (by decide) (by decide)
    obtain ⟨rfl, N178q, e178⟩ := hQ178
    have N178 := Fr.app N0 N178q
    refine own_via (mkF m 9 #[rv sx] [(.int (0 : Int32)), (.int (2 : Int32))]) st178 ?_
    refine own_ishr 10 X178 hx (hb hby own_d186) (z := (2 : Int32)) rfl rfl ?_
    exact own_retI X178 hx Bd.returns hlk (hb hby own_d187) (by decide) (by decide) (by rw [e178]; exact ⟨rfl, N178, rfl⟩)
  · subst q
    subst q1
    refine own_aln 1 X0 hx (hb hby own_d181) rfl rfl rfl ?_
    obtain ⟨T179, X179, e179, st179⟩ := getF X0 hx hZ hown (host := "") (Or.inl (own_w hw 35 rfl)) Via.refl e0 Fv (g := (mkF m 1 #[rv sx] [(.ref sx)])) rfl rfl (hb hby own_d182)
    refine own_to (mkF m 4 #[rv sx] [(.ref tx)]) st179 ?_
    obtain ⟨cl180, Ar180, -, S180, M180, -, -⟩ := id Va
    refine own_to (mkF m 5 #[rv sx] [(.int (4 : Int32))]) (by have q := X179.arraylength hx (by rw [e179]; exact Ar180.1) (State.isArrayOf_alike hZ.alike Ar180.2.1) (g := (mkF m 4 #[rv sx] [(.ref tx)])) rfl rfl (hb hby own_d183); rw [len_of S180 M180] at q; exact q) ?_
    refine own_aln 6 X179 hx (hb hby own_d184) rfl rfl rfl ?_
    obtain ⟨cq181, kq181, q181a, q181b, q181c⟩ := isOf hZ e179 E_sx
    obtain ⟨_, T181, Lc181, X181, hQ181, st181⟩ := own_virtual X179 hx (y := (⟨"java/lang/String", "coder", "()B"⟩ : MethodName)) (z := (⟨"java/lang/String", "coder", "()B"⟩ : MethodName)) hown (mvT hZ (own_w hw 120 rfl)) (mvT hZ (own_w hw 121 rfl)) (notFace_of_selects (args := #[]) (mvT hZ (own_w hw 123 rfl))) (mvT hZ (own_w hw 123 rfl)) (mvT hZ (own_w hw 122 rfl)) (by decide) (backOf (W := 1) (own_rmCD_1 l Z a0 hw [] G1 sx h0 n0 (Nat.le_trans Z0 KP.1) OL Fc O2 P5) hZ (own_w hw 124 rfl) (own_w hw 6 rfl) (by decide) (by decide)) q181a q181c (g := (mkF m 6 #[rv sx] [(.ref sx), (.int (4 : Int32))])) rfl (by rw [hml]; rfl) (argsL := []) (rest := [(.int (4 : Int32))]) (lenOf own_pd8 rfl) rfl (by show 2 * 0 + _ ≤ _; exact Nat.le_of_eq rfl) (hb hby own_d185) rfl e179 (kc := 0) (ks := 0) rfl rfl (by decide) (by decide)
    obtain ⟨rfl, N181q, e181⟩ := hQ181
    have N181 := Fr.app N0 N181q
    refine own_via (mkF m 9 #[rv sx] [(.int (1 : Int32)), (.int (4 : Int32))]) st181 ?_
    refine own_ishr 10 X181 hx (hb hby own_d186) (z := (2 : Int32)) rfl rfl ?_
    exact own_retI X181 hx Bd.returns hlk (hb hby own_d187) (by decide) (by decide) (by rw [e181]; exact ⟨rfl, N181, rfl⟩)
def own_QLN_3 (Z : State) (G1 : Int32) (sx tx : Addr) (h0 : Heap) (n0 : Nat) (v : Option Value) (h : Heap) (L : List Loc) : Prop := v = some (.int (3 : Int32)) ∧ Fr n0 L ∧ h = h0
set_option maxRecDepth 65536 in
set_option maxHeartbeats 40000000 in
theorem own_rmLN_3 (l : Launch) (Z : State) (a0 : Array Value) (hw : ∀ d ∈ tables_1, d.before a0 Z = true) (ws : List Jvm.Cond) (G1 : Int32) (sx tx : Addr) (h0 : Heap) (n0 : Nat) (Z0 : n0 ≤ h0.size) (OL : Old Z n0 h0) (SL : own_StrL Z h0 sx tx (3 : Int32) (6 : Int32)) (O2 : Sta Z Z.heap "java/lang/String" "COMPACT_STRINGS" "Z" (.int G1)) (P5 : ¬ (G1 = (0 : Int32))) :
    own_MF l (⟨"java/lang/String", "length", "()I"⟩ : MethodName) (Jvm.Cond.code (⟨"java/lang/String", "length", "()I"⟩ : MethodName) jdk_42_method_54_code 1 (some .int) :: ws) ({ frames := 1, cells := 0, slots := 0, locals := 20 } : Room) #[(.ref sx)] Z h0 (own_QLN_3 Z G1 sx tx h0 n0) := by
  refine MetFree.of_bodySF (plainFor_of_name own_pn0) hisR ?_
  intro p e s m args below meth c s₁ Bd hml0 hP hK
  obtain ⟨rfl, hZ, hh⟩ := hP
  have hx := Bd.exec
  have hby := Bd.bytes
  have hlk : meth.locks = false := BodyLoose.notSynchronized Bd
  have hml : c.maxLocals = 1 := hml0
  have hown : s.vm.findClass "java/lang/String" = some m.cls := findClass_of_methodNamed Bd.named
  have hnm := (name_of_methodNamed Bd.named Bd.method).1
  have X0 : Stand p l e ({ frames := 1, cells := 0, slots := 0, locals := 20 } : Room) s m #[(.ref sx)] below meth c s₁ [] 0 0 := Stand.of_body Bd
  have e0 : s₁.heap = h0 := by rw [← hh, Bd.state]; rfl
  have N0 := Fr.nil n0
  have KP : Keep h0 h0 [] := Keep.refl _ _
  refine own_start (Fin := (own_Fin s (own_QLN_3 Z G1 sx tx h0 n0) ({ frames := 1, cells := 0, slots := 0, locals := 20 } : Room).cells ({ frames := 1, cells := 0, slots := 0, locals := 20 } : Room).slots)) (own_from (mkF m 0 #[rv sx] []) (castTop (own_ef_LN_3 m sx)) ?_)
  obtain ⟨kb, cd, N, vs, ⟨E_sx, Fv, Fc, Va⟩, hor⟩ := SL
  rcases hor with ⟨q1, q⟩ | ⟨q1, q⟩
  · subst q
    subst q1
    refine own_aln 1 X0 hx (hb hby own_d181) rfl rfl rfl ?_
    obtain ⟨T182, X182, e182, st182⟩ := getF X0 hx hZ hown (host := "") (Or.inl (own_w hw 35 rfl)) Via.refl e0 Fv (g := (mkF m 1 #[rv sx] [(.ref sx)])) rfl rfl (hb hby own_d182)
    refine own_to (mkF m 4 #[rv sx] [(.ref tx)]) st182 ?_
    obtain ⟨cl183, Ar183, -, S183, M183, -, -⟩ := id Va
    refine own_to (mkF m 5 #[rv sx] [(.int (3 : Int32))]) (by have q := X182.arraylength hx (by rw [e182]; exact Ar183.1) (State.isArrayOf_alike hZ.alike Ar183.2.1) (g := (mkF m 4 #[rv sx] [(.ref tx)])) rfl rfl (hb hby own_d183); rw [len_of S183 M183] at q; exact q) ?_
    refine own_aln 6 X182 hx (hb hby own_d184) rfl rfl rfl ?_
    obtain ⟨cq184, kq184, q184a, q184b, q184c⟩ := isOf hZ e182 E_sx
    obtain ⟨_, T184, Lc184, X184, hQ184, st184⟩ := own_virtual X182 hx (y := (⟨"java/lang/String", "coder", "()B"⟩ : MethodName)) (z := (⟨"java/lang/String", "coder", "()B"⟩ : MethodName)) hown (mvT hZ (own_w hw 120 rfl)) (mvT hZ (own_w hw 121 rfl)) (notFace_of_selects (args := #[]) (mvT hZ (own_w hw 123 rfl))) (mvT hZ (own_w hw 123 rfl)) (mvT hZ (own_w hw 122 rfl)) (by decide) (backOf (W := 1) (own_rmCD_0 l Z a0 hw [] G1 sx h0 n0 (Nat.le_trans Z0 KP.1) OL Fc O2 P5) hZ (own_w hw 124 rfl) (own_w hw 6 rfl) (by decide) (by decide)) q184a q184c (g := (mkF m 6 #[rv sx] [(.ref sx), (.int (3 : Int32))])) rfl (by rw [hml]; rfl) (argsL := []) (rest := [(.int (3 : Int32))]) (lenOf own_pd8 rfl) rfl (by show 2 * 0 + _ ≤ _; exact Nat.le_of_eq rfl) (hb hby own_d185) rfl e182 (kc := 0) (ks := 0) rfl rfl (by decide) (by decide)
    obtain ⟨rfl, N184q, e184⟩ := hQ184
    have N184 := Fr.app N0 N184q
    refine own_via (mkF m 9 #[rv sx] [(.int (0 : Int32)), (.int (3 : Int32))]) st184 ?_
    refine own_ishr 10 X184 hx (hb hby own_d186) (z := (3 : Int32)) rfl rfl ?_
    exact own_retI X184 hx Bd.returns hlk (hb hby own_d187) (by decide) (by decide) (by rw [e184]; exact ⟨rfl, N184, rfl⟩)
  · subst q
    subst q1
    refine own_aln 1 X0 hx (hb hby own_d181) rfl rfl rfl ?_
    obtain ⟨T185, X185, e185, st185⟩ := getF X0 hx hZ hown (host := "") (Or.inl (own_w hw 35 rfl)) Via.refl e0 Fv (g := (mkF m 1 #[rv sx] [(.ref sx)])) rfl rfl (hb hby own_d182)
    refine own_to (mkF m 4 #[rv sx] [(.ref tx)]) st185 ?_
    obtain ⟨cl186, Ar186, -, S186, M186, -, -⟩ := id Va
    refine own_to (mkF m 5 #[rv sx] [(.int (6 : Int32))]) (by have q := X185.arraylength hx (by rw [e185]; exact Ar186.1) (State.isArrayOf_alike hZ.alike Ar186.2.1) (g := (mkF m 4 #[rv sx] [(.ref tx)])) rfl rfl (hb hby own_d183); rw [len_of S186 M186] at q; exact q) ?_
    refine own_aln 6 X185 hx (hb hby own_d184) rfl rfl rfl ?_
    obtain ⟨cq187, kq187, q187a, q187b, q187c⟩ := isOf hZ e185 E_sx
    obtain ⟨_, T187, Lc187, X187, hQ187, st187⟩ := own_virtual X185 hx (y := (⟨"java/lang/String", "coder", "()B"⟩ : MethodName)) (z := (⟨"java/lang/String", "coder", "()B"⟩ : MethodName)) hown (mvT hZ (own_w hw 120 rfl)) (mvT hZ (own_w hw 121 rfl)) (notFace_of_selects (args := #[]) (mvT hZ (own_w hw 123 rfl))) (mvT hZ (own_w hw 123 rfl)) (mvT hZ (own_w hw 122 rfl)) (by decide) (backOf (W := 1) (own_rmCD_1 l Z a0 hw [] G1 sx h0 n0 (Nat.le_trans Z0 KP.1) OL Fc O2 P5) hZ (own_w hw 124 rfl) (own_w hw 6 rfl) (by decide) (by decide)) q187a q187c (g := (mkF m 6 #[rv sx] [(.ref sx), (.int (6 : Int32))])) rfl (by rw [hml]; rfl) (argsL := []) (rest := [(.int (6 : Int32))]) (lenOf own_pd8 rfl) rfl (by show 2 * 0 + _ ≤ _; exact Nat.le_of_eq rfl) (hb hby own_d185) rfl e185 (kc := 0) (ks := 0) rfl rfl (by decide) (by decide)
    obtain ⟨rfl, N187q, e187⟩ := hQ187
    have N187 := Fr.app N0 N187q
    refine own_via (mkF m 9 #[rv sx] [(.int (1 : Int32)), (.int (6 : Int32))]) st187 ?_
    refine own_ishr 10 X187 hx (hb hby own_d186) (z := (3 : Int32)) rfl rfl ?_
    exact own_retI X187 hx Bd.returns hlk (hb hby own_d187) (by decide) (by decide) (by rw [e187]; exact ⟨rfl, N187, rfl⟩)
def own_QCE1 (Z : State) (x0 : Int32) (h0 : Heap) (n0 : Nat) (v : Option Value) (h : Heap) (L : List Loc) : Prop := v = some (.int 1) ∧ Fr n0 L ∧ h = h0
set_option maxRecDepth 65536 in
set_option maxHeartbeats 40000000 in
theorem own_rmCE1 (l : Launch) (Z : State) (a0 : Array Value) (hw : ∀ d ∈ tables_1, d.before a0 Z = true) (ws : List Jvm.Cond) (x0 : Int32) (h0 : Heap) (n0 : Nat) (Z0 : n0 ≤ h0.size) (OL : Old Z n0 h0) (hc : ¬ ((255 : Int32) < x0)) :
    own_MF l (⟨"java/lang/StringLatin1", "canEncode", "(C)Z"⟩ : MethodName) (Jvm.Cond.code (⟨"java/lang/StringLatin1", "canEncode", "(C)Z"⟩ : MethodName) jdk_43_method_3_code 1 (some .boolean) :: ws) ({ frames := 0, cells := 0, slots := 0, locals := 0 } : Room) #[(.int x0)] Z h0 (own_QCE1 Z x0 h0 n0) := by
  refine MetFree.of_bodySF (plainFor_of_name own_pn2) hisR ?_
  intro p e s m args below meth c s₁ Bd hml0 hP hK
  obtain ⟨rfl, hZ, hh⟩ := hP
  have hx := Bd.exec
  have hby := Bd.bytes
  have hlk : meth.locks = false := BodyLoose.notSynchronized Bd
  have hml : c.maxLocals = 1 := hml0
  have hown : s.vm.findClass "java/lang/StringLatin1" = some m.cls := findClass_of_methodNamed Bd.named
  have hnm := (name_of_methodNamed Bd.named Bd.method).1
  have X0 : Stand p l e ({ frames := 0, cells := 0, slots := 0, locals := 0 } : Room) s m #[(.int x0)] below meth c s₁ [] 0 0 := Stand.of_body Bd
  have e0 : s₁.heap = h0 := by rw [← hh, Bd.state]; rfl
  have N0 := Fr.nil n0
  have KP : Keep h0 h0 [] := Keep.refl _ _
  refine own_start (Fin := (own_Fin s (own_QCE1 Z x0 h0 n0) ({ frames := 0, cells := 0, slots := 0, locals := 0 } : Room).cells ({ frames := 0, cells := 0, slots := 0, locals := 0 } : Room).slots)) (own_from (mkF m 0 #[iv x0] []) (castTop (own_ef_CE1 m x0)) ?_)
  refine own_iln 1 X0 hx (hb hby own_d188) rfl rfl ?_
  refine own_si 4 255 X0 hx (hb hby own_d189) rfl rfl ?_
  refine own_icN 7 X0 hx (hb hby own_d190) (flt hc).2.2.1 rfl ?_
  refine own_ic 8 1 X0 hx (hb hby own_d191) rfl rfl ?_
  refine own_go 12 X0 hx (hb hby own_d192) (by decide) (by decide) ?_
  exact own_retN X0 hx (t := .boolean) Bd.returns (by simp) hlk (hb hby own_d193) (by decide) (by decide) (by rw [e0]; exact ⟨rfl, N0, rfl⟩)
def own_QTB1 (Z : State) (x0 : Int32) (h0 : Heap) (n0 : Nat) (v : Option Value) (h : Heap) (L : List Loc) : Prop := ∃ b : Addr, v = some (.ref b) ∧ Fr n0 L ∧ Keep h0 h []
set_option maxRecDepth 65536 in
set_option maxHeartbeats 40000000 in
theorem own_rmTB1 (l : Launch) (Z : State) (a0 : Array Value) (hw : ∀ d ∈ tables_1, d.before a0 Z = true) (ws : List Jvm.Cond) (x0 : Int32) (h0 : Heap) (n0 : Nat) (Z0 : n0 ≤ h0.size) (OL : Old Z n0 h0)  :
    own_MF l (⟨"java/lang/StringLatin1", "toBytes", "(C)[B"⟩ : MethodName) (Jvm.Cond.code (⟨"java/lang/StringLatin1", "toBytes", "(C)[B"⟩ : MethodName) jdk_43_method_46_code 1 (some (.array .byte)) :: ws) ({ frames := 0, cells := 1, slots := 1, locals := 0 } : Room) #[(.int x0)] Z h0 (own_QTB1 Z x0 h0 n0) := by
  refine MetFree.of_bodySF (plainFor_of_name own_pn2) hisR ?_
  intro p e s m args below meth c s₁ Bd hml0 hP hK
  obtain ⟨rfl, hZ, hh⟩ := hP
  have hx := Bd.exec
  have hby := Bd.bytes
  have hlk : meth.locks = false := BodyLoose.notSynchronized Bd
  have hml : c.maxLocals = 1 := hml0
  have hown : s.vm.findClass "java/lang/StringLatin1" = some m.cls := findClass_of_methodNamed Bd.named
  have hnm := (name_of_methodNamed Bd.named Bd.method).1
  have X0 : Stand p l e ({ frames := 0, cells := 1, slots := 1, locals := 0 } : Room) s m #[(.int x0)] below meth c s₁ [] 0 0 := Stand.of_body Bd
  have e0 : s₁.heap = h0 := by rw [← hh, Bd.state]; rfl
  have N0 := Fr.nil n0
  have KP : Keep h0 h0 [] := Keep.refl _ _
  refine own_start (Fin := (own_Fin s (own_QTB1 Z x0 h0 n0) ({ frames := 0, cells := 1, slots := 1, locals := 0 } : Room).cells ({ frames := 0, cells := 1, slots := 1, locals := 0 } : Room).slots)) (own_from (mkF m 0 #[iv x0] []) (castTop (own_ef_TB1 m x0)) ?_)
  refine own_ic 1 1 X0 hx (hb hby own_d194) rfl rfl ?_
  obtain ⟨T188, h188, k188, X188, e188, E188, A188, B188, st188⟩ := newPE X0 hx hZ (own_w hw 26 rfl) e0 (g := (mkF m 1 #[iv x0] [(.int (1 : Int32))])) rfl (hb hby own_d195) rfl (by decide) (cap := 1) (by decide) (by decide) (by decide) (by decide) (ad := "[B") (by decide)
  obtain ⟨b188, g188⟩ : ∃ z, z = h0.size := ⟨_, rfl⟩
  rw [← g188] at A188 B188 st188
  have sz_b188 : h0.size ≤ b188 := Nat.le_trans KP.1 (Nat.le_of_eq g188.symm)
  have ge_b188 : n0 ≤ b188 := Nat.le_trans Z0 sz_b188
  have OL := OL.ext E188
  have KP := KP.ext E188
  have V_b188 : Arv Z h188 b188 k188 .byte (1 : Int32) [(.int (0 : Int32))] (.int (0 : Int32)) := (Arv.new A188 (by decide)).pad (pad_rep [] (.int (0 : Int32)) 1)
  refine own_to (mkF m 3 #[iv x0] [(.ref b188)]) st188 ?_
  refine own_dup 4 X188 hx (hb hby own_d196) rfl rfl ?_
  refine own_ic 5 0 X188 hx (hb hby own_d197) rfl rfl ?_
  refine own_iln 6 X188 hx (hb hby own_d198) rfl rfl ?_
  refine own_i2b 7 X188 hx (hb hby own_d199) rfl rfl ?_
  obtain ⟨cl189, Ar189, q189, S189, M189, H189, G189⟩ := id V_b188
  obtain ⟨T189, h189, X189, e189, W189, st189⟩ := stB X188 hx hZ e188 Ar189 (j := (0 : Int32)) (inb_of S189 ⟨by decide, by decide⟩) (g := (mkF m 7 #[iv x0] [(.int (x0.toInt8.toInt32)), (.int (0 : Int32)), (.ref b188), (.ref b188)])) rfl rfl (hb hby own_d200)
  refine own_to (mkF m 8 #[iv x0] [(.ref b188)]) st189 ?_
  have N189 := Fr.snoc X189 N0 ge_b188
  have tmp189 : Arv Z h189 b188 k188 .byte (1 : Int32) [(.int ((x0.toInt8.toInt32).toInt8.toInt32))] (.int (0 : Int32)) := Arv.set Ar189 q189 S189 M189 H189 G189 (fits_nar_byte _) W189 0 rfl (Nat.le_of_ble_eq_true rfl)
  rw [own_b8] at tmp189
  have OL := OL.wr W189 ge_b188
  have KP := KP.wr W189 (Or.inr sz_b188)
  have V_b188 := tmp189
  exact own_retA X189 hx Bd.returns rfl hlk (hb hby own_d201) rfl (by decide) (by decide) (by rw [e189]; exact ⟨b188, rfl, N189, KP⟩)
def own_QIB0 (Z : State) (a t : Addr) (h0 : Heap) (n0 : Nat) (v : Option Value) (h : Heap) (L : List Loc) : Prop := v = none ∧ Fr n0 L ∧ Keep h0 h [a]
set_option maxRecDepth 65536 in
set_option maxHeartbeats 40000000 in
theorem own_rmIB0 (l : Launch) (Z : State) (a0 : Array Value) (hw : ∀ d ∈ tables_1, d.before a0 Z = true) (ws : List Jvm.Cond) (a t : Addr) (h0 : Heap) (n0 : Nat) (Z0 : n0 ≤ h0.size) (OL : Old Z n0 h0) (E_a : Exa Z h0 a "java/lang/String") (ge_a : n0 ≤ a) (F_value_a : Fld Z h0 a "java/lang/String" "value" "[B" .null) (F_coder_a : Fld Z h0 a "java/lang/String" "coder" "B" (.int (0 : Int32))) :
    own_MF l (⟨"java/lang/String", "<init>", "([BB)V"⟩ : MethodName) (Jvm.Cond.code (⟨"java/lang/String", "<init>", "([BB)V"⟩ : MethodName) jdk_42_method_151_code 3 none :: ws) ({ frames := 1, cells := 0, slots := 0, locals := 12 } : Room) #[(.ref a), (.ref t), (.int (0 : Int32))] Z h0 (own_QIB0 Z a t h0 n0) := by
  refine MetFree.of_bodySF (plainFor_of_name own_pn0) hisR ?_
  intro p e s m args below meth c s₁ Bd hml0 hP hK
  obtain ⟨rfl, hZ, hh⟩ := hP
  have hx := Bd.exec
  have hby := Bd.bytes
  have hlk : meth.locks = false := BodyLoose.notSynchronized Bd
  have hml : c.maxLocals = 3 := hml0
  have hown : s.vm.findClass "java/lang/String" = some m.cls := findClass_of_methodNamed Bd.named
  have hnm := (name_of_methodNamed Bd.named Bd.method).1
  have X0 : Stand p l e ({ frames := 1, cells := 0, slots := 0, locals := 12 } : Room) s m #[(.ref a), (.ref t), (.int (0 : Int32))] below meth c s₁ [] 0 0 := Stand.of_body Bd
  have e0 : s₁.heap = h0 := by rw [← hh, Bd.state]; rfl
  have N0 := Fr.nil n0
  have KP : Keep h0 h0 [a] := Keep.refl _ _
  refine own_start (Fin := (own_Fin s (own_QIB0 Z a t h0 n0) ({ frames := 1, cells := 0, slots := 0, locals := 12 } : Room).cells ({ frames := 1, cells := 0, slots := 0, locals := 12 } : Room).slots)) (own_from (mkF m 0 #[rv a, rv t, iv 0] []) (castTop (own_ef_IB0 m a t (0 : Int32))) ?_)
  refine own_aln 1 X0 hx (hb hby own_d202) rfl rfl rfl ?_
  obtain ⟨T190, X190, e190, st190⟩ := initO X0 hx hZ hown (own_w hw 18 rfl) (own_w hw 19 rfl) (own_w hw 20 rfl) e0 (g := (mkF m 1 #[rv a, rv t, iv 0] [(.ref a)])) rfl (by rw [hml]; rfl) rfl (hb hby own_d203) (by decide) (W := 0) (by show 2 * 0 + _ ≤ _; exact Nat.le_of_eq rfl) (by decide)
  refine own_to (mkF m 4 #[rv a, rv t, iv 0] []) st190 ?_
  refine own_aln 5 X190 hx (hb hby own_d204) rfl rfl rfl ?_
  refine own_aln 6 X190 hx (hb hby own_d205) rfl rfl rfl ?_
  obtain ⟨T191, h191, X191, e191, W191, st191⟩ := putF X190 hx hZ hown (host := "") (Or.inl (own_w hw 35 rfl)) Via.refl e190 F_value_a E_a (Or.inr ⟨(own_w hw 36 rfl), rfl, hnm⟩) (own_w hw 5 rfl) (ty := (.array .byte)) (by decide) rfl rfl (g := (mkF m 6 #[rv a, rv t, iv 0] [(.ref t), (.ref a)])) rfl rfl (hb hby own_d206)
  refine own_to (mkF m 9 #[rv a, rv t, iv 0] []) st191 ?_
  have N191 := Fr.snoc X191 N0 ge_a
  have tmp191 : Fld Z h191 a "java/lang/String" "value" "[B" (.ref t) := F_value_a.same W191
  have OL := OL.wr W191 ge_a
  have KP := KP.wr W191 (Or.inl (List.mem_of_getElem? (i := 0) rfl))
  have E_a := E_a.wr W191
  have F_coder_a := F_coder_a.other W191 (Or.inr (slot_ne (Or.inr (own_w hw 34 rfl)) (Or.inr (own_w hw 36 rfl)) (by decide) (t := .byte) (t' := (.array .byte)) (by decide) (by decide)))
  have F_value_a := tmp191
  refine own_aln 10 X191 hx (hb hby own_d207) rfl rfl rfl ?_
  refine own_iln 11 X191 hx (hb hby own_d208) rfl rfl ?_
  obtain ⟨T192, h192, X192, e192, W192, st192⟩ := putFN X191 hx hZ hown (own_w hw 33 rfl) Via.refl e191 F_coder_a E_a (Or.inr ⟨(own_w hw 34 rfl), rfl, hnm⟩) (own_w hw 5 rfl) (ty := .byte) (v' := (.int (0 : Int32))) (by decide) rfl rfl (g := (mkF m 11 #[rv a, rv t, iv 0] [(.int (0 : Int32)), (.ref a)])) rfl rfl (hb hby own_d209)
  refine own_to (mkF m 14 #[rv a, rv t, iv 0] []) st192 ?_
  have N192 := Fr.snoc X192 N191 ge_a
  have tmp192 : Fld Z h192 a "java/lang/String" "coder" "B" (.int (0 : Int32)) := F_coder_a.same W192
  have OL := OL.wr W192 ge_a
  have KP := KP.wr W192 (Or.inl (List.mem_of_getElem? (i := 0) rfl))
  have E_a := E_a.wr W192
  have F_value_a := F_value_a.other W192 (Or.inr (slot_ne (Or.inr (own_w hw 36 rfl)) (Or.inr (own_w hw 34 rfl)) (by decide) (t := (.array .byte)) (t' := .byte) (by decide) (by decide)))
  have F_coder_a := tmp192
  exact own_ret0 X192 hx Bd.returns hlk (hb hby own_d210) (by decide) (by decide) (by rw [e192]; exact ⟨rfl, N192, KP⟩)
def own_QVO (Z : State) (x0 G1 : Int32) (h0 : Heap) (n0 : Nat) (v : Option Value) (h : Heap) (L : List Loc) : Prop := ∃ b : Addr, v = some (.ref b) ∧ Fr n0 L ∧ Keep h0 h []
set_option maxRecDepth 65536 in
set_option maxHeartbeats 40000000 in
theorem own_rmVO (l : Launch) (Z : State) (a0 : Array Value) (hw : ∀ d ∈ tables_1, d.before a0 Z = true) (ws : List Jvm.Cond) (x0 G1 : Int32) (h0 : Heap) (n0 : Nat) (Z0 : n0 ≤ h0.size) (OL : Old Z n0 h0) (hc : ¬ ((255 : Int32) < x0)) (O2 : Sta Z Z.heap "java/lang/String" "COMPACT_STRINGS" "Z" (.int G1)) (P5 : ¬ (G1 = (0 : Int32))) :
    own_MF l (⟨"java/lang/String", "valueOf", "(C)Ljava/lang/String;"⟩ : MethodName) (Jvm.Cond.code (⟨"java/lang/String", "valueOf", "(C)Ljava/lang/String;"⟩ : MethodName) jdk_42_method_139_code 1 (some (.object "java/lang/String")) :: ws) ({ frames := 3, cells := 2, slots := 6, locals := 50 } : Room) #[(.int x0)] Z h0 (own_QVO Z x0 G1 h0 n0) := by
  refine MetFree.of_bodySF (plainFor_of_name own_pn0) hisR ?_
  intro p e s m args below meth c s₁ Bd hml0 hP hK
  obtain ⟨rfl, hZ, hh⟩ := hP
  have hx := Bd.exec
  have hby := Bd.bytes
  have hlk : meth.locks = false := BodyLoose.notSynchronized Bd
  have hml : c.maxLocals = 1 := hml0
  have hown : s.vm.findClass "java/lang/String" = some m.cls := findClass_of_methodNamed Bd.named
  have hnm := (name_of_methodNamed Bd.named Bd.method).1
  have X0 : Stand p l e ({ frames := 3, cells := 2, slots := 6, locals := 50 } : Room) s m #[(.int x0)] below meth c s₁ [] 0 0 := Stand.of_body Bd
  have e0 : s₁.heap = h0 := by rw [← hh, Bd.state]; rfl
  have N0 := Fr.nil n0
  have KP : Keep h0 h0 [] := Keep.refl _ _
  refine own_start (Fin := (own_Fin s (own_QVO Z x0 G1 h0 n0) ({ frames := 3, cells := 2, slots := 6, locals := 50 } : Room).cells ({ frames := 3, cells := 2, slots := 6, locals := 50 } : Room).slots)) (own_from (mkF m 0 #[iv x0] []) (castTop (own_ef_VO m x0)) ?_)
  obtain ⟨T193, X193, e193, st193⟩ := getS2 X0 hx hZ hown (host := "") (Or.inl (own_w hw 21 rfl)) Via.refl e0 (O2.ext OL.2) (g := (mkF m 0 #[iv x0] [])) rfl (hb hby own_d211)
  refine own_to (mkF m 3 #[iv x0] [(.int G1)]) st193 ?_
  refine own_ifN 6 X193 hx (hb hby own_d212) ((if0 _ _).trans (feq P5).1) rfl ?_
  refine own_iln 7 X193 hx (hb hby own_d213) rfl rfl ?_
  obtain ⟨_, T194, Lc194, X194, hQ194, st194⟩ := own_callS X193 hx (y := (⟨"java/lang/StringLatin1", "canEncode", "(C)Z"⟩ : MethodName)) hown (mvT hZ (own_w hw 44 rfl)) (mvT hZ (own_w hw 45 rfl)) (mvT hZ (own_w hw 46 rfl)) (mvT hZ (own_w hw 47 rfl)) (by decide) (backOf (W := 0) (own_rmCE1 l Z a0 hw [] x0 h0 n0 (Nat.le_trans Z0 KP.1) OL hc) hZ (own_w hw 47 rfl) (own_w hw 46 rfl) (by decide) (by decide)) (g := (mkF m 7 #[iv x0] [(.int x0)])) rfl (by rw [hml]; rfl) (argsL := [(.int x0)]) (rest := []) (lenOf own_pd9 rfl) rfl (by show 2 * 0 + _ ≤ _; exact Nat.le_of_eq rfl) (hb hby own_d214) rfl e193 (kc := 0) (ks := 0) rfl rfl (by decide) (by decide)
  obtain ⟨rfl, N194q, e194⟩ := hQ194
  have N194 := Fr.app N0 N194q
  refine own_to (mkF m 10 #[iv x0] [(.int (1 : Int32))]) st194 ?_
  refine own_ifN 13 X194 hx (hb hby own_d215) ((if0 _ _).trans (feq (by decide : ¬ ((1 : Int32) = (0 : Int32)))).1) rfl ?_
  obtain ⟨T195, h195, X195, e195, E195, A195, D195, -, st195⟩ := newO X194 hx hZ hown (own_w hw 48 rfl) (own_w hw 5 rfl) (own_w hw 6 rfl) e194 (g := (mkF m 13 #[iv x0] [])) rfl (hb hby own_d216) (by decide) (by decide)
  obtain ⟨b195, g195⟩ : ∃ z, z = h0.size := ⟨_, rfl⟩
  rw [← g195] at A195 D195 st195
  have sz_b195 : h0.size ≤ b195 := Nat.le_trans KP.1 (Nat.le_of_eq g195.symm)
  have ge_b195 : n0 ≤ b195 := Nat.le_trans Z0 sz_b195
  have OL := OL.ext E195
  have KP := KP.ext E195
  have E_b195 : Exa Z h195 b195 "java/lang/String" := A195
  have F_coder_b195 : Fld Z h195 b195 "java/lang/String" "coder" "B" (.int (0 : Int32)) := D195 (Or.inr (own_w hw 34 rfl)) (ty := .byte) (by decide)
  have F_value_b195 : Fld Z h195 b195 "java/lang/String" "value" "[B" .null := D195 (Or.inr (own_w hw 36 rfl)) (ty := (.array .byte)) (by decide)
  refine own_to (mkF m 16 #[iv x0] [(.ref b195)]) st195 ?_
  refine own_dup 17 X195 hx (hb hby own_d217) rfl rfl ?_
  refine own_iln 18 X195 hx (hb hby own_d218) rfl rfl ?_
  obtain ⟨_, T196, Lc196, X196, hQ196, st196⟩ := own_callS X195 hx (y := (⟨"java/lang/StringLatin1", "toBytes", "(C)[B"⟩ : MethodName)) hown (mvT hZ (own_w hw 49 rfl)) (mvT hZ (own_w hw 50 rfl)) (mvT hZ (own_w hw 46 rfl)) (mvT hZ (own_w hw 51 rfl)) (by decide) (backOf (W := 2) (own_rmTB1 l Z a0 hw [] x0 h195 n0 (Nat.le_trans Z0 KP.1) OL) hZ (own_w hw 51 rfl) (own_w hw 46 rfl) (by decide) (by decide)) (g := (mkF m 18 #[iv x0] [(.int x0), (.ref b195), (.ref b195)])) rfl (by rw [hml]; rfl) (argsL := [(.int x0)]) (rest := [(.ref b195), (.ref b195)]) (lenOf own_pd10 rfl) rfl (by show 2 * 0 + _ ≤ _; exact Nat.le_of_eq rfl) (hb hby own_d219) rfl e195 (kc := 2) (ks := 5) rfl rfl (by decide) (by decide)
  obtain ⟨t196, rfl, N196q, K196⟩ := hQ196
  have N196 := Fr.app N194 N196q
  have OL := OL.keep K196 all0
  have KP := KP.trans K196 all0
  have E_b195 := E_b195.keep K196
  have F_coder_b195 := F_coder_b195.keep K196 nin0
  have F_value_b195 := F_value_b195.keep K196 nin0
  refine own_to (mkF m 21 #[iv x0] [(.ref t196), (.ref b195), (.ref b195)]) st196 ?_
  refine own_ic 22 0 X196 hx (hb hby own_d220) rfl rfl ?_
  obtain ⟨_, T197, Lc197, X197, hQ197, st197⟩ := own_special X196 hx (y := (⟨"java/lang/String", "<init>", "([BB)V"⟩ : MethodName)) rfl hown (mvT hZ (own_w hw 52 rfl)) (mvT hZ (own_w hw 53 rfl)) (mvT hZ (own_w hw 54 rfl)) (by decide) (backOf (W := 1) (own_rmIB0 l Z a0 hw [] b195 t196 T196.heap n0 (Nat.le_trans Z0 KP.1) OL E_b195 ge_b195 F_value_b195 F_coder_b195) hZ (own_w hw 54 rfl) (own_w hw 6 rfl) (by decide) (by decide)) (g := (mkF m 22 #[iv x0] [(.int (0 : Int32)), (.ref t196), (.ref b195), (.ref b195)])) rfl (by rw [hml]; rfl) (a := b195) (argsL := [(.ref t196), (.int (0 : Int32))]) (rest := [(.ref b195)]) (lenOf own_pd11 rfl) rfl (by show 2 * 0 + _ ≤ _; exact Nat.le_of_eq rfl) (hb hby own_d221) rfl rfl (kc := 2) (ks := 5) rfl rfl (by decide) (by decide)
  obtain ⟨rfl, N197q, K197⟩ := hQ197
  have N197 := Fr.app N196 N197q
  have OL := OL.keep K197 (allS ge_b195 all0)
  have KP := KP.trans K197 (allS (Or.inr sz_b195) all0)
  have E_b195 := E_b195.keep K197
  refine own_via (mkF m 25 #[iv x0] [(.ref b195)]) st197 ?_
  exact own_retA X197 hx Bd.returns rfl hlk (hb hby own_d222) rfl (by decide) (by decide) (by exact ⟨b195, rfl, N197, KP⟩)
def own_QIH (Z : State) (cc : Int32) (h0 : Heap) (n0 : Nat) (v : Option Value) (h : Heap) (L : List Loc) : Prop := Fr n0 L ∧ h = h0 ∧ ((v = some (.int 1) ∧ own_hs cc) ∨ (v = some (.int 0) ∧ ¬ own_hs cc))
set_option maxRecDepth 65536 in
set_option maxHeartbeats 40000000 in
theorem own_rmIH (l : Launch) (Z : State) (a0 : Array Value) (hw : ∀ d ∈ tables_1, d.before a0 Z = true) (ws : List Jvm.Cond) (cc : Int32) (h0 : Heap) (n0 : Nat) (Z0 : n0 ≤ h0.size) (OL : Old Z n0 h0)  :
    own_MF l (⟨"com/example/ianus/ianus/TokenFollowsPinLaw", "isHigh", "(C)Z"⟩ : MethodName) (Jvm.Cond.code (⟨"com/example/ianus/ianus/TokenFollowsPinLaw", "isHigh", "(C)Z"⟩ : MethodName) method_3_code 1 (some .boolean) :: ws) ({ frames := 0, cells := 0, slots := 0, locals := 0 } : Room) #[(.int cc)] Z h0 (own_QIH Z cc h0 n0) := by
  refine MetFree.of_bodySF (plainFor_of_name own_pn3) hisR ?_
  intro p e s m args below meth c s₁ Bd hml0 hP hK
  obtain ⟨rfl, hZ, hh⟩ := hP
  have hx := Bd.exec
  have hby := Bd.bytes
  have hlk : meth.locks = false := BodyLoose.notSynchronized Bd
  have hml : c.maxLocals = 1 := hml0
  have hown : s.vm.findClass "com/example/ianus/ianus/TokenFollowsPinLaw" = some m.cls := findClass_of_methodNamed Bd.named
  have hnm := (name_of_methodNamed Bd.named Bd.method).1
  have X0 : Stand p l e ({ frames := 0, cells := 0, slots := 0, locals := 0 } : Room) s m #[(.int cc)] below meth c s₁ [] 0 0 := Stand.of_body Bd
  have e0 : s₁.heap = h0 := by rw [← hh, Bd.state]; rfl
  have N0 := Fr.nil n0
  have KP : Keep h0 h0 [] := Keep.refl _ _
  refine own_start (Fin := (own_Fin s (own_QIH Z cc h0 n0) ({ frames := 0, cells := 0, slots := 0, locals := 0 } : Room).cells ({ frames := 0, cells := 0, slots := 0, locals := 0 } : Room).slots)) (own_from (mkF m 0 #[iv cc] []) (castTop (own_ef_IH m cc)) ?_)
  refine own_iln 1 X0 hx (hb hby own_d223) rfl rfl ?_
  refine own_to (mkF m 3 #[iv cc] [(.int (55296 : Int32)), (.int cc)]) (X0.ldcInt hx hown (mvT hZ (own_w hw 40 rfl)) (g := (mkF m 1 #[iv cc] [(.int cc)])) rfl (hb hby own_d224)) ?_
  by_cases h1 : cc < (55296 : Int32)
  · refine own_icY 16 X0 hx (hb hby own_d225) (tlt h1).1 (by decide) (by decide) ?_
    refine own_ic 17 0 X0 hx (hb hby own_d226) rfl rfl ?_
    exact own_retN X0 hx (t := .boolean) Bd.returns (by simp) hlk (hb hby own_d227) (by decide) (by decide) (by rw [e0]; exact ⟨N0, rfl, Or.inr ⟨rfl, fun q => q.1 h1⟩⟩)
  · refine own_icN 6 X0 hx (hb hby own_d225) (flt h1).1 rfl ?_
    refine own_iln 7 X0 hx (hb hby own_d228) rfl rfl ?_
    refine own_to (mkF m 9 #[iv cc] [(.int (56319 : Int32)), (.int cc)]) (X0.ldcInt hx hown (mvT hZ (own_w hw 103 rfl)) (g := (mkF m 7 #[iv cc] [(.int cc)])) rfl (hb hby own_d229)) ?_
    by_cases h2 : (56319 : Int32) < cc
    · refine own_icY 16 X0 hx (hb hby own_d230) (tlt h2).2.2.1 (by decide) (by decide) ?_
      refine own_ic 17 0 X0 hx (hb hby own_d226) rfl rfl ?_
      exact own_retN X0 hx (t := .boolean) Bd.returns (by simp) hlk (hb hby own_d227) (by decide) (by decide) (by rw [e0]; exact ⟨N0, rfl, Or.inr ⟨rfl, fun q => own_ngIH h2 q.2⟩⟩)
    · refine own_icN 12 X0 hx (hb hby own_d230) (flt h2).2.2.1 rfl ?_
      refine own_ic 13 1 X0 hx (hb hby own_d231) rfl rfl ?_
      refine own_go 17 X0 hx (hb hby own_d232) (by decide) (by decide) ?_
      exact own_retN X0 hx (t := .boolean) Bd.returns (by simp) hlk (hb hby own_d227) (by decide) (by decide) (by rw [e0]; exact ⟨N0, rfl, Or.inl ⟨rfl, h1, (own_gtIH h2)⟩⟩)
def own_QIL (Z : State) (cc : Int32) (h0 : Heap) (n0 : Nat) (v : Option Value) (h : Heap) (L : List Loc) : Prop := Fr n0 L ∧ h = h0 ∧ ((v = some (.int 1) ∧ own_ls cc) ∨ (v = some (.int 0) ∧ ¬ own_ls cc))
set_option maxRecDepth 65536 in
set_option maxHeartbeats 40000000 in
theorem own_rmIL (l : Launch) (Z : State) (a0 : Array Value) (hw : ∀ d ∈ tables_1, d.before a0 Z = true) (ws : List Jvm.Cond) (cc : Int32) (h0 : Heap) (n0 : Nat) (Z0 : n0 ≤ h0.size) (OL : Old Z n0 h0)  :
    own_MF l (⟨"com/example/ianus/ianus/TokenFollowsPinLaw", "isLow", "(C)Z"⟩ : MethodName) (Jvm.Cond.code (⟨"com/example/ianus/ianus/TokenFollowsPinLaw", "isLow", "(C)Z"⟩ : MethodName) method_4_code 1 (some .boolean) :: ws) ({ frames := 0, cells := 0, slots := 0, locals := 0 } : Room) #[(.int cc)] Z h0 (own_QIL Z cc h0 n0) := by
  refine MetFree.of_bodySF (plainFor_of_name own_pn3) hisR ?_
  intro p e s m args below meth c s₁ Bd hml0 hP hK
  obtain ⟨rfl, hZ, hh⟩ := hP
  have hx := Bd.exec
  have hby := Bd.bytes
  have hlk : meth.locks = false := BodyLoose.notSynchronized Bd
  have hml : c.maxLocals = 1 := hml0
  have hown : s.vm.findClass "com/example/ianus/ianus/TokenFollowsPinLaw" = some m.cls := findClass_of_methodNamed Bd.named
  have hnm := (name_of_methodNamed Bd.named Bd.method).1
  have X0 : Stand p l e ({ frames := 0, cells := 0, slots := 0, locals := 0 } : Room) s m #[(.int cc)] below meth c s₁ [] 0 0 := Stand.of_body Bd
  have e0 : s₁.heap = h0 := by rw [← hh, Bd.state]; rfl
  have N0 := Fr.nil n0
  have KP : Keep h0 h0 [] := Keep.refl _ _
  refine own_start (Fin := (own_Fin s (own_QIL Z cc h0 n0) ({ frames := 0, cells := 0, slots := 0, locals := 0 } : Room).cells ({ frames := 0, cells := 0, slots := 0, locals := 0 } : Room).slots)) (own_from (mkF m 0 #[iv cc] []) (castTop (own_ef_IL m cc)) ?_)
  refine own_iln 1 X0 hx (hb hby own_d233) rfl rfl ?_
  refine own_to (mkF m 3 #[iv cc] [(.int (56320 : Int32)), (.int cc)]) (X0.ldcInt hx hown (mvT hZ (own_w hw 83 rfl)) (g := (mkF m 1 #[iv cc] [(.int cc)])) rfl (hb hby own_d234)) ?_
  by_cases h1 : cc < (56320 : Int32)
  · refine own_icY 16 X0 hx (hb hby own_d235) (tlt h1).1 (by decide) (by decide) ?_
    refine own_ic 17 0 X0 hx (hb hby own_d236) rfl rfl ?_
    exact own_retN X0 hx (t := .boolean) Bd.returns (by simp) hlk (hb hby own_d237) (by decide) (by decide) (by rw [e0]; exact ⟨N0, rfl, Or.inr ⟨rfl, fun q => q.1 h1⟩⟩)
  · refine own_icN 6 X0 hx (hb hby own_d235) (flt h1).1 rfl ?_
    refine own_iln 7 X0 hx (hb hby own_d238) rfl rfl ?_
    refine own_to (mkF m 9 #[iv cc] [(.int (57343 : Int32)), (.int cc)]) (X0.ldcInt hx hown (mvT hZ (own_w hw 107 rfl)) (g := (mkF m 7 #[iv cc] [(.int cc)])) rfl (hb hby own_d239)) ?_
    by_cases h2 : (57343 : Int32) < cc
    · refine own_icY 16 X0 hx (hb hby own_d240) (tlt h2).2.2.1 (by decide) (by decide) ?_
      refine own_ic 17 0 X0 hx (hb hby own_d236) rfl rfl ?_
      exact own_retN X0 hx (t := .boolean) Bd.returns (by simp) hlk (hb hby own_d237) (by decide) (by decide) (by rw [e0]; exact ⟨N0, rfl, Or.inr ⟨rfl, fun q => own_ngIL h2 q.2⟩⟩)
    · refine own_icN 12 X0 hx (hb hby own_d240) (flt h2).2.2.1 rfl ?_
      refine own_ic 13 1 X0 hx (hb hby own_d241) rfl rfl ?_
      refine own_go 17 X0 hx (hb hby own_d242) (by decide) (by decide) ?_
      exact own_retN X0 hx (t := .boolean) Bd.returns (by simp) hlk (hb hby own_d237) (by decide) (by decide) (by rw [e0]; exact ⟨N0, rfl, Or.inl ⟨rfl, h1, (own_gtIL h2)⟩⟩)
def own_QHS (Z : State) (cc : Int32) (h0 : Heap) (n0 : Nat) (v : Option Value) (h : Heap) (L : List Loc) : Prop := Fr n0 L ∧ h = h0 ∧ ((v = some (.int 1) ∧ own_hs cc) ∨ (v = some (.int 0) ∧ ¬ own_hs cc))
set_option maxRecDepth 65536 in
set_option maxHeartbeats 40000000 in
theorem own_rmHS (l : Launch) (Z : State) (a0 : Array Value) (hw : ∀ d ∈ tables_1, d.before a0 Z = true) (ws : List Jvm.Cond) (cc : Int32) (h0 : Heap) (n0 : Nat) (Z0 : n0 ≤ h0.size) (OL : Old Z n0 h0)  :
    own_MF l (⟨"java/lang/Character", "isHighSurrogate", "(C)Z"⟩ : MethodName) (Jvm.Cond.code (⟨"java/lang/Character", "isHighSurrogate", "(C)Z"⟩ : MethodName) jdk_89_method_14_code 1 (some .boolean) :: ws) ({ frames := 0, cells := 0, slots := 0, locals := 0 } : Room) #[(.int cc)] Z h0 (own_QHS Z cc h0 n0) := by
  refine MetFree.of_bodySF (plainFor_of_name own_pn4) hisR ?_
  intro p e s m args below meth c s₁ Bd hml0 hP hK
  obtain ⟨rfl, hZ, hh⟩ := hP
  have hx := Bd.exec
  have hby := Bd.bytes
  have hlk : meth.locks = false := BodyLoose.notSynchronized Bd
  have hml : c.maxLocals = 1 := hml0
  have hown : s.vm.findClass "java/lang/Character" = some m.cls := findClass_of_methodNamed Bd.named
  have hnm := (name_of_methodNamed Bd.named Bd.method).1
  have X0 : Stand p l e ({ frames := 0, cells := 0, slots := 0, locals := 0 } : Room) s m #[(.int cc)] below meth c s₁ [] 0 0 := Stand.of_body Bd
  have e0 : s₁.heap = h0 := by rw [← hh, Bd.state]; rfl
  have N0 := Fr.nil n0
  have KP : Keep h0 h0 [] := Keep.refl _ _
  refine own_start (Fin := (own_Fin s (own_QHS Z cc h0 n0) ({ frames := 0, cells := 0, slots := 0, locals := 0 } : Room).cells ({ frames := 0, cells := 0, slots := 0, locals := 0 } : Room).slots)) (own_from (mkF m 0 #[iv cc] []) (castTop (own_ef_HS m cc)) ?_)
  refine own_iln 1 X0 hx (hb hby own_d243) rfl rfl ?_
  refine own_to (mkF m 3 #[iv cc] [(.int (55296 : Int32)), (.int cc)]) (X0.ldcInt hx hown (mvT hZ (own_w hw 155 rfl)) (g := (mkF m 1 #[iv cc] [(.int cc)])) rfl (hb hby own_d244)) ?_
  by_cases h1 : cc < (55296 : Int32)
  · refine own_icY 16 X0 hx (hb hby own_d245) (tlt h1).1 (by decide) (by decide) ?_
    refine own_ic 17 0 X0 hx (hb hby own_d246) rfl rfl ?_
    exact own_retN X0 hx (t := .boolean) Bd.returns (by simp) hlk (hb hby own_d247) (by decide) (by decide) (by rw [e0]; exact ⟨N0, rfl, Or.inr ⟨rfl, fun q => q.1 h1⟩⟩)
  · refine own_icN 6 X0 hx (hb hby own_d245) (flt h1).1 rfl ?_
    refine own_iln 7 X0 hx (hb hby own_d248) rfl rfl ?_
    refine own_to (mkF m 9 #[iv cc] [(.int (56320 : Int32)), (.int cc)]) (X0.ldcInt hx hown (mvT hZ (own_w hw 156 rfl)) (g := (mkF m 7 #[iv cc] [(.int cc)])) rfl (hb hby own_d249)) ?_
    by_cases h2 : cc < (56320 : Int32)
    · refine own_icN 12 X0 hx (hb hby own_d250) (tlt h2).2.1 rfl ?_
      refine own_ic 13 1 X0 hx (hb hby own_d251) rfl rfl ?_
      refine own_go 17 X0 hx (hb hby own_d252) (by decide) (by decide) ?_
      exact own_retN X0 hx (t := .boolean) Bd.returns (by simp) hlk (hb hby own_d247) (by decide) (by decide) (by rw [e0]; exact ⟨N0, rfl, Or.inl ⟨rfl, h1, h2⟩⟩)
    · refine own_icY 16 X0 hx (hb hby own_d250) (flt h2).2.1 (by decide) (by decide) ?_
      refine own_ic 17 0 X0 hx (hb hby own_d246) rfl rfl ?_
      exact own_retN X0 hx (t := .boolean) Bd.returns (by simp) hlk (hb hby own_d247) (by decide) (by decide) (by rw [e0]; exact ⟨N0, rfl, Or.inr ⟨rfl, fun q => h2 q.2⟩⟩)
def own_QLS (Z : State) (cc : Int32) (h0 : Heap) (n0 : Nat) (v : Option Value) (h : Heap) (L : List Loc) : Prop := Fr n0 L ∧ h = h0 ∧ ((v = some (.int 1) ∧ own_ls cc) ∨ (v = some (.int 0) ∧ ¬ own_ls cc))
set_option maxRecDepth 65536 in
set_option maxHeartbeats 40000000 in
theorem own_rmLS (l : Launch) (Z : State) (a0 : Array Value) (hw : ∀ d ∈ tables_1, d.before a0 Z = true) (ws : List Jvm.Cond) (cc : Int32) (h0 : Heap) (n0 : Nat) (Z0 : n0 ≤ h0.size) (OL : Old Z n0 h0)  :
    own_MF l (⟨"java/lang/Character", "isLowSurrogate", "(C)Z"⟩ : MethodName) (Jvm.Cond.code (⟨"java/lang/Character", "isLowSurrogate", "(C)Z"⟩ : MethodName) jdk_89_method_15_code 1 (some .boolean) :: ws) ({ frames := 0, cells := 0, slots := 0, locals := 0 } : Room) #[(.int cc)] Z h0 (own_QLS Z cc h0 n0) := by
  refine MetFree.of_bodySF (plainFor_of_name own_pn4) hisR ?_
  intro p e s m args below meth c s₁ Bd hml0 hP hK
  obtain ⟨rfl, hZ, hh⟩ := hP
  have hx := Bd.exec
  have hby := Bd.bytes
  have hlk : meth.locks = false := BodyLoose.notSynchronized Bd
  have hml : c.maxLocals = 1 := hml0
  have hown : s.vm.findClass "java/lang/Character" = some m.cls := findClass_of_methodNamed Bd.named
  have hnm := (name_of_methodNamed Bd.named Bd.method).1
  have X0 : Stand p l e ({ frames := 0, cells := 0, slots := 0, locals := 0 } : Room) s m #[(.int cc)] below meth c s₁ [] 0 0 := Stand.of_body Bd
  have e0 : s₁.heap = h0 := by rw [← hh, Bd.state]; rfl
  have N0 := Fr.nil n0
  have KP : Keep h0 h0 [] := Keep.refl _ _
  refine own_start (Fin := (own_Fin s (own_QLS Z cc h0 n0) ({ frames := 0, cells := 0, slots := 0, locals := 0 } : Room).cells ({ frames := 0, cells := 0, slots := 0, locals := 0 } : Room).slots)) (own_from (mkF m 0 #[iv cc] []) (castTop (own_ef_LS m cc)) ?_)
  refine own_iln 1 X0 hx (hb hby own_d253) rfl rfl ?_
  refine own_to (mkF m 3 #[iv cc] [(.int (56320 : Int32)), (.int cc)]) (X0.ldcInt hx hown (mvT hZ (own_w hw 156 rfl)) (g := (mkF m 1 #[iv cc] [(.int cc)])) rfl (hb hby own_d254)) ?_
  by_cases h1 : cc < (56320 : Int32)
  · refine own_icY 16 X0 hx (hb hby own_d255) (tlt h1).1 (by decide) (by decide) ?_
    refine own_ic 17 0 X0 hx (hb hby own_d256) rfl rfl ?_
    exact own_retN X0 hx (t := .boolean) Bd.returns (by simp) hlk (hb hby own_d257) (by decide) (by decide) (by rw [e0]; exact ⟨N0, rfl, Or.inr ⟨rfl, fun q => q.1 h1⟩⟩)
  · refine own_icN 6 X0 hx (hb hby own_d255) (flt h1).1 rfl ?_
    refine own_iln 7 X0 hx (hb hby own_d258) rfl rfl ?_
    refine own_to (mkF m 9 #[iv cc] [(.int (57344 : Int32)), (.int cc)]) (X0.ldcInt hx hown (mvT hZ (own_w hw 162 rfl)) (g := (mkF m 7 #[iv cc] [(.int cc)])) rfl (hb hby own_d259)) ?_
    by_cases h2 : cc < (57344 : Int32)
    · refine own_icN 12 X0 hx (hb hby own_d260) (tlt h2).2.1 rfl ?_
      refine own_ic 13 1 X0 hx (hb hby own_d261) rfl rfl ?_
      refine own_go 17 X0 hx (hb hby own_d262) (by decide) (by decide) ?_
      exact own_retN X0 hx (t := .boolean) Bd.returns (by simp) hlk (hb hby own_d257) (by decide) (by decide) (by rw [e0]; exact ⟨N0, rfl, Or.inl ⟨rfl, h1, h2⟩⟩)
    · refine own_icY 16 X0 hx (hb hby own_d260) (flt h2).2.1 (by decide) (by decide) ?_
      refine own_ic 17 0 X0 hx (hb hby own_d256) rfl rfl ?_
      exact own_retN X0 hx (t := .boolean) Bd.returns (by simp) hlk (hb hby own_d257) (by decide) (by decide) (by rw [e0]; exact ⟨N0, rfl, Or.inr ⟨rfl, fun q => h2 q.2⟩⟩)
def own_QDR (Z : State) (kk vv : Int32) (h0 : Heap) (n0 : Nat) (v : Option Value) (h : Heap) (L : List Loc) : Prop := ∃ r : Int32, v = some (.int r) ∧ own_C16 r ∧ Fr n0 L ∧ h = h0
set_option maxRecDepth 65536 in
set_option maxHeartbeats 40000000 in
theorem own_rmDR (l : Launch) (Z : State) (a0 : Array Value) (hw : ∀ d ∈ tables_1, d.before a0 Z = true) (ws : List Jvm.Cond) (kk vv : Int32) (h0 : Heap) (n0 : Nat) (Z0 : n0 ≤ h0.size) (OL : Old Z n0 h0)  :
    own_MF l (⟨"com/example/ianus/ianus/TokenFollowsPinLaw", "draw", "(II)C"⟩ : MethodName) (Jvm.Cond.code (⟨"com/example/ianus/ianus/TokenFollowsPinLaw", "draw", "(II)C"⟩ : MethodName) method_5_code 2 (some .char) :: ws) ({ frames := 0, cells := 0, slots := 0, locals := 0 } : Room) #[(.int kk), (.int vv)] Z h0 (own_QDR Z kk vv h0 n0) := by
  refine MetFree.of_bodySF (plainFor_of_name own_pn3) hisR ?_
  intro p e s m args below meth c s₁ Bd hml0 hP hK
  obtain ⟨rfl, hZ, hh⟩ := hP
  have hx := Bd.exec
  have hby := Bd.bytes
  have hlk : meth.locks = false := BodyLoose.notSynchronized Bd
  have hml : c.maxLocals = 2 := hml0
  have hown : s.vm.findClass "com/example/ianus/ianus/TokenFollowsPinLaw" = some m.cls := findClass_of_methodNamed Bd.named
  have hnm := (name_of_methodNamed Bd.named Bd.method).1
  have X0 : Stand p l e ({ frames := 0, cells := 0, slots := 0, locals := 0 } : Room) s m #[(.int kk), (.int vv)] below meth c s₁ [] 0 0 := Stand.of_body Bd
  have e0 : s₁.heap = h0 := by rw [← hh, Bd.state]; rfl
  have N0 := Fr.nil n0
  have KP : Keep h0 h0 [] := Keep.refl _ _
  refine own_start (Fin := (own_Fin s (own_QDR Z kk vv h0 n0) ({ frames := 0, cells := 0, slots := 0, locals := 0 } : Room).cells ({ frames := 0, cells := 0, slots := 0, locals := 0 } : Room).slots)) (own_from (mkF m 0 #[iv kk, iv vv] []) (castTop (own_ef_DR m kk vv)) ?_)
  refine own_iln 1 X0 hx (hb hby own_d263) rfl rfl ?_
  by_cases h1 : kk = (0 : Int32)
  · refine own_ifN 4 X0 hx (hb hby own_d264) ((if0 _ _).trans (teq h1).2) rfl ?_
    refine own_iln 5 X0 hx (hb hby own_d265) rfl rfl ?_
    refine own_i2c 6 X0 hx (hb hby own_d266) rfl rfl ?_
    exact own_retN X0 hx (t := .char) Bd.returns (by simp) hlk (hb hby own_d267) (by decide) (by decide) (by rw [e0]; exact ⟨_, rfl, own_i2c16 _, N0, rfl⟩)
  · refine own_ifY 7 X0 hx (hb hby own_d264) ((if0 _ _).trans (feq h1).2) (by decide) (by decide) ?_
    refine own_iln 8 X0 hx (hb hby own_d268) rfl rfl ?_
    refine own_ic 9 1 X0 hx (hb hby own_d269) rfl rfl ?_
    by_cases h2 : kk = (1 : Int32)
    · refine own_icN 12 X0 hx (hb hby own_d270) (teq h2).2 rfl ?_
      refine own_iln 13 X0 hx (hb hby own_d271) rfl rfl ?_
      refine own_ic 14 1 X0 hx (hb hby own_d272) rfl rfl ?_
      refine own_iand 15 X0 hx (hb hby own_d273) rfl rfl ?_
      by_cases h3 : (vv &&& (1 : Int32)) = (0 : Int32)
      · refine own_ifN 18 X0 hx (hb hby own_d274) ((if0 _ _).trans (teq h3).2) rfl ?_
        refine own_to (mkF m 20 #[iv kk, iv vv] [(.int (55295 : Int32))]) (X0.ldcInt hx hown (mvT hZ (own_w hw 163 rfl)) (g := (mkF m 18 #[iv kk, iv vv] [])) rfl (hb hby own_d275)) ?_
        refine own_go 25 X0 hx (hb hby own_d276) (by decide) (by decide) ?_
        exact own_retN X0 hx (t := .char) Bd.returns (by simp) hlk (hb hby own_d277) (by decide) (by decide) (by rw [e0]; exact ⟨_, rfl, own_i2c16 _, N0, rfl⟩)
      · refine own_ifY 23 X0 hx (hb hby own_d274) ((if0 _ _).trans (feq h3).2) (by decide) (by decide) ?_
        refine own_to (mkF m 25 #[iv kk, iv vv] [(.int (57344 : Int32))]) (X0.ldcInt hx hown (mvT hZ (own_w hw 150 rfl)) (g := (mkF m 23 #[iv kk, iv vv] [])) rfl (hb hby own_d278)) ?_
        exact own_retN X0 hx (t := .char) Bd.returns (by simp) hlk (hb hby own_d277) (by decide) (by decide) (by rw [e0]; exact ⟨_, rfl, own_i2c16 _, N0, rfl⟩)
    · refine own_icY 26 X0 hx (hb hby own_d270) (feq h2).2 (by decide) (by decide) ?_
      refine own_iln 27 X0 hx (hb hby own_d279) rfl rfl ?_
      refine own_ic 28 2 X0 hx (hb hby own_d280) rfl rfl ?_
      by_cases h4 : kk = (2 : Int32)
      · refine own_icN 31 X0 hx (hb hby own_d281) (teq h4).2 rfl ?_
        refine own_to (mkF m 33 #[iv kk, iv vv] [(.int (55296 : Int32))]) (X0.ldcInt hx hown (mvT hZ (own_w hw 40 rfl)) (g := (mkF m 31 #[iv kk, iv vv] [])) rfl (hb hby own_d282)) ?_
        refine own_iln 34 X0 hx (hb hby own_d283) rfl rfl ?_
        refine own_ic 35 2 X0 hx (hb hby own_d284) rfl rfl ?_
        refine own_ishl 36 X0 hx (hb hby own_d285) rfl rfl ?_
        refine own_iadd 37 X0 hx (hb hby own_d286) rfl rfl ?_
        refine own_iln 38 X0 hx (hb hby own_d287) rfl rfl ?_
        refine own_ic 39 3 X0 hx (hb hby own_d288) rfl rfl ?_
        refine own_iand 40 X0 hx (hb hby own_d289) rfl rfl ?_
        refine own_iadd 41 X0 hx (hb hby own_d290) rfl rfl ?_
        refine own_i2c 42 X0 hx (hb hby own_d291) rfl rfl ?_
        exact own_retN X0 hx (t := .char) Bd.returns (by simp) hlk (hb hby own_d292) (by decide) (by decide) (by rw [e0]; exact ⟨_, rfl, own_i2c16 _, N0, rfl⟩)
      · refine own_icY 43 X0 hx (hb hby own_d281) (feq h4).2 (by decide) (by decide) ?_
        refine own_to (mkF m 45 #[iv kk, iv vv] [(.int (56320 : Int32))]) (X0.ldcInt hx hown (mvT hZ (own_w hw 83 rfl)) (g := (mkF m 43 #[iv kk, iv vv] [])) rfl (hb hby own_d293)) ?_
        refine own_iln 46 X0 hx (hb hby own_d294) rfl rfl ?_
        refine own_ic 47 2 X0 hx (hb hby own_d295) rfl rfl ?_
        refine own_ishl 48 X0 hx (hb hby own_d296) rfl rfl ?_
        refine own_iadd 49 X0 hx (hb hby own_d297) rfl rfl ?_
        refine own_iln 50 X0 hx (hb hby own_d298) rfl rfl ?_
        refine own_ic 51 3 X0 hx (hb hby own_d299) rfl rfl ?_
        refine own_iand 52 X0 hx (hb hby own_d300) rfl rfl ?_
        refine own_iadd 53 X0 hx (hb hby own_d301) rfl rfl ?_
        refine own_i2c 54 X0 hx (hb hby own_d302) rfl rfl ?_
        exact own_retN X0 hx (t := .char) Bd.returns (by simp) hlk (hb hby own_d303) (by decide) (by decide) (by rw [e0]; exact ⟨_, rfl, own_i2c16 _, N0, rfl⟩)
def own_QPK_0 (Z : State) (x0 x1 x2 : Int32) (h0 : Heap) (n0 : Nat) (v : Option Value) (h : Heap) (L : List Loc) : Prop := ∃ (b : Addr) (kb : ClassId), v = some (.ref b) ∧ Fr n0 L ∧ Keep h0 h [] ∧ n0 ≤ b ∧ h0.size ≤ b ∧ Arv Z h b kb .char (0 : Int32) [] (.int (0 : Int32))
set_option maxRecDepth 65536 in
set_option maxHeartbeats 40000000 in
theorem own_rmPK_0 (l : Launch) (Z : State) (a0 : Array Value) (hw : ∀ d ∈ tables_1, d.before a0 Z = true) (ws : List Jvm.Cond) (x0 x1 x2 : Int32) (h0 : Heap) (n0 : Nat) (Z0 : n0 ≤ h0.size) (OL : Old Z n0 h0) (hx0 : own_C16 x0) (hx1 : own_C16 x1) (hx2 : own_C16 x2) :
    own_MF l (⟨"com/example/ianus/ianus/TokenFollowsPinLaw", "pick", "(ICCC)[C"⟩ : MethodName) (Jvm.Cond.code (⟨"com/example/ianus/ianus/TokenFollowsPinLaw", "pick", "(ICCC)[C"⟩ : MethodName) method_6_code 4 (some (.array .char)) :: ws) ({ frames := 0, cells := 1, slots := 0, locals := 0 } : Room) #[(.int (0 : Int32)), (.int x0), (.int x1), (.int x2)] Z h0 (own_QPK_0 Z x0 x1 x2 h0 n0) := by
  refine MetFree.of_bodySF (plainFor_of_name own_pn3) hisR ?_
  intro p e s m args below meth c s₁ Bd hml0 hP hK
  obtain ⟨rfl, hZ, hh⟩ := hP
  have hx := Bd.exec
  have hby := Bd.bytes
  have hlk : meth.locks = false := BodyLoose.notSynchronized Bd
  have hml : c.maxLocals = 4 := hml0
  have hown : s.vm.findClass "com/example/ianus/ianus/TokenFollowsPinLaw" = some m.cls := findClass_of_methodNamed Bd.named
  have hnm := (name_of_methodNamed Bd.named Bd.method).1
  have X0 : Stand p l e ({ frames := 0, cells := 1, slots := 0, locals := 0 } : Room) s m #[(.int (0 : Int32)), (.int x0), (.int x1), (.int x2)] below meth c s₁ [] 0 0 := Stand.of_body Bd
  have e0 : s₁.heap = h0 := by rw [← hh, Bd.state]; rfl
  have N0 := Fr.nil n0
  have KP : Keep h0 h0 [] := Keep.refl _ _
  refine own_start (Fin := (own_Fin s (own_QPK_0 Z x0 x1 x2 h0 n0) ({ frames := 0, cells := 1, slots := 0, locals := 0 } : Room).cells ({ frames := 0, cells := 1, slots := 0, locals := 0 } : Room).slots)) (own_from (mkF m 0 #[iv 0, iv x0, iv x1, iv x2] []) (castTop (own_ef_PK_0 m (0 : Int32) x0 x1 x2)) ?_)
  refine own_iln 1 X0 hx (hb hby own_d304) rfl rfl ?_
  refine own_ifN 4 X0 hx (hb hby own_d305) ((if0 _ _).trans (teq (by decide : (0 : Int32) = (0 : Int32))).2) rfl ?_
  refine own_ic 5 0 X0 hx (hb hby own_d306) rfl rfl ?_
  obtain ⟨T198, h198, k198, X198, e198, E198, A198, B198, st198⟩ := newPE X0 hx hZ (own_w hw 10 rfl) e0 (g := (mkF m 5 #[iv 0, iv x0, iv x1, iv x2] [(.int (0 : Int32))])) rfl (hb hby own_d307) rfl (by decide) (cap := 0) (by decide) (by decide) (by decide) (by decide) (ad := "[C") (by decide)
  obtain ⟨b198, g198⟩ : ∃ z, z = h0.size := ⟨_, rfl⟩
  rw [← g198] at A198 B198 st198
  have sz_b198 : h0.size ≤ b198 := Nat.le_trans KP.1 (Nat.le_of_eq g198.symm)
  have ge_b198 : n0 ≤ b198 := Nat.le_trans Z0 sz_b198
  have OL := OL.ext E198
  have KP := KP.ext E198
  have V_b198 : Arv Z h198 b198 k198 .char (0 : Int32) [] (.int (0 : Int32)) := Arv.new A198 (by decide)
  refine own_to (mkF m 7 #[iv 0, iv x0, iv x1, iv x2] [(.ref b198)]) st198 ?_
  exact own_retA X198 hx Bd.returns rfl hlk (hb hby own_d308) rfl (by decide) (by decide) (by rw [e198]; exact ⟨b198, k198, rfl, N0, KP, ge_b198, sz_b198, V_b198⟩)
def own_QPK_1 (Z : State) (x0 x1 x2 : Int32) (h0 : Heap) (n0 : Nat) (v : Option Value) (h : Heap) (L : List Loc) : Prop := ∃ (b : Addr) (kb : ClassId), v = some (.ref b) ∧ Fr n0 L ∧ Keep h0 h [] ∧ n0 ≤ b ∧ h0.size ≤ b ∧ Arv Z h b kb .char (1 : Int32) [(.int x0)] (.int (0 : Int32))
set_option maxRecDepth 65536 in
set_option maxHeartbeats 40000000 in
theorem own_rmPK_1 (l : Launch) (Z : State) (a0 : Array Value) (hw : ∀ d ∈ tables_1, d.before a0 Z = true) (ws : List Jvm.Cond) (x0 x1 x2 : Int32) (h0 : Heap) (n0 : Nat) (Z0 : n0 ≤ h0.size) (OL : Old Z n0 h0) (hx0 : own_C16 x0) (hx1 : own_C16 x1) (hx2 : own_C16 x2) :
    own_MF l (⟨"com/example/ianus/ianus/TokenFollowsPinLaw", "pick", "(ICCC)[C"⟩ : MethodName) (Jvm.Cond.code (⟨"com/example/ianus/ianus/TokenFollowsPinLaw", "pick", "(ICCC)[C"⟩ : MethodName) method_6_code 4 (some (.array .char)) :: ws) ({ frames := 0, cells := 1, slots := 1, locals := 0 } : Room) #[(.int (1 : Int32)), (.int x0), (.int x1), (.int x2)] Z h0 (own_QPK_1 Z x0 x1 x2 h0 n0) := by
  refine MetFree.of_bodySF (plainFor_of_name own_pn3) hisR ?_
  intro p e s m args below meth c s₁ Bd hml0 hP hK
  obtain ⟨rfl, hZ, hh⟩ := hP
  have hx := Bd.exec
  have hby := Bd.bytes
  have hlk : meth.locks = false := BodyLoose.notSynchronized Bd
  have hml : c.maxLocals = 4 := hml0
  have hown : s.vm.findClass "com/example/ianus/ianus/TokenFollowsPinLaw" = some m.cls := findClass_of_methodNamed Bd.named
  have hnm := (name_of_methodNamed Bd.named Bd.method).1
  have X0 : Stand p l e ({ frames := 0, cells := 1, slots := 1, locals := 0 } : Room) s m #[(.int (1 : Int32)), (.int x0), (.int x1), (.int x2)] below meth c s₁ [] 0 0 := Stand.of_body Bd
  have e0 : s₁.heap = h0 := by rw [← hh, Bd.state]; rfl
  have N0 := Fr.nil n0
  have KP : Keep h0 h0 [] := Keep.refl _ _
  refine own_start (Fin := (own_Fin s (own_QPK_1 Z x0 x1 x2 h0 n0) ({ frames := 0, cells := 1, slots := 1, locals := 0 } : Room).cells ({ frames := 0, cells := 1, slots := 1, locals := 0 } : Room).slots)) (own_from (mkF m 0 #[iv 1, iv x0, iv x1, iv x2] []) (castTop (own_ef_PK_1 m (1 : Int32) x0 x1 x2)) ?_)
  refine own_iln 1 X0 hx (hb hby own_d304) rfl rfl ?_
  refine own_ifY 8 X0 hx (hb hby own_d305) ((if0 _ _).trans (feq (by decide : ¬ ((1 : Int32) = (0 : Int32)))).2) (by decide) (by decide) ?_
  refine own_iln 9 X0 hx (hb hby own_d309) rfl rfl ?_
  refine own_ic 10 1 X0 hx (hb hby own_d310) rfl rfl ?_
  refine own_icN 13 X0 hx (hb hby own_d311) (teq (by decide : (1 : Int32) = (1 : Int32))).2 rfl ?_
  refine own_ic 14 1 X0 hx (hb hby own_d312) rfl rfl ?_
  obtain ⟨T199, h199, k199, X199, e199, E199, A199, B199, st199⟩ := newPE X0 hx hZ (own_w hw 10 rfl) e0 (g := (mkF m 14 #[iv 1, iv x0, iv x1, iv x2] [(.int (1 : Int32))])) rfl (hb hby own_d313) rfl (by decide) (cap := 1) (by decide) (by decide) (by decide) (by decide) (ad := "[C") (by decide)
  obtain ⟨b199, g199⟩ : ∃ z, z = h0.size := ⟨_, rfl⟩
  rw [← g199] at A199 B199 st199
  have sz_b199 : h0.size ≤ b199 := Nat.le_trans KP.1 (Nat.le_of_eq g199.symm)
  have ge_b199 : n0 ≤ b199 := Nat.le_trans Z0 sz_b199
  have OL := OL.ext E199
  have KP := KP.ext E199
  have V_b199 : Arv Z h199 b199 k199 .char (1 : Int32) [(.int (0 : Int32))] (.int (0 : Int32)) := (Arv.new A199 (by decide)).pad (pad_rep [] (.int (0 : Int32)) 1)
  refine own_to (mkF m 16 #[iv 1, iv x0, iv x1, iv x2] [(.ref b199)]) st199 ?_
  refine own_dup 17 X199 hx (hb hby own_d314) rfl rfl ?_
  refine own_ic 18 0 X199 hx (hb hby own_d315) rfl rfl ?_
  refine own_iln 19 X199 hx (hb hby own_d316) rfl rfl ?_
  obtain ⟨cl200, Ar200, q200, S200, M200, H200, G200⟩ := id V_b199
  obtain ⟨T200, h200, X200, e200, W200, st200⟩ := stC X199 hx hZ e199 Ar200 (j := (0 : Int32)) (inb_of S200 ⟨by decide, by decide⟩) (g := (mkF m 19 #[iv 1, iv x0, iv x1, iv x2] [(.int x0), (.int (0 : Int32)), (.ref b199), (.ref b199)])) rfl rfl (hb hby own_d317)
  refine own_to (mkF m 20 #[iv 1, iv x0, iv x1, iv x2] [(.ref b199)]) st200 ?_
  have N200 := Fr.snoc X200 N0 ge_b199
  have tmp200 : Arv Z h200 b199 k199 .char (1 : Int32) [(.int (nar .char x0))] (.int (0 : Int32)) := Arv.set Ar200 q200 S200 M200 H200 G200 (fits_nar_char _) W200 0 rfl (Nat.le_of_ble_eq_true rfl)
  rw [own_nar16 hx0] at tmp200
  have OL := OL.wr W200 ge_b199
  have KP := KP.wr W200 (Or.inr sz_b199)
  have V_b199 := tmp200
  exact own_retA X200 hx Bd.returns rfl hlk (hb hby own_d318) rfl (by decide) (by decide) (by rw [e200]; exact ⟨b199, k199, rfl, N200, KP, ge_b199, sz_b199, V_b199⟩)
def own_QPK_2 (Z : State) (x0 x1 x2 : Int32) (h0 : Heap) (n0 : Nat) (v : Option Value) (h : Heap) (L : List Loc) : Prop := ∃ (b : Addr) (kb : ClassId), v = some (.ref b) ∧ Fr n0 L ∧ Keep h0 h [] ∧ n0 ≤ b ∧ h0.size ≤ b ∧ Arv Z h b kb .char (2 : Int32) [(.int x0), (.int x1)] (.int (0 : Int32))
set_option maxRecDepth 65536 in
set_option maxHeartbeats 40000000 in
theorem own_rmPK_2 (l : Launch) (Z : State) (a0 : Array Value) (hw : ∀ d ∈ tables_1, d.before a0 Z = true) (ws : List Jvm.Cond) (x0 x1 x2 : Int32) (h0 : Heap) (n0 : Nat) (Z0 : n0 ≤ h0.size) (OL : Old Z n0 h0) (hx0 : own_C16 x0) (hx1 : own_C16 x1) (hx2 : own_C16 x2) :
    own_MF l (⟨"com/example/ianus/ianus/TokenFollowsPinLaw", "pick", "(ICCC)[C"⟩ : MethodName) (Jvm.Cond.code (⟨"com/example/ianus/ianus/TokenFollowsPinLaw", "pick", "(ICCC)[C"⟩ : MethodName) method_6_code 4 (some (.array .char)) :: ws) ({ frames := 0, cells := 1, slots := 2, locals := 0 } : Room) #[(.int (2 : Int32)), (.int x0), (.int x1), (.int x2)] Z h0 (own_QPK_2 Z x0 x1 x2 h0 n0) := by
  refine MetFree.of_bodySF (plainFor_of_name own_pn3) hisR ?_
  intro p e s m args below meth c s₁ Bd hml0 hP hK
  obtain ⟨rfl, hZ, hh⟩ := hP
  have hx := Bd.exec
  have hby := Bd.bytes
  have hlk : meth.locks = false := BodyLoose.notSynchronized Bd
  have hml : c.maxLocals = 4 := hml0
  have hown : s.vm.findClass "com/example/ianus/ianus/TokenFollowsPinLaw" = some m.cls := findClass_of_methodNamed Bd.named
  have hnm := (name_of_methodNamed Bd.named Bd.method).1
  have X0 : Stand p l e ({ frames := 0, cells := 1, slots := 2, locals := 0 } : Room) s m #[(.int (2 : Int32)), (.int x0), (.int x1), (.int x2)] below meth c s₁ [] 0 0 := Stand.of_body Bd
  have e0 : s₁.heap = h0 := by rw [← hh, Bd.state]; rfl
  have N0 := Fr.nil n0
  have KP : Keep h0 h0 [] := Keep.refl _ _
  refine own_start (Fin := (own_Fin s (own_QPK_2 Z x0 x1 x2 h0 n0) ({ frames := 0, cells := 1, slots := 2, locals := 0 } : Room).cells ({ frames := 0, cells := 1, slots := 2, locals := 0 } : Room).slots)) (own_from (mkF m 0 #[iv 2, iv x0, iv x1, iv x2] []) (castTop (own_ef_PK_2 m (2 : Int32) x0 x1 x2)) ?_)
  refine own_iln 1 X0 hx (hb hby own_d304) rfl rfl ?_
  refine own_ifY 8 X0 hx (hb hby own_d305) ((if0 _ _).trans (feq (by decide : ¬ ((2 : Int32) = (0 : Int32)))).2) (by decide) (by decide) ?_
  refine own_iln 9 X0 hx (hb hby own_d309) rfl rfl ?_
  refine own_ic 10 1 X0 hx (hb hby own_d310) rfl rfl ?_
  refine own_icY 21 X0 hx (hb hby own_d311) (feq (by decide : ¬ ((2 : Int32) = (1 : Int32)))).2 (by decide) (by decide) ?_
  refine own_iln 22 X0 hx (hb hby own_d319) rfl rfl ?_
  refine own_ic 23 2 X0 hx (hb hby own_d320) rfl rfl ?_
  refine own_icN 26 X0 hx (hb hby own_d321) (teq (by decide : (2 : Int32) = (2 : Int32))).2 rfl ?_
  refine own_ic 27 2 X0 hx (hb hby own_d322) rfl rfl ?_
  obtain ⟨T201, h201, k201, X201, e201, E201, A201, B201, st201⟩ := newPE X0 hx hZ (own_w hw 10 rfl) e0 (g := (mkF m 27 #[iv 2, iv x0, iv x1, iv x2] [(.int (2 : Int32))])) rfl (hb hby own_d323) rfl (by decide) (cap := 2) (by decide) (by decide) (by decide) (by decide) (ad := "[C") (by decide)
  obtain ⟨b201, g201⟩ : ∃ z, z = h0.size := ⟨_, rfl⟩
  rw [← g201] at A201 B201 st201
  have sz_b201 : h0.size ≤ b201 := Nat.le_trans KP.1 (Nat.le_of_eq g201.symm)
  have ge_b201 : n0 ≤ b201 := Nat.le_trans Z0 sz_b201
  have OL := OL.ext E201
  have KP := KP.ext E201
  have V_b201 : Arv Z h201 b201 k201 .char (2 : Int32) [(.int (0 : Int32)), (.int (0 : Int32))] (.int (0 : Int32)) := (Arv.new A201 (by decide)).pad (pad_rep [] (.int (0 : Int32)) 2)
  refine own_to (mkF m 29 #[iv 2, iv x0, iv x1, iv x2] [(.ref b201)]) st201 ?_
  refine own_dup 30 X201 hx (hb hby own_d324) rfl rfl ?_
  refine own_ic 31 0 X201 hx (hb hby own_d325) rfl rfl ?_
  refine own_iln 32 X201 hx (hb hby own_d326) rfl rfl ?_
  obtain ⟨cl202, Ar202, q202, S202, M202, H202, G202⟩ := id V_b201
  obtain ⟨T202, h202, X202, e202, W202, st202⟩ := stC X201 hx hZ e201 Ar202 (j := (0 : Int32)) (inb_of S202 ⟨by decide, by decide⟩) (g := (mkF m 32 #[iv 2, iv x0, iv x1, iv x2] [(.int x0), (.int (0 : Int32)), (.ref b201), (.ref b201)])) rfl rfl (hb hby own_d327)
  refine own_to (mkF m 33 #[iv 2, iv x0, iv x1, iv x2] [(.ref b201)]) st202 ?_
  have N202 := Fr.snoc X202 N0 ge_b201
  have tmp202 : Arv Z h202 b201 k201 .char (2 : Int32) [(.int (nar .char x0)), (.int (0 : Int32))] (.int (0 : Int32)) := Arv.set Ar202 q202 S202 M202 H202 G202 (fits_nar_char _) W202 0 rfl (Nat.le_of_ble_eq_true rfl)
  rw [own_nar16 hx0] at tmp202
  have OL := OL.wr W202 ge_b201
  have KP := KP.wr W202 (Or.inr sz_b201)
  have V_b201 := tmp202
  refine own_dup 34 X202 hx (hb hby own_d328) rfl rfl ?_
  refine own_ic 35 1 X202 hx (hb hby own_d329) rfl rfl ?_
  refine own_iln 36 X202 hx (hb hby own_d330) rfl rfl ?_
  obtain ⟨cl203, Ar203, q203, S203, M203, H203, G203⟩ := id V_b201
  obtain ⟨T203, h203, X203, e203, W203, st203⟩ := stC X202 hx hZ e202 Ar203 (j := (1 : Int32)) (inb_of S203 ⟨by decide, by decide⟩) (g := (mkF m 36 #[iv 2, iv x0, iv x1, iv x2] [(.int x1), (.int (1 : Int32)), (.ref b201), (.ref b201)])) rfl rfl (hb hby own_d331)
  refine own_to (mkF m 37 #[iv 2, iv x0, iv x1, iv x2] [(.ref b201)]) st203 ?_
  have N203 := Fr.snoc X203 N202 ge_b201
  have tmp203 : Arv Z h203 b201 k201 .char (2 : Int32) [(.int x0), (.int (nar .char x1))] (.int (0 : Int32)) := Arv.set Ar203 q203 S203 M203 H203 G203 (fits_nar_char _) W203 1 rfl (Nat.le_of_ble_eq_true rfl)
  rw [own_nar16 hx1] at tmp203
  have OL := OL.wr W203 ge_b201
  have KP := KP.wr W203 (Or.inr sz_b201)
  have V_b201 := tmp203
  exact own_retA X203 hx Bd.returns rfl hlk (hb hby own_d332) rfl (by decide) (by decide) (by rw [e203]; exact ⟨b201, k201, rfl, N203, KP, ge_b201, sz_b201, V_b201⟩)
def own_QPK_3 (Z : State) (x0 x1 x2 : Int32) (h0 : Heap) (n0 : Nat) (v : Option Value) (h : Heap) (L : List Loc) : Prop := ∃ (b : Addr) (kb : ClassId), v = some (.ref b) ∧ Fr n0 L ∧ Keep h0 h [] ∧ n0 ≤ b ∧ h0.size ≤ b ∧ Arv Z h b kb .char (3 : Int32) [(.int x0), (.int x1), (.int x2)] (.int (0 : Int32))
set_option maxRecDepth 65536 in
set_option maxHeartbeats 40000000 in
theorem own_rmPK_3 (l : Launch) (Z : State) (a0 : Array Value) (hw : ∀ d ∈ tables_1, d.before a0 Z = true) (ws : List Jvm.Cond) (x0 x1 x2 : Int32) (h0 : Heap) (n0 : Nat) (Z0 : n0 ≤ h0.size) (OL : Old Z n0 h0) (hx0 : own_C16 x0) (hx1 : own_C16 x1) (hx2 : own_C16 x2) :
    own_MF l (⟨"com/example/ianus/ianus/TokenFollowsPinLaw", "pick", "(ICCC)[C"⟩ : MethodName) (Jvm.Cond.code (⟨"com/example/ianus/ianus/TokenFollowsPinLaw", "pick", "(ICCC)[C"⟩ : MethodName) method_6_code 4 (some (.array .char)) :: ws) ({ frames := 0, cells := 1, slots := 3, locals := 0 } : Room) #[(.int (3 : Int32)), (.int x0), (.int x1), (.int x2)] Z h0 (own_QPK_3 Z x0 x1 x2 h0 n0) := by
  refine MetFree.of_bodySF (plainFor_of_name own_pn3) hisR ?_
  intro p e s m args below meth c s₁ Bd hml0 hP hK
  obtain ⟨rfl, hZ, hh⟩ := hP
  have hx := Bd.exec
  have hby := Bd.bytes
  have hlk : meth.locks = false := BodyLoose.notSynchronized Bd
  have hml : c.maxLocals = 4 := hml0
  have hown : s.vm.findClass "com/example/ianus/ianus/TokenFollowsPinLaw" = some m.cls := findClass_of_methodNamed Bd.named
  have hnm := (name_of_methodNamed Bd.named Bd.method).1
  have X0 : Stand p l e ({ frames := 0, cells := 1, slots := 3, locals := 0 } : Room) s m #[(.int (3 : Int32)), (.int x0), (.int x1), (.int x2)] below meth c s₁ [] 0 0 := Stand.of_body Bd
  have e0 : s₁.heap = h0 := by rw [← hh, Bd.state]; rfl
  have N0 := Fr.nil n0
  have KP : Keep h0 h0 [] := Keep.refl _ _
  refine own_start (Fin := (own_Fin s (own_QPK_3 Z x0 x1 x2 h0 n0) ({ frames := 0, cells := 1, slots := 3, locals := 0 } : Room).cells ({ frames := 0, cells := 1, slots := 3, locals := 0 } : Room).slots)) (own_from (mkF m 0 #[iv 3, iv x0, iv x1, iv x2] []) (castTop (own_ef_PK_3 m (3 : Int32) x0 x1 x2)) ?_)
  refine own_iln 1 X0 hx (hb hby own_d304) rfl rfl ?_
  refine own_ifY 8 X0 hx (hb hby own_d305) ((if0 _ _).trans (feq (by decide : ¬ ((3 : Int32) = (0 : Int32)))).2) (by decide) (by decide) ?_
  refine own_iln 9 X0 hx (hb hby own_d309) rfl rfl ?_
  refine own_ic 10 1 X0 hx (hb hby own_d310) rfl rfl ?_
  refine own_icY 21 X0 hx (hb hby own_d311) (feq (by decide : ¬ ((3 : Int32) = (1 : Int32)))).2 (by decide) (by decide) ?_
  refine own_iln 22 X0 hx (hb hby own_d319) rfl rfl ?_
  refine own_ic 23 2 X0 hx (hb hby own_d320) rfl rfl ?_
  refine own_icY 38 X0 hx (hb hby own_d321) (feq (by decide : ¬ ((3 : Int32) = (2 : Int32)))).2 (by decide) (by decide) ?_
  refine own_ic 39 3 X0 hx (hb hby own_d333) rfl rfl ?_
  obtain ⟨T204, h204, k204, X204, e204, E204, A204, B204, st204⟩ := newPE X0 hx hZ (own_w hw 10 rfl) e0 (g := (mkF m 39 #[iv 3, iv x0, iv x1, iv x2] [(.int (3 : Int32))])) rfl (hb hby own_d334) rfl (by decide) (cap := 3) (by decide) (by decide) (by decide) (by decide) (ad := "[C") (by decide)
  obtain ⟨b204, g204⟩ : ∃ z, z = h0.size := ⟨_, rfl⟩
  rw [← g204] at A204 B204 st204
  have sz_b204 : h0.size ≤ b204 := Nat.le_trans KP.1 (Nat.le_of_eq g204.symm)
  have ge_b204 : n0 ≤ b204 := Nat.le_trans Z0 sz_b204
  have OL := OL.ext E204
  have KP := KP.ext E204
  have V_b204 : Arv Z h204 b204 k204 .char (3 : Int32) [(.int (0 : Int32)), (.int (0 : Int32)), (.int (0 : Int32))] (.int (0 : Int32)) := (Arv.new A204 (by decide)).pad (pad_rep [] (.int (0 : Int32)) 3)
  refine own_to (mkF m 41 #[iv 3, iv x0, iv x1, iv x2] [(.ref b204)]) st204 ?_
  refine own_dup 42 X204 hx (hb hby own_d335) rfl rfl ?_
  refine own_ic 43 0 X204 hx (hb hby own_d336) rfl rfl ?_
  refine own_iln 44 X204 hx (hb hby own_d337) rfl rfl ?_
  obtain ⟨cl205, Ar205, q205, S205, M205, H205, G205⟩ := id V_b204
  obtain ⟨T205, h205, X205, e205, W205, st205⟩ := stC X204 hx hZ e204 Ar205 (j := (0 : Int32)) (inb_of S205 ⟨by decide, by decide⟩) (g := (mkF m 44 #[iv 3, iv x0, iv x1, iv x2] [(.int x0), (.int (0 : Int32)), (.ref b204), (.ref b204)])) rfl rfl (hb hby own_d338)
  refine own_to (mkF m 45 #[iv 3, iv x0, iv x1, iv x2] [(.ref b204)]) st205 ?_
  have N205 := Fr.snoc X205 N0 ge_b204
  have tmp205 : Arv Z h205 b204 k204 .char (3 : Int32) [(.int (nar .char x0)), (.int (0 : Int32)), (.int (0 : Int32))] (.int (0 : Int32)) := Arv.set Ar205 q205 S205 M205 H205 G205 (fits_nar_char _) W205 0 rfl (Nat.le_of_ble_eq_true rfl)
  rw [own_nar16 hx0] at tmp205
  have OL := OL.wr W205 ge_b204
  have KP := KP.wr W205 (Or.inr sz_b204)
  have V_b204 := tmp205
  refine own_dup 46 X205 hx (hb hby own_d339) rfl rfl ?_
  refine own_ic 47 1 X205 hx (hb hby own_d340) rfl rfl ?_
  refine own_iln 48 X205 hx (hb hby own_d341) rfl rfl ?_
  obtain ⟨cl206, Ar206, q206, S206, M206, H206, G206⟩ := id V_b204
  obtain ⟨T206, h206, X206, e206, W206, st206⟩ := stC X205 hx hZ e205 Ar206 (j := (1 : Int32)) (inb_of S206 ⟨by decide, by decide⟩) (g := (mkF m 48 #[iv 3, iv x0, iv x1, iv x2] [(.int x1), (.int (1 : Int32)), (.ref b204), (.ref b204)])) rfl rfl (hb hby own_d342)
  refine own_to (mkF m 49 #[iv 3, iv x0, iv x1, iv x2] [(.ref b204)]) st206 ?_
  have N206 := Fr.snoc X206 N205 ge_b204
  have tmp206 : Arv Z h206 b204 k204 .char (3 : Int32) [(.int x0), (.int (nar .char x1)), (.int (0 : Int32))] (.int (0 : Int32)) := Arv.set Ar206 q206 S206 M206 H206 G206 (fits_nar_char _) W206 1 rfl (Nat.le_of_ble_eq_true rfl)
  rw [own_nar16 hx1] at tmp206
  have OL := OL.wr W206 ge_b204
  have KP := KP.wr W206 (Or.inr sz_b204)
  have V_b204 := tmp206
  refine own_dup 50 X206 hx (hb hby own_d343) rfl rfl ?_
  refine own_ic 51 2 X206 hx (hb hby own_d344) rfl rfl ?_
  refine own_iln 52 X206 hx (hb hby own_d345) rfl rfl ?_
  obtain ⟨cl207, Ar207, q207, S207, M207, H207, G207⟩ := id V_b204
  obtain ⟨T207, h207, X207, e207, W207, st207⟩ := stC X206 hx hZ e206 Ar207 (j := (2 : Int32)) (inb_of S207 ⟨by decide, by decide⟩) (g := (mkF m 52 #[iv 3, iv x0, iv x1, iv x2] [(.int x2), (.int (2 : Int32)), (.ref b204), (.ref b204)])) rfl rfl (hb hby own_d346)
  refine own_to (mkF m 53 #[iv 3, iv x0, iv x1, iv x2] [(.ref b204)]) st207 ?_
  have N207 := Fr.snoc X207 N206 ge_b204
  have tmp207 : Arv Z h207 b204 k204 .char (3 : Int32) [(.int x0), (.int x1), (.int (nar .char x2))] (.int (0 : Int32)) := Arv.set Ar207 q207 S207 M207 H207 G207 (fits_nar_char _) W207 2 rfl (Nat.le_of_ble_eq_true rfl)
  rw [own_nar16 hx2] at tmp207
  have OL := OL.wr W207 ge_b204
  have KP := KP.wr W207 (Or.inr sz_b204)
  have V_b204 := tmp207
  exact own_retA X207 hx Bd.returns rfl hlk (hb hby own_d347) rfl (by decide) (by decide) (by rw [e207]; exact ⟨b204, k204, rfl, N207, KP, ge_b204, sz_b204, V_b204⟩)
def own_QKO (Z : State) (kx : Int32) (aI aS aN aY aE : Addr) (h0 : Heap) (n0 : Nat) (v : Option Value) (h : Heap) (L : List Loc) : Prop := ∃ ak : Addr, v = some (.ref ak) ∧ Fr n0 L ∧ h = h0
set_option maxRecDepth 65536 in
set_option maxHeartbeats 40000000 in
theorem own_rmKO (l : Launch) (Z : State) (a0 : Array Value) (hw : ∀ d ∈ tables_1, d.before a0 Z = true) (ws : List Jvm.Cond) (kx : Int32) (aI aS aN aY aE : Addr) (h0 : Heap) (n0 : Nat) (Z0 : n0 ≤ h0.size) (OL : Old Z n0 h0) (SaI : Sta Z Z.heap "com/example/ianus/ianus/Token$Kind" "IDENTIFIER" "Lcom/example/ianus/ianus/Token$Kind;" (.ref aI)) (SaS : Sta Z Z.heap "com/example/ianus/ianus/Token$Kind" "STRING" "Lcom/example/ianus/ianus/Token$Kind;" (.ref aS)) (SaN : Sta Z Z.heap "com/example/ianus/ianus/Token$Kind" "NUMBER" "Lcom/example/ianus/ianus/Token$Kind;" (.ref aN)) (SaY : Sta Z Z.heap "com/example/ianus/ianus/Token$Kind" "SYMBOL" "Lcom/example/ianus/ianus/Token$Kind;" (.ref aY)) (SaE : Sta Z Z.heap "com/example/ianus/ianus/Token$Kind" "END" "Lcom/example/ianus/ianus/Token$Kind;" (.ref aE)) :
    own_MF l (⟨"com/example/ianus/ianus/TokenFollowsPinLaw", "kindOf", "(I)Lcom/example/ianus/ianus/Token$Kind;"⟩ : MethodName) (Jvm.Cond.code (⟨"com/example/ianus/ianus/TokenFollowsPinLaw", "kindOf", "(I)Lcom/example/ianus/ianus/Token$Kind;"⟩ : MethodName) method_7_code 2 (some (.object "com/example/ianus/ianus/Token$Kind")) :: ws) ({ frames := 0, cells := 0, slots := 0, locals := 0 } : Room) #[(.int kx)] Z h0 (own_QKO Z kx aI aS aN aY aE h0 n0) := by
  refine MetFree.of_bodySF (plainFor_of_name own_pn3) hisR ?_
  intro p e s m args below meth c s₁ Bd hml0 hP hK
  obtain ⟨rfl, hZ, hh⟩ := hP
  have hx := Bd.exec
  have hby := Bd.bytes
  have hlk : meth.locks = false := BodyLoose.notSynchronized Bd
  have hml : c.maxLocals = 2 := hml0
  have hown : s.vm.findClass "com/example/ianus/ianus/TokenFollowsPinLaw" = some m.cls := findClass_of_methodNamed Bd.named
  have hnm := (name_of_methodNamed Bd.named Bd.method).1
  have X0 : Stand p l e ({ frames := 0, cells := 0, slots := 0, locals := 0 } : Room) s m #[(.int kx)] below meth c s₁ [] 0 0 := Stand.of_body Bd
  have e0 : s₁.heap = h0 := by rw [← hh, Bd.state]; rfl
  have N0 := Fr.nil n0
  have KP : Keep h0 h0 [] := Keep.refl _ _
  refine own_start (Fin := (own_Fin s (own_QKO Z kx aI aS aN aY aE h0 n0) ({ frames := 0, cells := 0, slots := 0, locals := 0 } : Room).cells ({ frames := 0, cells := 0, slots := 0, locals := 0 } : Room).slots)) (own_from (mkF m 0 #[iv kx, .unset] []) (castTop (own_ef_KO m kx)) ?_)
  refine own_iln 1 X0 hx (hb hby own_d348) rfl rfl ?_
  refine own_ic 2 5 X0 hx (hb hby own_d349) rfl rfl ?_
  refine own_to (T' := s₁) (mkF m 3 #[iv kx, .unset] [(.int (kx % (5 : Int32)))]) (fun _ k => iremM X0 hx rfl (hb hby own_d350) rfl (by decide) k) ?_
  generalize hki : (kx % (5 : Int32)) = ki
  refine own_isn 4 #[iv kx, iv ki] X0 hx (hb hby own_d351) rfl rfl ?_
  refine own_iln 5 X0 hx (hb hby own_d352) rfl rfl ?_
  by_cases hi0 : ki = (0 : Int32)
  · refine own_ifN 8 X0 hx (hb hby own_d353) ((if0 _ _).trans (teq hi0).2) rfl ?_
    obtain ⟨T208, X208, e208, st208⟩ := getS2 X0 hx hZ hown (host := "") (Or.inl (own_w hw 61 rfl)) Via.refl e0 (SaI.ext OL.2) (g := (mkF m 8 #[iv kx, iv ki] [])) rfl (hb hby own_d354)
    refine own_to (mkF m 11 #[iv kx, iv ki] [(.ref aI)]) st208 ?_
    exact own_retA X208 hx Bd.returns rfl hlk (hb hby own_d355) rfl (by decide) (by decide) (by rw [e208]; exact ⟨_, rfl, N0, rfl⟩)
  · refine own_ifY 12 X0 hx (hb hby own_d353) ((if0 _ _).trans (feq hi0).2) (by decide) (by decide) ?_
    refine own_iln 13 X0 hx (hb hby own_d356) rfl rfl ?_
    refine own_ic 14 1 X0 hx (hb hby own_d357) rfl rfl ?_
    by_cases hi1 : ki = (1 : Int32)
    · refine own_icN 17 X0 hx (hb hby own_d358) (teq hi1).2 rfl ?_
      obtain ⟨T209, X209, e209, st209⟩ := getS2 X0 hx hZ hown (host := "") (Or.inl (own_w hw 108 rfl)) Via.refl e0 (SaS.ext OL.2) (g := (mkF m 17 #[iv kx, iv ki] [])) rfl (hb hby own_d359)
      refine own_to (mkF m 20 #[iv kx, iv ki] [(.ref aS)]) st209 ?_
      exact own_retA X209 hx Bd.returns rfl hlk (hb hby own_d360) rfl (by decide) (by decide) (by rw [e209]; exact ⟨_, rfl, N0, rfl⟩)
    · refine own_icY 21 X0 hx (hb hby own_d358) (feq hi1).2 (by decide) (by decide) ?_
      refine own_iln 22 X0 hx (hb hby own_d361) rfl rfl ?_
      refine own_ic 23 2 X0 hx (hb hby own_d362) rfl rfl ?_
      by_cases hi2 : ki = (2 : Int32)
      · refine own_icN 26 X0 hx (hb hby own_d363) (teq hi2).2 rfl ?_
        obtain ⟨T210, X210, e210, st210⟩ := getS2 X0 hx hZ hown (host := "") (Or.inl (own_w hw 113 rfl)) Via.refl e0 (SaN.ext OL.2) (g := (mkF m 26 #[iv kx, iv ki] [])) rfl (hb hby own_d364)
        refine own_to (mkF m 29 #[iv kx, iv ki] [(.ref aN)]) st210 ?_
        exact own_retA X210 hx Bd.returns rfl hlk (hb hby own_d365) rfl (by decide) (by decide) (by rw [e210]; exact ⟨_, rfl, N0, rfl⟩)
      · refine own_icY 30 X0 hx (hb hby own_d363) (feq hi2).2 (by decide) (by decide) ?_
        refine own_iln 31 X0 hx (hb hby own_d366) rfl rfl ?_
        refine own_ic 32 3 X0 hx (hb hby own_d367) rfl rfl ?_
        by_cases hi3 : ki = (3 : Int32)
        · refine own_icN 35 X0 hx (hb hby own_d368) (teq hi3).2 rfl ?_
          obtain ⟨T211, X211, e211, st211⟩ := getS2 X0 hx hZ hown (host := "") (Or.inl (own_w hw 157 rfl)) Via.refl e0 (SaY.ext OL.2) (g := (mkF m 35 #[iv kx, iv ki] [])) rfl (hb hby own_d369)
          refine own_to (mkF m 38 #[iv kx, iv ki] [(.ref aY)]) st211 ?_
          exact own_retA X211 hx Bd.returns rfl hlk (hb hby own_d370) rfl (by decide) (by decide) (by rw [e211]; exact ⟨_, rfl, N0, rfl⟩)
        · refine own_icY 39 X0 hx (hb hby own_d368) (feq hi3).2 (by decide) (by decide) ?_
          obtain ⟨T212, X212, e212, st212⟩ := getS2 X0 hx hZ hown (host := "") (Or.inl (own_w hw 164 rfl)) Via.refl e0 (SaE.ext OL.2) (g := (mkF m 39 #[iv kx, iv ki] [])) rfl (hb hby own_d371)
          refine own_to (mkF m 42 #[iv kx, iv ki] [(.ref aE)]) st212 ?_
          exact own_retA X212 hx Bd.returns rfl hlk (hb hby own_d372) rfl (by decide) (by decide) (by rw [e212]; exact ⟨_, rfl, N0, rfl⟩)
def own_QCT (Z : State) (tk ak tx vx : Addr) (ln cl : Int32) (h0 : Heap) (n0 : Nat) (v : Option Value) (h : Heap) (L : List Loc) : Prop := v = none ∧ Fr n0 L ∧ Keep h0 h [tk] ∧ Exa Z h tk "com/example/ianus/ianus/Token" ∧ Fld Z h tk "com/example/ianus/ianus/Token" "kind" "Lcom/example/ianus/ianus/Token$Kind;" (.ref ak) ∧ Fld Z h tk "com/example/ianus/ianus/Token" "text" "Ljava/lang/String;" (.ref tx) ∧ Fld Z h tk "com/example/ianus/ianus/Token" "line" "I" (.int ln) ∧ Fld Z h tk "com/example/ianus/ianus/Token" "column" "I" (.int cl)
set_option maxRecDepth 65536 in
set_option maxHeartbeats 40000000 in
theorem own_rmCT (l : Launch) (Z : State) (a0 : Array Value) (hw : ∀ d ∈ tables_1, d.before a0 Z = true) (ws : List Jvm.Cond) (tk ak tx vx : Addr) (ln cl : Int32) (h0 : Heap) (n0 : Nat) (Z0 : n0 ≤ h0.size) (OL : Old Z n0 h0) (ge_tk : n0 ≤ tk) (E_tk : Exa Z h0 tk "com/example/ianus/ianus/Token") (F_kind_tk : Fld Z h0 tk "com/example/ianus/ianus/Token" "kind" "Lcom/example/ianus/ianus/Token$Kind;" .null) (F_text_tk : Fld Z h0 tk "com/example/ianus/ianus/Token" "text" "Ljava/lang/String;" .null) (F_value_tk : Fld Z h0 tk "com/example/ianus/ianus/Token" "value" "Ljava/lang/String;" .null) (F_line_tk : Fld Z h0 tk "com/example/ianus/ianus/Token" "line" "I" (.int (0 : Int32))) (F_column_tk : Fld Z h0 tk "com/example/ianus/ianus/Token" "column" "I" (.int (0 : Int32))) :
    own_MF l (⟨"com/example/ianus/ianus/Token", "<init>", "(Lcom/example/ianus/ianus/Token$Kind;Ljava/lang/String;Ljava/lang/String;II)V"⟩ : MethodName) (Jvm.Cond.code (⟨"com/example/ianus/ianus/Token", "<init>", "(Lcom/example/ianus/ianus/Token$Kind;Ljava/lang/String;Ljava/lang/String;II)V"⟩ : MethodName) prog_18_method_1_code 6 none :: ws) ({ frames := 1, cells := 0, slots := 0, locals := 12 } : Room) #[(.ref tk), (.ref ak), (.ref tx), (.ref vx), (.int ln), (.int cl)] Z h0 (own_QCT Z tk ak tx vx ln cl h0 n0) := by
  refine MetFree.of_bodySF (plainFor_of_name own_pn5) hisR ?_
  intro p e s m args below meth c s₁ Bd hml0 hP hK
  obtain ⟨rfl, hZ, hh⟩ := hP
  have hx := Bd.exec
  have hby := Bd.bytes
  have hlk : meth.locks = false := BodyLoose.notSynchronized Bd
  have hml : c.maxLocals = 6 := hml0
  have hown : s.vm.findClass "com/example/ianus/ianus/Token" = some m.cls := findClass_of_methodNamed Bd.named
  have hnm := (name_of_methodNamed Bd.named Bd.method).1
  have X0 : Stand p l e ({ frames := 1, cells := 0, slots := 0, locals := 12 } : Room) s m #[(.ref tk), (.ref ak), (.ref tx), (.ref vx), (.int ln), (.int cl)] below meth c s₁ [] 0 0 := Stand.of_body Bd
  have e0 : s₁.heap = h0 := by rw [← hh, Bd.state]; rfl
  have N0 := Fr.nil n0
  have KP : Keep h0 h0 [tk] := Keep.refl _ _
  refine own_start (Fin := (own_Fin s (own_QCT Z tk ak tx vx ln cl h0 n0) ({ frames := 1, cells := 0, slots := 0, locals := 12 } : Room).cells ({ frames := 1, cells := 0, slots := 0, locals := 12 } : Room).slots)) (own_from (mkF m 0 #[rv tk, rv ak, rv tx, rv vx, iv ln, iv cl] []) (castTop (own_ef_CT m tk ak tx vx ln cl)) ?_)
  refine own_aln 1 X0 hx (hb hby own_d373) rfl rfl rfl ?_
  obtain ⟨T213, X213, e213, st213⟩ := initO X0 hx hZ hown (own_w hw 67 rfl) (own_w hw 19 rfl) (own_w hw 20 rfl) e0 (g := (mkF m 1 #[rv tk, rv ak, rv tx, rv vx, iv ln, iv cl] [(.ref tk)])) rfl (by rw [hml]; rfl) rfl (hb hby own_d374) (by decide) (W := 0) (by show 2 * 0 + _ ≤ _; exact Nat.le_of_eq rfl) (by decide)
  refine own_to (mkF m 4 #[rv tk, rv ak, rv tx, rv vx, iv ln, iv cl] []) st213 ?_
  refine own_aln 5 X213 hx (hb hby own_d375) rfl rfl rfl ?_
  refine own_aln 6 X213 hx (hb hby own_d376) rfl rfl rfl ?_
  obtain ⟨T214, h214, X214, e214, W214, st214⟩ := putF X213 hx hZ hown (host := "") (Or.inl (own_w hw 68 rfl)) Via.refl e213 F_kind_tk E_tk (Or.inr ⟨(own_w hw 69 rfl), rfl, hnm⟩) (own_w hw 56 rfl) (ty := (.object "com/example/ianus/ianus/Token$Kind")) (by decide) rfl rfl (g := (mkF m 6 #[rv tk, rv ak, rv tx, rv vx, iv ln, iv cl] [(.ref ak), (.ref tk)])) rfl rfl (hb hby own_d377)
  refine own_to (mkF m 9 #[rv tk, rv ak, rv tx, rv vx, iv ln, iv cl] []) st214 ?_
  have N214 := Fr.snoc X214 N0 ge_tk
  have tmp214 : Fld Z h214 tk "com/example/ianus/ianus/Token" "kind" "Lcom/example/ianus/ianus/Token$Kind;" (.ref ak) := F_kind_tk.same W214
  have OL := OL.wr W214 ge_tk
  have KP := KP.wr W214 (Or.inl (List.mem_of_getElem? (i := 0) rfl))
  have E_tk := E_tk.wr W214
  have F_text_tk := F_text_tk.other W214 (Or.inr (slot_ne (Or.inr (own_w hw 71 rfl)) (Or.inr (own_w hw 69 rfl)) (by decide) (t := (.object "java/lang/String")) (t' := (.object "com/example/ianus/ianus/Token$Kind")) (by decide) (by decide)))
  have F_value_tk := F_value_tk.other W214 (Or.inr (slot_ne (Or.inr (own_w hw 73 rfl)) (Or.inr (own_w hw 69 rfl)) (by decide) (t := (.object "java/lang/String")) (t' := (.object "com/example/ianus/ianus/Token$Kind")) (by decide) (by decide)))
  have F_line_tk := F_line_tk.other W214 (Or.inr (slot_ne (Or.inr (own_w hw 75 rfl)) (Or.inr (own_w hw 69 rfl)) (by decide) (t := .int) (t' := (.object "com/example/ianus/ianus/Token$Kind")) (by decide) (by decide)))
  have F_column_tk := F_column_tk.other W214 (Or.inr (slot_ne (Or.inr (own_w hw 77 rfl)) (Or.inr (own_w hw 69 rfl)) (by decide) (t := .int) (t' := (.object "com/example/ianus/ianus/Token$Kind")) (by decide) (by decide)))
  have F_kind_tk := tmp214
  refine own_aln 10 X214 hx (hb hby own_d378) rfl rfl rfl ?_
  refine own_aln 11 X214 hx (hb hby own_d379) rfl rfl rfl ?_
  obtain ⟨T215, h215, X215, e215, W215, st215⟩ := putF X214 hx hZ hown (host := "") (Or.inl (own_w hw 70 rfl)) Via.refl e214 F_text_tk E_tk (Or.inr ⟨(own_w hw 71 rfl), rfl, hnm⟩) (own_w hw 56 rfl) (ty := (.object "java/lang/String")) (by decide) rfl rfl (g := (mkF m 11 #[rv tk, rv ak, rv tx, rv vx, iv ln, iv cl] [(.ref tx), (.ref tk)])) rfl rfl (hb hby own_d380)
  refine own_to (mkF m 14 #[rv tk, rv ak, rv tx, rv vx, iv ln, iv cl] []) st215 ?_
  have N215 := Fr.snoc X215 N214 ge_tk
  have tmp215 : Fld Z h215 tk "com/example/ianus/ianus/Token" "text" "Ljava/lang/String;" (.ref tx) := F_text_tk.same W215
  have OL := OL.wr W215 ge_tk
  have KP := KP.wr W215 (Or.inl (List.mem_of_getElem? (i := 0) rfl))
  have E_tk := E_tk.wr W215
  have F_kind_tk := F_kind_tk.other W215 (Or.inr (slot_ne (Or.inr (own_w hw 69 rfl)) (Or.inr (own_w hw 71 rfl)) (by decide) (t := (.object "com/example/ianus/ianus/Token$Kind")) (t' := (.object "java/lang/String")) (by decide) (by decide)))
  have F_value_tk := F_value_tk.other W215 (Or.inr (slot_ne (Or.inr (own_w hw 73 rfl)) (Or.inr (own_w hw 71 rfl)) (by decide) (t := (.object "java/lang/String")) (t' := (.object "java/lang/String")) (by decide) (by decide)))
  have F_line_tk := F_line_tk.other W215 (Or.inr (slot_ne (Or.inr (own_w hw 75 rfl)) (Or.inr (own_w hw 71 rfl)) (by decide) (t := .int) (t' := (.object "java/lang/String")) (by decide) (by decide)))
  have F_column_tk := F_column_tk.other W215 (Or.inr (slot_ne (Or.inr (own_w hw 77 rfl)) (Or.inr (own_w hw 71 rfl)) (by decide) (t := .int) (t' := (.object "java/lang/String")) (by decide) (by decide)))
  have F_text_tk := tmp215
  refine own_aln 15 X215 hx (hb hby own_d381) rfl rfl rfl ?_
  refine own_aln 16 X215 hx (hb hby own_d382) rfl rfl rfl ?_
  obtain ⟨T216, h216, X216, e216, W216, st216⟩ := putF X215 hx hZ hown (host := "") (Or.inl (own_w hw 72 rfl)) Via.refl e215 F_value_tk E_tk (Or.inr ⟨(own_w hw 73 rfl), rfl, hnm⟩) (own_w hw 56 rfl) (ty := (.object "java/lang/String")) (by decide) rfl rfl (g := (mkF m 16 #[rv tk, rv ak, rv tx, rv vx, iv ln, iv cl] [(.ref vx), (.ref tk)])) rfl rfl (hb hby own_d383)
  refine own_to (mkF m 19 #[rv tk, rv ak, rv tx, rv vx, iv ln, iv cl] []) st216 ?_
  have N216 := Fr.snoc X216 N215 ge_tk
  have tmp216 : Fld Z h216 tk "com/example/ianus/ianus/Token" "value" "Ljava/lang/String;" (.ref vx) := F_value_tk.same W216
  have OL := OL.wr W216 ge_tk
  have KP := KP.wr W216 (Or.inl (List.mem_of_getElem? (i := 0) rfl))
  have E_tk := E_tk.wr W216
  have F_kind_tk := F_kind_tk.other W216 (Or.inr (slot_ne (Or.inr (own_w hw 69 rfl)) (Or.inr (own_w hw 73 rfl)) (by decide) (t := (.object "com/example/ianus/ianus/Token$Kind")) (t' := (.object "java/lang/String")) (by decide) (by decide)))
  have F_text_tk := F_text_tk.other W216 (Or.inr (slot_ne (Or.inr (own_w hw 71 rfl)) (Or.inr (own_w hw 73 rfl)) (by decide) (t := (.object "java/lang/String")) (t' := (.object "java/lang/String")) (by decide) (by decide)))
  have F_line_tk := F_line_tk.other W216 (Or.inr (slot_ne (Or.inr (own_w hw 75 rfl)) (Or.inr (own_w hw 73 rfl)) (by decide) (t := .int) (t' := (.object "java/lang/String")) (by decide) (by decide)))
  have F_column_tk := F_column_tk.other W216 (Or.inr (slot_ne (Or.inr (own_w hw 77 rfl)) (Or.inr (own_w hw 73 rfl)) (by decide) (t := .int) (t' := (.object "java/lang/String")) (by decide) (by decide)))
  have F_value_tk := tmp216
  refine own_aln 20 X216 hx (hb hby own_d384) rfl rfl rfl ?_
  refine own_il 22 X216 hx (hb hby own_d385) rfl rfl ?_
  obtain ⟨T217, h217, X217, e217, W217, st217⟩ := putF X216 hx hZ hown (host := "") (Or.inl (own_w hw 74 rfl)) Via.refl e216 F_line_tk E_tk (Or.inr ⟨(own_w hw 75 rfl), rfl, hnm⟩) (own_w hw 56 rfl) (ty := .int) (by decide) rfl rfl (g := (mkF m 22 #[rv tk, rv ak, rv tx, rv vx, iv ln, iv cl] [(.int ln), (.ref tk)])) rfl rfl (hb hby own_d386)
  refine own_to (mkF m 25 #[rv tk, rv ak, rv tx, rv vx, iv ln, iv cl] []) st217 ?_
  have N217 := Fr.snoc X217 N216 ge_tk
  have tmp217 : Fld Z h217 tk "com/example/ianus/ianus/Token" "line" "I" (.int ln) := F_line_tk.same W217
  have OL := OL.wr W217 ge_tk
  have KP := KP.wr W217 (Or.inl (List.mem_of_getElem? (i := 0) rfl))
  have E_tk := E_tk.wr W217
  have F_kind_tk := F_kind_tk.other W217 (Or.inr (slot_ne (Or.inr (own_w hw 69 rfl)) (Or.inr (own_w hw 75 rfl)) (by decide) (t := (.object "com/example/ianus/ianus/Token$Kind")) (t' := .int) (by decide) (by decide)))
  have F_text_tk := F_text_tk.other W217 (Or.inr (slot_ne (Or.inr (own_w hw 71 rfl)) (Or.inr (own_w hw 75 rfl)) (by decide) (t := (.object "java/lang/String")) (t' := .int) (by decide) (by decide)))
  have F_value_tk := F_value_tk.other W217 (Or.inr (slot_ne (Or.inr (own_w hw 73 rfl)) (Or.inr (own_w hw 75 rfl)) (by decide) (t := (.object "java/lang/String")) (t' := .int) (by decide) (by decide)))
  have F_column_tk := F_column_tk.other W217 (Or.inr (slot_ne (Or.inr (own_w hw 77 rfl)) (Or.inr (own_w hw 75 rfl)) (by decide) (t := .int) (t' := .int) (by decide) (by decide)))
  have F_line_tk := tmp217
  refine own_aln 26 X217 hx (hb hby own_d387) rfl rfl rfl ?_
  refine own_il 28 X217 hx (hb hby own_d388) rfl rfl ?_
  obtain ⟨T218, h218, X218, e218, W218, st218⟩ := putF X217 hx hZ hown (host := "") (Or.inl (own_w hw 76 rfl)) Via.refl e217 F_column_tk E_tk (Or.inr ⟨(own_w hw 77 rfl), rfl, hnm⟩) (own_w hw 56 rfl) (ty := .int) (by decide) rfl rfl (g := (mkF m 28 #[rv tk, rv ak, rv tx, rv vx, iv ln, iv cl] [(.int cl), (.ref tk)])) rfl rfl (hb hby own_d389)
  refine own_to (mkF m 31 #[rv tk, rv ak, rv tx, rv vx, iv ln, iv cl] []) st218 ?_
  have N218 := Fr.snoc X218 N217 ge_tk
  have tmp218 : Fld Z h218 tk "com/example/ianus/ianus/Token" "column" "I" (.int cl) := F_column_tk.same W218
  have OL := OL.wr W218 ge_tk
  have KP := KP.wr W218 (Or.inl (List.mem_of_getElem? (i := 0) rfl))
  have E_tk := E_tk.wr W218
  have F_kind_tk := F_kind_tk.other W218 (Or.inr (slot_ne (Or.inr (own_w hw 69 rfl)) (Or.inr (own_w hw 77 rfl)) (by decide) (t := (.object "com/example/ianus/ianus/Token$Kind")) (t' := .int) (by decide) (by decide)))
  have F_text_tk := F_text_tk.other W218 (Or.inr (slot_ne (Or.inr (own_w hw 71 rfl)) (Or.inr (own_w hw 77 rfl)) (by decide) (t := (.object "java/lang/String")) (t' := .int) (by decide) (by decide)))
  have F_value_tk := F_value_tk.other W218 (Or.inr (slot_ne (Or.inr (own_w hw 73 rfl)) (Or.inr (own_w hw 77 rfl)) (by decide) (t := (.object "java/lang/String")) (t' := .int) (by decide) (by decide)))
  have F_line_tk := F_line_tk.other W218 (Or.inr (slot_ne (Or.inr (own_w hw 75 rfl)) (Or.inr (own_w hw 77 rfl)) (by decide) (t := .int) (t' := .int) (by decide) (by decide)))
  have F_column_tk := tmp218
  exact own_ret0 X218 hx Bd.returns hlk (hb hby own_d390) (by decide) (by decide) (by rw [e218]; exact ⟨rfl, N218, KP, E_tk, F_kind_tk, F_text_tk, F_line_tk, F_column_tk⟩)
def own_QIS_0 (Z : State) (G1 : Int32) (sx : Addr) (h0 : Heap) (n0 : Nat) (v : Option Value) (h : Heap) (L : List Loc) : Prop := v = some (.int (1 : Int32)) ∧ Fr n0 L ∧ h = h0
set_option maxRecDepth 65536 in
set_option maxHeartbeats 40000000 in
theorem own_rmIS_0 (l : Launch) (Z : State) (a0 : Array Value) (hw : ∀ d ∈ tables_1, d.before a0 Z = true) (ws : List Jvm.Cond) (G1 : Int32) (sx : Addr) (h0 : Heap) (n0 : Nat) (Z0 : n0 ≤ h0.size) (OL : Old Z n0 h0) (Fc : Fld Z h0 sx "java/lang/String" "coder" "B" (.int (0 : Int32))) (O2 : Sta Z Z.heap "java/lang/String" "COMPACT_STRINGS" "Z" (.int G1)) (P5 : ¬ (G1 = (0 : Int32))) :
    own_MF l (⟨"java/lang/String", "isLatin1", "()Z"⟩ : MethodName) (Jvm.Cond.code (⟨"java/lang/String", "isLatin1", "()Z"⟩ : MethodName) jdk_42_method_154_code 1 (some .boolean) :: ws) ({ frames := 0, cells := 0, slots := 0, locals := 0 } : Room) #[(.ref sx)] Z h0 (own_QIS_0 Z G1 sx h0 n0) := by
  refine MetFree.of_bodySF (plainFor_of_name own_pn0) hisR ?_
  intro p e s m args below meth c s₁ Bd hml0 hP hK
  obtain ⟨rfl, hZ, hh⟩ := hP
  have hx := Bd.exec
  have hby := Bd.bytes
  have hlk : meth.locks = false := BodyLoose.notSynchronized Bd
  have hml : c.maxLocals = 1 := hml0
  have hown : s.vm.findClass "java/lang/String" = some m.cls := findClass_of_methodNamed Bd.named
  have hnm := (name_of_methodNamed Bd.named Bd.method).1
  have X0 : Stand p l e ({ frames := 0, cells := 0, slots := 0, locals := 0 } : Room) s m #[(.ref sx)] below meth c s₁ [] 0 0 := Stand.of_body Bd
  have e0 : s₁.heap = h0 := by rw [← hh, Bd.state]; rfl
  have N0 := Fr.nil n0
  have KP : Keep h0 h0 [] := Keep.refl _ _
  refine own_start (Fin := (own_Fin s (own_QIS_0 Z G1 sx h0 n0) ({ frames := 0, cells := 0, slots := 0, locals := 0 } : Room).cells ({ frames := 0, cells := 0, slots := 0, locals := 0 } : Room).slots)) (own_from (mkF m 0 #[rv sx] []) (castTop (own_ef_IS_0 m sx)) ?_)
  obtain ⟨T219, X219, e219, st219⟩ := getS2 X0 hx hZ hown (host := "") (Or.inl (own_w hw 21 rfl)) Via.refl e0 (O2.ext OL.2) (g := (mkF m 0 #[rv sx] [])) rfl (hb hby own_d391)
  refine own_to (mkF m 3 #[rv sx] [(.int G1)]) st219 ?_
  refine own_ifN 6 X219 hx (hb hby own_d392) ((if0 _ _).trans (feq P5).1) rfl ?_
  refine own_aln 7 X219 hx (hb hby own_d393) rfl rfl rfl ?_
  obtain ⟨T220, X220, e220, st220⟩ := getF X219 hx hZ hown (host := "") (Or.inl (own_w hw 33 rfl)) Via.refl e219 Fc (g := (mkF m 7 #[rv sx] [(.ref sx)])) rfl rfl (hb hby own_d394)
  refine own_to (mkF m 10 #[rv sx] [(.int (0 : Int32))]) st220 ?_
  refine own_ifN 13 X220 hx (hb hby own_d395) ((if0 _ _).trans (teq (by decide : (0 : Int32) = (0 : Int32))).2) rfl ?_
  refine own_ic 14 1 X220 hx (hb hby own_d396) rfl rfl ?_
  refine own_go 18 X220 hx (hb hby own_d397) (by decide) (by decide) ?_
  exact own_retN X220 hx (t := .boolean) Bd.returns (by simp) hlk (hb hby own_d398) (by decide) (by decide) (by rw [e220]; exact ⟨rfl, N0, rfl⟩)
def own_QIS_1 (Z : State) (G1 : Int32) (sx : Addr) (h0 : Heap) (n0 : Nat) (v : Option Value) (h : Heap) (L : List Loc) : Prop := v = some (.int (0 : Int32)) ∧ Fr n0 L ∧ h = h0
set_option maxRecDepth 65536 in
set_option maxHeartbeats 40000000 in
theorem own_rmIS_1 (l : Launch) (Z : State) (a0 : Array Value) (hw : ∀ d ∈ tables_1, d.before a0 Z = true) (ws : List Jvm.Cond) (G1 : Int32) (sx : Addr) (h0 : Heap) (n0 : Nat) (Z0 : n0 ≤ h0.size) (OL : Old Z n0 h0) (Fc : Fld Z h0 sx "java/lang/String" "coder" "B" (.int (1 : Int32))) (O2 : Sta Z Z.heap "java/lang/String" "COMPACT_STRINGS" "Z" (.int G1)) (P5 : ¬ (G1 = (0 : Int32))) :
    own_MF l (⟨"java/lang/String", "isLatin1", "()Z"⟩ : MethodName) (Jvm.Cond.code (⟨"java/lang/String", "isLatin1", "()Z"⟩ : MethodName) jdk_42_method_154_code 1 (some .boolean) :: ws) ({ frames := 0, cells := 0, slots := 0, locals := 0 } : Room) #[(.ref sx)] Z h0 (own_QIS_1 Z G1 sx h0 n0) := by
  refine MetFree.of_bodySF (plainFor_of_name own_pn0) hisR ?_
  intro p e s m args below meth c s₁ Bd hml0 hP hK
  obtain ⟨rfl, hZ, hh⟩ := hP
  have hx := Bd.exec
  have hby := Bd.bytes
  have hlk : meth.locks = false := BodyLoose.notSynchronized Bd
  have hml : c.maxLocals = 1 := hml0
  have hown : s.vm.findClass "java/lang/String" = some m.cls := findClass_of_methodNamed Bd.named
  have hnm := (name_of_methodNamed Bd.named Bd.method).1
  have X0 : Stand p l e ({ frames := 0, cells := 0, slots := 0, locals := 0 } : Room) s m #[(.ref sx)] below meth c s₁ [] 0 0 := Stand.of_body Bd
  have e0 : s₁.heap = h0 := by rw [← hh, Bd.state]; rfl
  have N0 := Fr.nil n0
  have KP : Keep h0 h0 [] := Keep.refl _ _
  refine own_start (Fin := (own_Fin s (own_QIS_1 Z G1 sx h0 n0) ({ frames := 0, cells := 0, slots := 0, locals := 0 } : Room).cells ({ frames := 0, cells := 0, slots := 0, locals := 0 } : Room).slots)) (own_from (mkF m 0 #[rv sx] []) (castTop (own_ef_IS_1 m sx)) ?_)
  obtain ⟨T221, X221, e221, st221⟩ := getS2 X0 hx hZ hown (host := "") (Or.inl (own_w hw 21 rfl)) Via.refl e0 (O2.ext OL.2) (g := (mkF m 0 #[rv sx] [])) rfl (hb hby own_d391)
  refine own_to (mkF m 3 #[rv sx] [(.int G1)]) st221 ?_
  refine own_ifN 6 X221 hx (hb hby own_d392) ((if0 _ _).trans (feq P5).1) rfl ?_
  refine own_aln 7 X221 hx (hb hby own_d393) rfl rfl rfl ?_
  obtain ⟨T222, X222, e222, st222⟩ := getF X221 hx hZ hown (host := "") (Or.inl (own_w hw 33 rfl)) Via.refl e221 Fc (g := (mkF m 7 #[rv sx] [(.ref sx)])) rfl rfl (hb hby own_d394)
  refine own_to (mkF m 10 #[rv sx] [(.int (1 : Int32))]) st222 ?_
  refine own_ifY 17 X222 hx (hb hby own_d395) ((if0 _ _).trans (feq (by decide : ¬ ((1 : Int32) = (0 : Int32)))).2) (by decide) (by decide) ?_
  refine own_ic 18 0 X222 hx (hb hby own_d399) rfl rfl ?_
  exact own_retN X222 hx (t := .boolean) Bd.returns (by simp) hlk (hb hby own_d398) (by decide) (by decide) (by rw [e222]; exact ⟨rfl, N0, rfl⟩)
def own_QPC0_0 (Z : State)  (h0 : Heap) (n0 : Nat) (v : Option Value) (h : Heap) (L : List Loc) : Prop := v = some (.int 0) ∧ Fr n0 L ∧ h = h0
set_option maxRecDepth 65536 in
set_option maxHeartbeats 40000000 in
theorem own_rmPC0_0 (l : Launch) (Z : State) (a0 : Array Value) (hw : ∀ d ∈ tables_1, d.before a0 Z = true) (ws : List Jvm.Cond)  (h0 : Heap) (n0 : Nat) (Z0 : n0 ≤ h0.size) (OL : Old Z n0 h0)  :
    own_MF l (⟨"jdk/internal/util/Preconditions", "checkFromToIndex", "(IIILjava/util/function/BiFunction;)I"⟩ : MethodName) (Jvm.Cond.code (⟨"jdk/internal/util/Preconditions", "checkFromToIndex", "(IIILjava/util/function/BiFunction;)I"⟩ : MethodName) jdk_41_method_12_code 4 (some .int) :: ws) ({ frames := 0, cells := 0, slots := 0, locals := 0 } : Room) #[(.int (0 : Int32)), (.int (0 : Int32)), (.int (0 : Int32)), .null] Z h0 (own_QPC0_0 Z  h0 n0) := by
  refine MetFree.of_bodySF (plainFor_of_name own_pn6) hisR ?_
  intro p e s m args below meth c s₁ Bd hml0 hP hK
  obtain ⟨rfl, hZ, hh⟩ := hP
  have hx := Bd.exec
  have hby := Bd.bytes
  have hlk : meth.locks = false := BodyLoose.notSynchronized Bd
  have hml : c.maxLocals = 4 := hml0
  have hown : s.vm.findClass "jdk/internal/util/Preconditions" = some m.cls := findClass_of_methodNamed Bd.named
  have hnm := (name_of_methodNamed Bd.named Bd.method).1
  have X0 : Stand p l e ({ frames := 0, cells := 0, slots := 0, locals := 0 } : Room) s m #[(.int (0 : Int32)), (.int (0 : Int32)), (.int (0 : Int32)), .null] below meth c s₁ [] 0 0 := Stand.of_body Bd
  have e0 : s₁.heap = h0 := by rw [← hh, Bd.state]; rfl
  have N0 := Fr.nil n0
  have KP : Keep h0 h0 [] := Keep.refl _ _
  refine own_start (Fin := (own_Fin s (own_QPC0_0 Z  h0 n0) ({ frames := 0, cells := 0, slots := 0, locals := 0 } : Room).cells ({ frames := 0, cells := 0, slots := 0, locals := 0 } : Room).slots)) (own_from (mkF m 0 #[iv 0, iv 0, iv 0, .val .null] []) (castTop (own_ef_PC0_0 m (0 : Int32) (0 : Int32) (0 : Int32))) ?_)
  refine own_iln 1 X0 hx (hb hby own_d400) rfl rfl ?_
  refine own_ifN 4 X0 hx (hb hby own_d401) ((if0 _ _).trans (flt (by decide : ¬ ((0 : Int32) < (0 : Int32)))).1) rfl ?_
  refine own_iln 5 X0 hx (hb hby own_d402) rfl rfl ?_
  refine own_iln 6 X0 hx (hb hby own_d403) rfl rfl ?_
  refine own_icN 9 X0 hx (hb hby own_d404) (flt (by decide : ¬ ((0 : Int32) < (0 : Int32)))).2.2.1 rfl ?_
  refine own_iln 10 X0 hx (hb hby own_d405) rfl rfl ?_
  refine own_iln 11 X0 hx (hb hby own_d406) rfl rfl ?_
  refine own_icY 22 X0 hx (hb hby own_d407) (flt (by decide : ¬ ((0 : Int32) < (0 : Int32)))).2.2.2 (by decide) (by decide) ?_
  refine own_iln 23 X0 hx (hb hby own_d408) rfl rfl ?_
  exact own_retI X0 hx Bd.returns hlk (hb hby own_d409) (by decide) (by decide) (by rw [e0]; exact ⟨rfl, N0, rfl⟩)
def own_QOC_0 (Z : State)  (h0 : Heap) (n0 : Nat) (v : Option Value) (h : Heap) (L : List Loc) : Prop := v = some (.int 0) ∧ Fr n0 L ∧ h = h0
set_option maxRecDepth 65536 in
set_option maxHeartbeats 40000000 in
theorem own_rmOC_0 (l : Launch) (Z : State) (a0 : Array Value) (hw : ∀ d ∈ tables_1, d.before a0 Z = true) (ws : List Jvm.Cond)  (h0 : Heap) (n0 : Nat) (Z0 : n0 ≤ h0.size) (OL : Old Z n0 h0)  :
    own_MF l (⟨"java/util/Objects", "checkFromToIndex", "(III)I"⟩ : MethodName) (Jvm.Cond.code (⟨"java/util/Objects", "checkFromToIndex", "(III)I"⟩ : MethodName) jdk_31_method_18_code 3 (some .int) :: ws) ({ frames := 1, cells := 0, slots := 0, locals := 16 } : Room) #[(.int (0 : Int32)), (.int (0 : Int32)), (.int (0 : Int32))] Z h0 (own_QOC_0 Z  h0 n0) := by
  refine MetFree.of_bodySF (plainFor_of_name own_pn7) hisR ?_
  intro p e s m args below meth c s₁ Bd hml0 hP hK
  obtain ⟨rfl, hZ, hh⟩ := hP
  have hx := Bd.exec
  have hby := Bd.bytes
  have hlk : meth.locks = false := BodyLoose.notSynchronized Bd
  have hml : c.maxLocals = 3 := hml0
  have hown : s.vm.findClass "java/util/Objects" = some m.cls := findClass_of_methodNamed Bd.named
  have hnm := (name_of_methodNamed Bd.named Bd.method).1
  have X0 : Stand p l e ({ frames := 1, cells := 0, slots := 0, locals := 16 } : Room) s m #[(.int (0 : Int32)), (.int (0 : Int32)), (.int (0 : Int32))] below meth c s₁ [] 0 0 := Stand.of_body Bd
  have e0 : s₁.heap = h0 := by rw [← hh, Bd.state]; rfl
  have N0 := Fr.nil n0
  have KP : Keep h0 h0 [] := Keep.refl _ _
  refine own_start (Fin := (own_Fin s (own_QOC_0 Z  h0 n0) ({ frames := 1, cells := 0, slots := 0, locals := 16 } : Room).cells ({ frames := 1, cells := 0, slots := 0, locals := 16 } : Room).slots)) (own_from (mkF m 0 #[iv 0, iv 0, iv 0] []) (castTop (own_ef_OC_0 m (0 : Int32) (0 : Int32) (0 : Int32))) ?_)
  refine own_iln 1 X0 hx (hb hby own_d410) rfl rfl ?_
  refine own_iln 2 X0 hx (hb hby own_d411) rfl rfl ?_
  refine own_iln 3 X0 hx (hb hby own_d412) rfl rfl ?_
  refine own_nul 4 X0 hx (hb hby own_d413) rfl ?_
  obtain ⟨_, T223, Lc223, X223, hQ223, st223⟩ := own_callS X0 hx (y := (⟨"jdk/internal/util/Preconditions", "checkFromToIndex", "(IIILjava/util/function/BiFunction;)I"⟩ : MethodName)) hown (mvT hZ (own_w hw 135 rfl)) (mvT hZ (own_w hw 136 rfl)) (mvT hZ (own_w hw 137 rfl)) (mvT hZ (own_w hw 138 rfl)) (by decide) (backOf (W := 0) (own_rmPC0_0 l Z a0 hw []  h0 n0 (Nat.le_trans Z0 KP.1) OL ) hZ (own_w hw 138 rfl) (own_w hw 137 rfl) (by decide) (by decide)) (g := (mkF m 4 #[iv 0, iv 0, iv 0] [.null, (.int (0 : Int32)), (.int (0 : Int32)), (.int (0 : Int32))])) rfl (by rw [hml]; rfl) (argsL := [(.int (0 : Int32)), (.int (0 : Int32)), (.int (0 : Int32)), .null]) (rest := []) (lenOf own_pd12 rfl) rfl (by show 2 * 0 + _ ≤ _; exact Nat.le_of_eq rfl) (hb hby own_d414) rfl e0 (kc := 0) (ks := 0) rfl rfl (by decide) (by decide)
  obtain ⟨rfl, N223q, e223⟩ := hQ223
  have N223 := Fr.app N0 N223q
  refine own_to (mkF m 7 #[iv 0, iv 0, iv 0] [(.int (0 : Int32))]) st223 ?_
  exact own_retI X223 hx Bd.returns hlk (hb hby own_d415) (by decide) (by decide) (by rw [e223]; exact ⟨rfl, N223, rfl⟩)
def own_QCZ_0 (Z : State)  (G1 : Int32) (b : Addr) (kb : ClassId) (h0 : Heap) (n0 : Nat) (v : Option Value) (h : Heap) (L : List Loc) : Prop := ∃ r : Int32, v = some (.int r) ∧ own_P0 r ∧ Fr n0 L ∧ h = h0
set_option maxRecDepth 65536 in
set_option maxHeartbeats 40000000 in
theorem own_rmCZ_0 (l : Launch) (Z : State) (a0 : Array Value) (hw : ∀ d ∈ tables_1, d.before a0 Z = true) (ws : List Jvm.Cond)  (G1 : Int32) (b : Addr) (kb : ClassId) (h0 : Heap) (n0 : Nat) (Z0 : n0 ≤ h0.size) (OL : Old Z n0 h0)  (Vb : Arv Z h0 b kb .byte (0 : Int32) [] (.int (0 : Int32))) (O2 : Sta Z Z.heap "java/lang/String" "COMPACT_STRINGS" "Z" (.int G1)) (P5 : ¬ (G1 = (0 : Int32))) (OAD : Sta Z Z.heap "java/lang/StringUTF16" "$assertionsDisabled" "Z" (.int (1 : Int32))) (OHI : Sta Z Z.heap "java/lang/StringUTF16" "HI_BYTE_SHIFT" "I" (.int (0 : Int32))) (OLO : Sta Z Z.heap "java/lang/StringUTF16" "LO_BYTE_SHIFT" "I" (.int (8 : Int32))) :
    own_MF l (⟨"java/lang/StringUTF16", "codePointCount", "([BIIZ)I"⟩ : MethodName) (Jvm.Cond.code (⟨"java/lang/StringUTF16", "codePointCount", "([BIIZ)I"⟩ : MethodName) jdk_52_method_11_code 6 (some .int) :: ws) ({ frames := 1, cells := 0, slots := 0, locals := 20 } : Room) #[(.ref b), (.int (0 : Int32)), (.int (0 : Int32)), (.int (0 : Int32))] Z h0 (own_QCZ_0 Z  G1 b kb h0 n0) := by
  refine MetFree.of_bodySF (plainFor_of_name own_pn1) hisR ?_
  intro p e s m args below meth c s₁ Bd hml0 hP hK
  obtain ⟨rfl, hZ, hh⟩ := hP
  have hx := Bd.exec
  have hby := Bd.bytes
  have hlk : meth.locks = false := BodyLoose.notSynchronized Bd
  have hml : c.maxLocals = 6 := hml0
  have hown : s.vm.findClass "java/lang/StringUTF16" = some m.cls := findClass_of_methodNamed Bd.named
  have hnm := (name_of_methodNamed Bd.named Bd.method).1
  have X0 : Stand p l e ({ frames := 1, cells := 0, slots := 0, locals := 20 } : Room) s m #[(.ref b), (.int (0 : Int32)), (.int (0 : Int32)), (.int (0 : Int32))] below meth c s₁ [] 0 0 := Stand.of_body Bd
  have e0 : s₁.heap = h0 := by rw [← hh, Bd.state]; rfl
  have N0 := Fr.nil n0
  have KP : Keep h0 h0 [] := Keep.refl _ _
  refine own_start (Fin := (own_Fin s (own_QCZ_0 Z  G1 b kb h0 n0) ({ frames := 1, cells := 0, slots := 0, locals := 20 } : Room).cells ({ frames := 1, cells := 0, slots := 0, locals := 20 } : Room).slots)) (own_from (mkF m 0 #[rv b, iv 0, iv 0, iv 0, .unset, .unset] []) (castTop (own_ef_CZ_0 m b (0 : Int32) (0 : Int32) (0 : Int32))) ?_)
  obtain ⟨T224, X224, e224, st224⟩ := getS2 X0 hx hZ hown (host := "") (Or.inl (own_w hw 97 rfl)) Via.refl e0 (OAD.ext OL.2) (g := (mkF m 0 #[rv b, iv 0, iv 0, iv 0, .unset, .unset] [])) rfl (hb hby own_d416)
  refine own_to (mkF m 3 #[rv b, iv 0, iv 0, iv 0, .unset, .unset] [(.int (1 : Int32))]) st224 ?_
  refine own_ifY 19 X224 hx (hb hby own_d417) ((if0 _ _).trans (feq (by decide : ¬ ((1 : Int32) = (0 : Int32)))).2) (by decide) (by decide) ?_
  refine own_iln 20 X224 hx (hb hby own_d418) rfl rfl ?_
  refine own_iln 21 X224 hx (hb hby own_d419) rfl rfl ?_
  refine own_isub 22 X224 hx (hb hby own_d420) (z := (0 : Int32)) rfl rfl ?_
  refine own_is 24 #[rv b, iv 0, iv 0, iv 0, iv 0, .unset] X224 hx (hb hby own_d421) rfl rfl ?_
  refine own_iln 25 X224 hx (hb hby own_d422) rfl rfl ?_
  refine own_is 27 #[rv b, iv 0, iv 0, iv 0, iv 0, iv 0] X224 hx (hb hby own_d423) rfl rfl ?_
  refine own_iln 28 X224 hx (hb hby own_d424) rfl rfl ?_
  refine own_ifY 44 X224 hx (hb hby own_d425) ((if0 _ _).trans (teq (by decide : (0 : Int32) = (0 : Int32))).1) (by decide) (by decide) ?_
  refine own_il 46 X224 hx (hb hby own_d426) rfl rfl ?_
  refine own_iln 47 X224 hx (hb hby own_d427) rfl rfl ?_
  refine own_ic 48 1 X224 hx (hb hby own_d428) rfl rfl ?_
  refine own_isub 49 X224 hx (hb hby own_d429) (z := (-1 : Int32)) rfl rfl ?_
  refine own_icY 88 X224 hx (hb hby own_d430) (flt (by decide : ¬ ((0 : Int32) < (-1 : Int32)))).2.1 (by decide) (by decide) ?_
  refine own_il 90 X224 hx (hb hby own_d431) rfl rfl ?_
  exact own_retI X224 hx Bd.returns hlk (hb hby own_d432) (by decide) (by decide) (by rw [e224]; exact ⟨_, rfl, rfl, N0, rfl⟩)
def own_QCU_0 (Z : State)  (G1 : Int32) (b : Addr) (kb : ClassId) (h0 : Heap) (n0 : Nat) (v : Option Value) (h : Heap) (L : List Loc) : Prop := ∃ r : Int32, v = some (.int r) ∧ own_P0 r ∧ Fr n0 L ∧ h = h0
set_option maxRecDepth 65536 in
set_option maxHeartbeats 40000000 in
theorem own_rmCU_0 (l : Launch) (Z : State) (a0 : Array Value) (hw : ∀ d ∈ tables_1, d.before a0 Z = true) (ws : List Jvm.Cond)  (G1 : Int32) (b : Addr) (kb : ClassId) (h0 : Heap) (n0 : Nat) (Z0 : n0 ≤ h0.size) (OL : Old Z n0 h0)  (Vb : Arv Z h0 b kb .byte (0 : Int32) [] (.int (0 : Int32))) (O2 : Sta Z Z.heap "java/lang/String" "COMPACT_STRINGS" "Z" (.int G1)) (P5 : ¬ (G1 = (0 : Int32))) (OAD : Sta Z Z.heap "java/lang/StringUTF16" "$assertionsDisabled" "Z" (.int (1 : Int32))) (OHI : Sta Z Z.heap "java/lang/StringUTF16" "HI_BYTE_SHIFT" "I" (.int (0 : Int32))) (OLO : Sta Z Z.heap "java/lang/StringUTF16" "LO_BYTE_SHIFT" "I" (.int (8 : Int32))) :
    own_MF l (⟨"java/lang/StringUTF16", "codePointCount", "([BII)I"⟩ : MethodName) (Jvm.Cond.code (⟨"java/lang/StringUTF16", "codePointCount", "([BII)I"⟩ : MethodName) jdk_52_method_12_code 3 (some .int) :: ws) ({ frames := 2, cells := 0, slots := 0, locals := 40 } : Room) #[(.ref b), (.int (0 : Int32)), (.int (0 : Int32))] Z h0 (own_QCU_0 Z  G1 b kb h0 n0) := by
  refine MetFree.of_bodySF (plainFor_of_name own_pn1) hisR ?_
  intro p e s m args below meth c s₁ Bd hml0 hP hK
  obtain ⟨rfl, hZ, hh⟩ := hP
  have hx := Bd.exec
  have hby := Bd.bytes
  have hlk : meth.locks = false := BodyLoose.notSynchronized Bd
  have hml : c.maxLocals = 3 := hml0
  have hown : s.vm.findClass "java/lang/StringUTF16" = some m.cls := findClass_of_methodNamed Bd.named
  have hnm := (name_of_methodNamed Bd.named Bd.method).1
  have X0 : Stand p l e ({ frames := 2, cells := 0, slots := 0, locals := 40 } : Room) s m #[(.ref b), (.int (0 : Int32)), (.int (0 : Int32))] below meth c s₁ [] 0 0 := Stand.of_body Bd
  have e0 : s₁.heap = h0 := by rw [← hh, Bd.state]; rfl
  have N0 := Fr.nil n0
  have KP : Keep h0 h0 [] := Keep.refl _ _
  refine own_start (Fin := (own_Fin s (own_QCU_0 Z  G1 b kb h0 n0) ({ frames := 2, cells := 0, slots := 0, locals := 40 } : Room).cells ({ frames := 2, cells := 0, slots := 0, locals := 40 } : Room).slots)) (own_from (mkF m 0 #[rv b, iv 0, iv 0] []) (castTop (own_ef_CU_0 m b (0 : Int32) (0 : Int32))) ?_)
  refine own_aln 1 X0 hx (hb hby own_d433) rfl rfl rfl ?_
  refine own_iln 2 X0 hx (hb hby own_d434) rfl rfl ?_
  refine own_iln 3 X0 hx (hb hby own_d435) rfl rfl ?_
  refine own_ic 4 0 X0 hx (hb hby own_d436) rfl rfl ?_
  obtain ⟨_, T225, Lc225, X225, hQ225, st225⟩ := own_callS X0 hx (y := (⟨"java/lang/StringUTF16", "codePointCount", "([BIIZ)I"⟩ : MethodName)) hown (mvT hZ (own_w hw 147 rfl)) (mvT hZ (own_w hw 148 rfl)) (mvT hZ (own_w hw 24 rfl)) (mvT hZ (own_w hw 149 rfl)) (by decide) (backOf (W := 0) (own_rmCZ_0 l Z a0 hw [] G1 b kb h0 n0 (Nat.le_trans Z0 KP.1) OL  Vb O2 P5 OAD OHI OLO) hZ (own_w hw 149 rfl) (own_w hw 24 rfl) (by decide) (by decide)) (g := (mkF m 4 #[rv b, iv 0, iv 0] [(.int (0 : Int32)), (.int (0 : Int32)), (.int (0 : Int32)), (.ref b)])) rfl (by rw [hml]; rfl) (argsL := [(.ref b), (.int (0 : Int32)), (.int (0 : Int32)), (.int (0 : Int32))]) (rest := []) (lenOf own_pd13 rfl) rfl (by show 2 * 0 + _ ≤ _; exact Nat.le_of_eq rfl) (hb hby own_d437) rfl e0 (kc := 0) (ks := 0) rfl rfl (by decide) (by decide)
  obtain ⟨rr, rfl, hrr, N225q, e225⟩ := hQ225
  have N225 := Fr.app N0 N225q
  refine own_to (mkF m 7 #[rv b, iv 0, iv 0] [(.int rr)]) st225 ?_
  exact own_retI X225 hx Bd.returns hlk (hb hby own_d438) (by decide) (by decide) (by rw [e225]; exact ⟨_, rfl, hrr, N225, rfl⟩)
def own_QCP_0 (Z : State)  (G1 : Int32) (sx tx : Addr) (kx : ClassId) (h0 : Heap) (n0 : Nat) (v : Option Value) (h : Heap) (L : List Loc) : Prop := ∃ r : Int32, v = some (.int r) ∧ own_P0 r ∧ Fr n0 L ∧ h = h0
set_option maxRecDepth 65536 in
set_option maxHeartbeats 40000000 in
theorem own_rmCP_0 (l : Launch) (Z : State) (a0 : Array Value) (hw : ∀ d ∈ tables_1, d.before a0 Z = true) (ws : List Jvm.Cond)  (G1 : Int32) (sx tx : Addr) (kx : ClassId) (h0 : Heap) (n0 : Nat) (Z0 : n0 ≤ h0.size) (OL : Old Z n0 h0)  (SS : own_S0 Z h0 sx tx kx ) (O2 : Sta Z Z.heap "java/lang/String" "COMPACT_STRINGS" "Z" (.int G1)) (P5 : ¬ (G1 = (0 : Int32))) (OAD : Sta Z Z.heap "java/lang/StringUTF16" "$assertionsDisabled" "Z" (.int (1 : Int32))) (OHI : Sta Z Z.heap "java/lang/StringUTF16" "HI_BYTE_SHIFT" "I" (.int (0 : Int32))) (OLO : Sta Z Z.heap "java/lang/StringUTF16" "LO_BYTE_SHIFT" "I" (.int (8 : Int32))) :
    own_MF l (⟨"java/lang/String", "codePointCount", "(II)I"⟩ : MethodName) (Jvm.Cond.code (⟨"java/lang/String", "codePointCount", "(II)I"⟩ : MethodName) jdk_42_method_59_code 3 (some .int) :: ws) ({ frames := 3, cells := 0, slots := 0, locals := 60 } : Room) #[(.ref sx), (.int (0 : Int32)), (.int (0 : Int32))] Z h0 (own_QCP_0 Z  G1 sx tx kx h0 n0) := by
  refine MetFree.of_bodySF (plainFor_of_name own_pn0) hisR ?_
  intro p e s m args below meth c s₁ Bd hml0 hP hK
  obtain ⟨rfl, hZ, hh⟩ := hP
  have hx := Bd.exec
  have hby := Bd.bytes
  have hlk : meth.locks = false := BodyLoose.notSynchronized Bd
  have hml : c.maxLocals = 3 := hml0
  have hown : s.vm.findClass "java/lang/String" = some m.cls := findClass_of_methodNamed Bd.named
  have hnm := (name_of_methodNamed Bd.named Bd.method).1
  have X0 : Stand p l e ({ frames := 3, cells := 0, slots := 0, locals := 60 } : Room) s m #[(.ref sx), (.int (0 : Int32)), (.int (0 : Int32))] below meth c s₁ [] 0 0 := Stand.of_body Bd
  have e0 : s₁.heap = h0 := by rw [← hh, Bd.state]; rfl
  have N0 := Fr.nil n0
  have KP : Keep h0 h0 [] := Keep.refl _ _
  refine own_start (Fin := (own_Fin s (own_QCP_0 Z  G1 sx tx kx h0 n0) ({ frames := 3, cells := 0, slots := 0, locals := 60 } : Room).cells ({ frames := 3, cells := 0, slots := 0, locals := 60 } : Room).slots)) (own_from (mkF m 0 #[rv sx, iv 0, iv 0] []) (castTop (own_ef_CP_0 m sx (0 : Int32) (0 : Int32))) ?_)
  rcases SS with ⟨hA, SG⟩ | SG
  · obtain ⟨E_sx, Fv, Fc, Va⟩ := id SG
    have SL : own_StrL Z h0 sx tx (0 : Int32) (0 : Int32) := ⟨_, _, _, _, SG, Or.inl ⟨rfl, rfl⟩⟩
    refine own_iln 1 X0 hx (hb hby own_d439) rfl rfl ?_
    refine own_iln 2 X0 hx (hb hby own_d440) rfl rfl ?_
    refine own_aln 3 X0 hx (hb hby own_d441) rfl rfl rfl ?_
    obtain ⟨cq226, kq226, q226a, q226b, q226c⟩ := isOf hZ e0 E_sx
    obtain ⟨_, T226, Lc226, X226, hQ226, st226⟩ := own_virtual X0 hx (y := (⟨"java/lang/String", "length", "()I"⟩ : MethodName)) (z := (⟨"java/lang/String", "length", "()I"⟩ : MethodName)) hown (mvT hZ (own_w hw 130 rfl)) (mvT hZ (own_w hw 116 rfl)) (notFace_of_selects (args := #[]) (mvT hZ (own_w hw 118 rfl))) (mvT hZ (own_w hw 118 rfl)) (mvT hZ (own_w hw 117 rfl)) (by decide) (backOf (W := 2) (own_rmLN_0 l Z a0 hw [] G1 sx tx h0 n0 (Nat.le_trans Z0 KP.1) OL SL O2 P5) hZ (own_w hw 119 rfl) (own_w hw 6 rfl) (by decide) (by decide)) q226a q226c (g := (mkF m 3 #[rv sx, iv 0, iv 0] [(.ref sx), (.int (0 : Int32)), (.int (0 : Int32))])) rfl (by rw [hml]; rfl) (argsL := []) (rest := [(.int (0 : Int32)), (.int (0 : Int32))]) (lenOf own_pd14 rfl) rfl (by show 2 * 0 + _ ≤ _; exact Nat.le_of_eq rfl) (hb hby own_d442) rfl e0 (kc := 0) (ks := 0) rfl rfl (by decide) (by decide)
    obtain ⟨rfl, N226q, e226⟩ := hQ226
    have N226 := Fr.app N0 N226q
    refine own_via (mkF m 6 #[rv sx, iv 0, iv 0] [(.int (0 : Int32)), (.int (0 : Int32)), (.int (0 : Int32))]) st226 ?_
    obtain ⟨_, T227, Lc227, X227, hQ227, st227⟩ := own_callS X226 hx (y := (⟨"java/util/Objects", "checkFromToIndex", "(III)I"⟩ : MethodName)) hown (mvT hZ (own_w hw 131 rfl)) (mvT hZ (own_w hw 132 rfl)) (mvT hZ (own_w hw 133 rfl)) (mvT hZ (own_w hw 134 rfl)) (by decide) (backOf (W := 0) (own_rmOC_0 l Z a0 hw []  h0 n0 (Nat.le_trans Z0 KP.1) OL ) hZ (own_w hw 134 rfl) (own_w hw 133 rfl) (by decide) (by decide)) (g := (mkF m 6 #[rv sx, iv 0, iv 0] [(.int (0 : Int32)), (.int (0 : Int32)), (.int (0 : Int32))])) rfl (by rw [hml]; rfl) (argsL := [(.int (0 : Int32)), (.int (0 : Int32)), (.int (0 : Int32))]) (rest := []) (lenOf own_pd15 rfl) rfl (by show 2 * 0 + _ ≤ _; exact Nat.le_of_eq rfl) (hb hby own_d443) rfl e226 (kc := 0) (ks := 0) rfl rfl (by decide) (by decide)
    obtain ⟨rfl, N227q, e227⟩ := hQ227
    have N227 := Fr.app N226 N227q
    refine own_to (mkF m 9 #[rv sx, iv 0, iv 0] [(.int (0 : Int32))]) st227 ?_
    refine own_to (T' := T227) (mkF m 10 #[rv sx, iv 0, iv 0] []) (fun _ k => XS.pop X227.here hx rfl (hb hby own_d444) rfl rfl k) ?_
    refine own_aln 11 X227 hx (hb hby own_d445) rfl rfl rfl ?_
    obtain ⟨cq228, kq228, q228a, q228b, q228c⟩ := isOf hZ e227 E_sx
    obtain ⟨_, T228, Lc228, X228, hQ228, st228⟩ := own_virtual X227 hx (y := (⟨"java/lang/String", "isLatin1", "()Z"⟩ : MethodName)) (z := (⟨"java/lang/String", "isLatin1", "()Z"⟩ : MethodName)) hown (mvT hZ (own_w hw 139 rfl)) (mvT hZ (own_w hw 140 rfl)) (notFace_of_selects (args := #[]) (mvT hZ (own_w hw 142 rfl))) (mvT hZ (own_w hw 142 rfl)) (mvT hZ (own_w hw 141 rfl)) (by decide) (backOf (W := 0) (own_rmIS_0 l Z a0 hw [] G1 sx h0 n0 (Nat.le_trans Z0 KP.1) OL Fc O2 P5) hZ (own_w hw 143 rfl) (own_w hw 6 rfl) (by decide) (by decide)) q228a q228c (g := (mkF m 11 #[rv sx, iv 0, iv 0] [(.ref sx)])) rfl (by rw [hml]; rfl) (argsL := []) (rest := []) (lenOf own_pd16 rfl) rfl (by show 2 * 0 + _ ≤ _; exact Nat.le_of_eq rfl) (hb hby own_d446) rfl e227 (kc := 0) (ks := 0) rfl rfl (by decide) (by decide)
    obtain ⟨rfl, N228q, e228⟩ := hQ228
    have N228 := Fr.app N227 N228q
    refine own_via (mkF m 14 #[rv sx, iv 0, iv 0] [(.int (1 : Int32))]) st228 ?_
    refine own_ifN 17 X228 hx (hb hby own_d447) ((if0 _ _).trans (feq (by decide : ¬ ((1 : Int32) = (0 : Int32)))).1) rfl ?_
    refine own_iln 18 X228 hx (hb hby own_d448) rfl rfl ?_
    refine own_iln 19 X228 hx (hb hby own_d449) rfl rfl ?_
    refine own_isub 20 X228 hx (hb hby own_d450) (z := (0 : Int32)) rfl rfl ?_
    exact own_retI X228 hx Bd.returns hlk (hb hby own_d451) (by decide) (by decide) (by rw [e228]; exact ⟨_, rfl, hA, N228, rfl⟩)
  · obtain ⟨E_sx, Fv, Fc, Va⟩ := id SG
    have SL : own_StrL Z h0 sx tx (0 : Int32) (0 : Int32) := ⟨_, _, _, _, SG, Or.inr ⟨rfl, rfl⟩⟩
    refine own_iln 1 X0 hx (hb hby own_d439) rfl rfl ?_
    refine own_iln 2 X0 hx (hb hby own_d440) rfl rfl ?_
    refine own_aln 3 X0 hx (hb hby own_d441) rfl rfl rfl ?_
    obtain ⟨cq229, kq229, q229a, q229b, q229c⟩ := isOf hZ e0 E_sx
    obtain ⟨_, T229, Lc229, X229, hQ229, st229⟩ := own_virtual X0 hx (y := (⟨"java/lang/String", "length", "()I"⟩ : MethodName)) (z := (⟨"java/lang/String", "length", "()I"⟩ : MethodName)) hown (mvT hZ (own_w hw 130 rfl)) (mvT hZ (own_w hw 116 rfl)) (notFace_of_selects (args := #[]) (mvT hZ (own_w hw 118 rfl))) (mvT hZ (own_w hw 118 rfl)) (mvT hZ (own_w hw 117 rfl)) (by decide) (backOf (W := 2) (own_rmLN_0 l Z a0 hw [] G1 sx tx h0 n0 (Nat.le_trans Z0 KP.1) OL SL O2 P5) hZ (own_w hw 119 rfl) (own_w hw 6 rfl) (by decide) (by decide)) q229a q229c (g := (mkF m 3 #[rv sx, iv 0, iv 0] [(.ref sx), (.int (0 : Int32)), (.int (0 : Int32))])) rfl (by rw [hml]; rfl) (argsL := []) (rest := [(.int (0 : Int32)), (.int (0 : Int32))]) (lenOf own_pd14 rfl) rfl (by show 2 * 0 + _ ≤ _; exact Nat.le_of_eq rfl) (hb hby own_d442) rfl e0 (kc := 0) (ks := 0) rfl rfl (by decide) (by decide)
    obtain ⟨rfl, N229q, e229⟩ := hQ229
    have N229 := Fr.app N0 N229q
    refine own_via (mkF m 6 #[rv sx, iv 0, iv 0] [(.int (0 : Int32)), (.int (0 : Int32)), (.int (0 : Int32))]) st229 ?_
    obtain ⟨_, T230, Lc230, X230, hQ230, st230⟩ := own_callS X229 hx (y := (⟨"java/util/Objects", "checkFromToIndex", "(III)I"⟩ : MethodName)) hown (mvT hZ (own_w hw 131 rfl)) (mvT hZ (own_w hw 132 rfl)) (mvT hZ (own_w hw 133 rfl)) (mvT hZ (own_w hw 134 rfl)) (by decide) (backOf (W := 0) (own_rmOC_0 l Z a0 hw []  h0 n0 (Nat.le_trans Z0 KP.1) OL ) hZ (own_w hw 134 rfl) (own_w hw 133 rfl) (by decide) (by decide)) (g := (mkF m 6 #[rv sx, iv 0, iv 0] [(.int (0 : Int32)), (.int (0 : Int32)), (.int (0 : Int32))])) rfl (by rw [hml]; rfl) (argsL := [(.int (0 : Int32)), (.int (0 : Int32)), (.int (0 : Int32))]) (rest := []) (lenOf own_pd15 rfl) rfl (by show 2 * 0 + _ ≤ _; exact Nat.le_of_eq rfl) (hb hby own_d443) rfl e229 (kc := 0) (ks := 0) rfl rfl (by decide) (by decide)
    obtain ⟨rfl, N230q, e230⟩ := hQ230
    have N230 := Fr.app N229 N230q
    refine own_to (mkF m 9 #[rv sx, iv 0, iv 0] [(.int (0 : Int32))]) st230 ?_
    refine own_to (T' := T230) (mkF m 10 #[rv sx, iv 0, iv 0] []) (fun _ k => XS.pop X230.here hx rfl (hb hby own_d444) rfl rfl k) ?_
    refine own_aln 11 X230 hx (hb hby own_d445) rfl rfl rfl ?_
    obtain ⟨cq231, kq231, q231a, q231b, q231c⟩ := isOf hZ e230 E_sx
    obtain ⟨_, T231, Lc231, X231, hQ231, st231⟩ := own_virtual X230 hx (y := (⟨"java/lang/String", "isLatin1", "()Z"⟩ : MethodName)) (z := (⟨"java/lang/String", "isLatin1", "()Z"⟩ : MethodName)) hown (mvT hZ (own_w hw 139 rfl)) (mvT hZ (own_w hw 140 rfl)) (notFace_of_selects (args := #[]) (mvT hZ (own_w hw 142 rfl))) (mvT hZ (own_w hw 142 rfl)) (mvT hZ (own_w hw 141 rfl)) (by decide) (backOf (W := 0) (own_rmIS_1 l Z a0 hw [] G1 sx h0 n0 (Nat.le_trans Z0 KP.1) OL Fc O2 P5) hZ (own_w hw 143 rfl) (own_w hw 6 rfl) (by decide) (by decide)) q231a q231c (g := (mkF m 11 #[rv sx, iv 0, iv 0] [(.ref sx)])) rfl (by rw [hml]; rfl) (argsL := []) (rest := []) (lenOf own_pd16 rfl) rfl (by show 2 * 0 + _ ≤ _; exact Nat.le_of_eq rfl) (hb hby own_d446) rfl e230 (kc := 0) (ks := 0) rfl rfl (by decide) (by decide)
    obtain ⟨rfl, N231q, e231⟩ := hQ231
    have N231 := Fr.app N230 N231q
    refine own_via (mkF m 14 #[rv sx, iv 0, iv 0] [(.int (0 : Int32))]) st231 ?_
    refine own_ifY 21 X231 hx (hb hby own_d447) ((if0 _ _).trans (teq (by decide : (0 : Int32) = (0 : Int32))).1) (by decide) (by decide) ?_
    refine own_aln 22 X231 hx (hb hby own_d452) rfl rfl rfl ?_
    obtain ⟨T232, X232, e232, st232⟩ := getF X231 hx hZ hown (host := "") (Or.inl (own_w hw 35 rfl)) Via.refl e231 Fv (g := (mkF m 22 #[rv sx, iv 0, iv 0] [(.ref sx)])) rfl rfl (hb hby own_d453)
    refine own_to (mkF m 25 #[rv sx, iv 0, iv 0] [(.ref tx)]) st232 ?_
    refine own_iln 26 X232 hx (hb hby own_d454) rfl rfl ?_
    refine own_iln 27 X232 hx (hb hby own_d455) rfl rfl ?_
    obtain ⟨_, T233, Lc233, X233, hQ233, st233⟩ := own_callS X232 hx (y := (⟨"java/lang/StringUTF16", "codePointCount", "([BII)I"⟩ : MethodName)) hown (mvT hZ (own_w hw 144 rfl)) (mvT hZ (own_w hw 145 rfl)) (mvT hZ (own_w hw 24 rfl)) (mvT hZ (own_w hw 146 rfl)) (by decide) (backOf (W := 0) (own_rmCU_0 l Z a0 hw [] G1 tx kx h0 n0 (Nat.le_trans Z0 KP.1) OL  Va O2 P5 OAD OHI OLO) hZ (own_w hw 146 rfl) (own_w hw 24 rfl) (by decide) (by decide)) (g := (mkF m 27 #[rv sx, iv 0, iv 0] [(.int (0 : Int32)), (.int (0 : Int32)), (.ref tx)])) rfl (by rw [hml]; rfl) (argsL := [(.ref tx), (.int (0 : Int32)), (.int (0 : Int32))]) (rest := []) (lenOf own_pd17 rfl) rfl (by show 2 * 0 + _ ≤ _; exact Nat.le_of_eq rfl) (hb hby own_d456) rfl e232 (kc := 0) (ks := 0) rfl rfl (by decide) (by decide)
    obtain ⟨rr, rfl, hrr, N233q, e233⟩ := hQ233
    have N233 := Fr.app N231 N233q
    refine own_to (mkF m 30 #[rv sx, iv 0, iv 0] [(.int rr)]) st233 ?_
    exact own_retI X233 hx Bd.returns hlk (hb hby own_d457) (by decide) (by decide) (by rw [e233]; exact ⟨_, rfl, hrr, N233, rfl⟩)
def own_QFO_0 (Z : State)  (G1 : Int32) (sx tx : Addr) (kx : ClassId) (tk pv : Addr) (l1 c1 l0 c0 : Int32) (h0 : Heap) (n0 : Nat) (v : Option Value) (h : Heap) (L : List Loc) : Prop := ∃ r : Int32, v = some (.int r) ∧ ((r = 1 ∧ l1 = l0 ∧ ∃ q, own_P0 q ∧ c1 = (c0 + q)) ∨ (r = 0 ∧ (¬ l1 = l0 ∨ ∃ q, own_P0 q ∧ ¬ c1 = (c0 + q)))) ∧ Fr n0 L ∧ h = h0
set_option maxRecDepth 65536 in
set_option maxHeartbeats 40000000 in
theorem own_rmFO_0 (l : Launch) (Z : State) (a0 : Array Value) (hw : ∀ d ∈ tables_1, d.before a0 Z = true) (ws : List Jvm.Cond)  (G1 : Int32) (sx tx : Addr) (kx : ClassId) (tk pv : Addr) (l1 c1 l0 c0 : Int32) (h0 : Heap) (n0 : Nat) (Z0 : n0 ≤ h0.size) (OL : Old Z n0 h0)  (SS : own_S0 Z h0 sx tx kx ) (O2 : Sta Z Z.heap "java/lang/String" "COMPACT_STRINGS" "Z" (.int G1)) (P5 : ¬ (G1 = (0 : Int32))) (OAD : Sta Z Z.heap "java/lang/StringUTF16" "$assertionsDisabled" "Z" (.int (1 : Int32))) (OHI : Sta Z Z.heap "java/lang/StringUTF16" "HI_BYTE_SHIFT" "I" (.int (0 : Int32))) (OLO : Sta Z Z.heap "java/lang/StringUTF16" "LO_BYTE_SHIFT" "I" (.int (8 : Int32))) (F_line_tk : Fld Z h0 tk "com/example/ianus/ianus/Token" "line" "I" (.int l1)) (F_column_tk : Fld Z h0 tk "com/example/ianus/ianus/Token" "column" "I" (.int c1)) (F_line_pv : Fld Z h0 pv "com/example/ianus/ianus/Token" "line" "I" (.int l0)) (F_column_pv : Fld Z h0 pv "com/example/ianus/ianus/Token" "column" "I" (.int c0)) (F_text_pv : Fld Z h0 pv "com/example/ianus/ianus/Token" "text" "Ljava/lang/String;" (.ref sx)) :
    own_MF l (⟨"com/example/ianus/ianus/Token", "follows", "(Lcom/example/ianus/ianus/Token;)Z"⟩ : MethodName) (Jvm.Cond.code (⟨"com/example/ianus/ianus/Token", "follows", "(Lcom/example/ianus/ianus/Token;)Z"⟩ : MethodName) prog_18_method_8_code 2 (some .boolean) :: ws) ({ frames := 4, cells := 0, slots := 0, locals := 100 } : Room) #[(.ref tk), (.ref pv)] Z h0 (own_QFO_0 Z  G1 sx tx kx tk pv l1 c1 l0 c0 h0 n0) := by
  refine MetFree.of_bodySF (plainFor_of_name own_pn5) hisR ?_
  intro p e s m args below meth c s₁ Bd hml0 hP hK
  obtain ⟨rfl, hZ, hh⟩ := hP
  have hx := Bd.exec
  have hby := Bd.bytes
  have hlk : meth.locks = false := BodyLoose.notSynchronized Bd
  have hml : c.maxLocals = 2 := hml0
  have hown : s.vm.findClass "com/example/ianus/ianus/Token" = some m.cls := findClass_of_methodNamed Bd.named
  have hnm := (name_of_methodNamed Bd.named Bd.method).1
  have X0 : Stand p l e ({ frames := 4, cells := 0, slots := 0, locals := 100 } : Room) s m #[(.ref tk), (.ref pv)] below meth c s₁ [] 0 0 := Stand.of_body Bd
  have e0 : s₁.heap = h0 := by rw [← hh, Bd.state]; rfl
  have N0 := Fr.nil n0
  have KP : Keep h0 h0 [] := Keep.refl _ _
  refine own_start (Fin := (own_Fin s (own_QFO_0 Z  G1 sx tx kx tk pv l1 c1 l0 c0 h0 n0) ({ frames := 4, cells := 0, slots := 0, locals := 100 } : Room).cells ({ frames := 4, cells := 0, slots := 0, locals := 100 } : Room).slots)) (own_from (mkF m 0 #[rv tk, rv pv] []) (castTop (own_ef_FO_0 m tk pv)) ?_)
  have SL := SS.sl
  refine own_aln 1 X0 hx (hb hby own_d458) rfl rfl rfl ?_
  obtain ⟨T234, X234, e234, st234⟩ := getF X0 hx hZ hown (host := "") (Or.inl (own_w hw 74 rfl)) Via.refl e0 F_line_tk (g := (mkF m 1 #[rv tk, rv pv] [(.ref tk)])) rfl rfl (hb hby own_d459)
  refine own_to (mkF m 4 #[rv tk, rv pv] [(.int l1)]) st234 ?_
  refine own_aln 5 X234 hx (hb hby own_d460) rfl rfl rfl ?_
  obtain ⟨T235, X235, e235, st235⟩ := getF X234 hx hZ hown (host := "") (Or.inl (own_w hw 74 rfl)) Via.refl e234 F_line_pv (g := (mkF m 5 #[rv tk, rv pv] [(.ref pv), (.int l1)])) rfl rfl (hb hby own_d461)
  refine own_to (mkF m 8 #[rv tk, rv pv] [(.int l0), (.int l1)]) st235 ?_
  by_cases hl : l1 = l0
  · refine own_icN 11 X235 hx (hb hby own_d462) (teq hl).2 rfl ?_
    refine own_aln 12 X235 hx (hb hby own_d465) rfl rfl rfl ?_
    obtain ⟨T236, X236, e236, st236⟩ := getF X235 hx hZ hown (host := "") (Or.inl (own_w hw 76 rfl)) Via.refl e235 F_column_tk (g := (mkF m 12 #[rv tk, rv pv] [(.ref tk)])) rfl rfl (hb hby own_d466)
    refine own_to (mkF m 15 #[rv tk, rv pv] [(.int c1)]) st236 ?_
    refine own_aln 16 X236 hx (hb hby own_d467) rfl rfl rfl ?_
    obtain ⟨T237, X237, e237, st237⟩ := getF X236 hx hZ hown (host := "") (Or.inl (own_w hw 76 rfl)) Via.refl e236 F_column_pv (g := (mkF m 16 #[rv tk, rv pv] [(.ref pv), (.int c1)])) rfl rfl (hb hby own_d468)
    refine own_to (mkF m 19 #[rv tk, rv pv] [(.int c0), (.int c1)]) st237 ?_
    refine own_aln 20 X237 hx (hb hby own_d469) rfl rfl rfl ?_
    obtain ⟨T238, X238, e238, st238⟩ := getF X237 hx hZ hown (host := "") (Or.inl (own_w hw 70 rfl)) Via.refl e237 F_text_pv (g := (mkF m 20 #[rv tk, rv pv] [(.ref pv), (.int c0), (.int c1)])) rfl rfl (hb hby own_d470)
    refine own_to (mkF m 23 #[rv tk, rv pv] [(.ref sx), (.int c0), (.int c1)]) st238 ?_
    refine own_ic 24 0 X238 hx (hb hby own_d471) rfl rfl ?_
    refine own_aln 25 X238 hx (hb hby own_d472) rfl rfl rfl ?_
    obtain ⟨T239, X239, e239, st239⟩ := getF X238 hx hZ hown (host := "") (Or.inl (own_w hw 70 rfl)) Via.refl e238 F_text_pv (g := (mkF m 25 #[rv tk, rv pv] [(.ref pv), (.int (0 : Int32)), (.ref sx), (.int c0), (.int c1)])) rfl rfl (hb hby own_d473)
    refine own_to (mkF m 28 #[rv tk, rv pv] [(.ref sx), (.int (0 : Int32)), (.ref sx), (.int c0), (.int c1)]) st239 ?_
    obtain ⟨cq240, kq240, q240a, q240b, q240c⟩ := isOf hZ e239 SL.exa
    obtain ⟨_, T240, Lc240, X240, hQ240, st240⟩ := own_virtual X239 hx (y := (⟨"java/lang/String", "length", "()I"⟩ : MethodName)) (z := (⟨"java/lang/String", "length", "()I"⟩ : MethodName)) hown (mvT hZ (own_w hw 115 rfl)) (mvT hZ (own_w hw 116 rfl)) (notFace_of_selects (args := #[]) (mvT hZ (own_w hw 118 rfl))) (mvT hZ (own_w hw 118 rfl)) (mvT hZ (own_w hw 117 rfl)) (by decide) (backOf (W := 4) (own_rmLN_0 l Z a0 hw [] G1 sx tx h0 n0 (Nat.le_trans Z0 KP.1) OL SL O2 P5) hZ (own_w hw 119 rfl) (own_w hw 6 rfl) (by decide) (by decide)) q240a q240c (g := (mkF m 28 #[rv tk, rv pv] [(.ref sx), (.int (0 : Int32)), (.ref sx), (.int c0), (.int c1)])) rfl (by rw [hml]; rfl) (argsL := []) (rest := [(.int (0 : Int32)), (.ref sx), (.int c0), (.int c1)]) (lenOf own_pd14 rfl) rfl (by show 2 * 0 + _ ≤ _; exact Nat.le_of_eq rfl) (hb hby own_d474) rfl e239 (kc := 0) (ks := 0) rfl rfl (by decide) (by decide)
    obtain ⟨rfl, N240q, e240⟩ := hQ240
    have N240 := Fr.app N0 N240q
    refine own_via (mkF m 31 #[rv tk, rv pv] [(.int (0 : Int32)), (.int (0 : Int32)), (.ref sx), (.int c0), (.int c1)]) st240 ?_
    obtain ⟨cq241, kq241, q241a, q241b, q241c⟩ := isOf hZ e240 SL.exa
    obtain ⟨_, T241, Lc241, X241, hQ241, st241⟩ := own_virtual X240 hx (y := (⟨"java/lang/String", "codePointCount", "(II)I"⟩ : MethodName)) (z := (⟨"java/lang/String", "codePointCount", "(II)I"⟩ : MethodName)) hown (mvT hZ (own_w hw 125 rfl)) (mvT hZ (own_w hw 126 rfl)) (notFace_of_selects (args := #[]) (mvT hZ (own_w hw 128 rfl))) (mvT hZ (own_w hw 128 rfl)) (mvT hZ (own_w hw 127 rfl)) (by decide) (backOf (W := 2) (own_rmCP_0 l Z a0 hw [] G1 sx tx kx h0 n0 (Nat.le_trans Z0 KP.1) OL  SS O2 P5 OAD OHI OLO) hZ (own_w hw 129 rfl) (own_w hw 6 rfl) (by decide) (by decide)) q241a q241c (g := (mkF m 31 #[rv tk, rv pv] [(.int (0 : Int32)), (.int (0 : Int32)), (.ref sx), (.int c0), (.int c1)])) rfl (by rw [hml]; rfl) (argsL := [(.int (0 : Int32)), (.int (0 : Int32))]) (rest := [(.int c0), (.int c1)]) (lenOf own_pd18 rfl) rfl (by show 2 * 0 + _ ≤ _; exact Nat.le_of_eq rfl) (hb hby own_d475) rfl e240 (kc := 0) (ks := 0) rfl rfl (by decide) (by decide)
    obtain ⟨rr, rfl, hrr, N241q, e241⟩ := hQ241
    have N241 := Fr.app N240 N241q
    refine own_via (mkF m 34 #[rv tk, rv pv] [(.int rr), (.int c0), (.int c1)]) st241 ?_
    refine own_iadd 35 X241 hx (hb hby own_d476) rfl rfl ?_
    by_cases hc : c1 = (c0 + rr)
    · refine own_icN 38 X241 hx (hb hby own_d477) (teq hc).2 rfl ?_
      refine own_ic 39 1 X241 hx (hb hby own_d478) rfl rfl ?_
      refine own_go 43 X241 hx (hb hby own_d479) (by decide) (by decide) ?_
      exact own_retN X241 hx (t := .boolean) Bd.returns (by simp) hlk (hb hby own_d464) (by decide) (by decide) (by rw [e241]; exact ⟨_, rfl, Or.inl ⟨rfl, hl, rr, hrr, hc⟩, N241, rfl⟩)
    · refine own_icY 42 X241 hx (hb hby own_d477) (feq hc).2 (by decide) (by decide) ?_
      refine own_ic 43 0 X241 hx (hb hby own_d463) rfl rfl ?_
      exact own_retN X241 hx (t := .boolean) Bd.returns (by simp) hlk (hb hby own_d464) (by decide) (by decide) (by rw [e241]; exact ⟨_, rfl, Or.inr ⟨rfl, Or.inr ⟨rr, hrr, hc⟩⟩, N241, rfl⟩)
  · refine own_icY 42 X235 hx (hb hby own_d462) (feq hl).2 (by decide) (by decide) ?_
    refine own_ic 43 0 X235 hx (hb hby own_d463) rfl rfl ?_
    exact own_retN X235 hx (t := .boolean) Bd.returns (by simp) hlk (hb hby own_d464) (by decide) (by decide) (by rw [e235]; exact ⟨_, rfl, Or.inr ⟨rfl, Or.inl hl⟩, N0, rfl⟩)
def own_QPC0_1 (Z : State)  (h0 : Heap) (n0 : Nat) (v : Option Value) (h : Heap) (L : List Loc) : Prop := v = some (.int 0) ∧ Fr n0 L ∧ h = h0
set_option maxRecDepth 65536 in
set_option maxHeartbeats 40000000 in
theorem own_rmPC0_1 (l : Launch) (Z : State) (a0 : Array Value) (hw : ∀ d ∈ tables_1, d.before a0 Z = true) (ws : List Jvm.Cond)  (h0 : Heap) (n0 : Nat) (Z0 : n0 ≤ h0.size) (OL : Old Z n0 h0)  :
    own_MF l (⟨"jdk/internal/util/Preconditions", "checkFromToIndex", "(IIILjava/util/function/BiFunction;)I"⟩ : MethodName) (Jvm.Cond.code (⟨"jdk/internal/util/Preconditions", "checkFromToIndex", "(IIILjava/util/function/BiFunction;)I"⟩ : MethodName) jdk_41_method_12_code 4 (some .int) :: ws) ({ frames := 0, cells := 0, slots := 0, locals := 0 } : Room) #[(.int (0 : Int32)), (.int (1 : Int32)), (.int (1 : Int32)), .null] Z h0 (own_QPC0_1 Z  h0 n0) := by
  refine MetFree.of_bodySF (plainFor_of_name own_pn6) hisR ?_
  intro p e s m args below meth c s₁ Bd hml0 hP hK
  obtain ⟨rfl, hZ, hh⟩ := hP
  have hx := Bd.exec
  have hby := Bd.bytes
  have hlk : meth.locks = false := BodyLoose.notSynchronized Bd
  have hml : c.maxLocals = 4 := hml0
  have hown : s.vm.findClass "jdk/internal/util/Preconditions" = some m.cls := findClass_of_methodNamed Bd.named
  have hnm := (name_of_methodNamed Bd.named Bd.method).1
  have X0 : Stand p l e ({ frames := 0, cells := 0, slots := 0, locals := 0 } : Room) s m #[(.int (0 : Int32)), (.int (1 : Int32)), (.int (1 : Int32)), .null] below meth c s₁ [] 0 0 := Stand.of_body Bd
  have e0 : s₁.heap = h0 := by rw [← hh, Bd.state]; rfl
  have N0 := Fr.nil n0
  have KP : Keep h0 h0 [] := Keep.refl _ _
  refine own_start (Fin := (own_Fin s (own_QPC0_1 Z  h0 n0) ({ frames := 0, cells := 0, slots := 0, locals := 0 } : Room).cells ({ frames := 0, cells := 0, slots := 0, locals := 0 } : Room).slots)) (own_from (mkF m 0 #[iv 0, iv 1, iv 1, .val .null] []) (castTop (own_ef_PC0_1 m (0 : Int32) (1 : Int32) (1 : Int32))) ?_)
  refine own_iln 1 X0 hx (hb hby own_d400) rfl rfl ?_
  refine own_ifN 4 X0 hx (hb hby own_d401) ((if0 _ _).trans (flt (by decide : ¬ ((0 : Int32) < (0 : Int32)))).1) rfl ?_
  refine own_iln 5 X0 hx (hb hby own_d402) rfl rfl ?_
  refine own_iln 6 X0 hx (hb hby own_d403) rfl rfl ?_
  refine own_icN 9 X0 hx (hb hby own_d404) (flt (by decide : ¬ ((1 : Int32) < (0 : Int32)))).2.2.1 rfl ?_
  refine own_iln 10 X0 hx (hb hby own_d405) rfl rfl ?_
  refine own_iln 11 X0 hx (hb hby own_d406) rfl rfl ?_
  refine own_icY 22 X0 hx (hb hby own_d407) (flt (by decide : ¬ ((1 : Int32) < (1 : Int32)))).2.2.2 (by decide) (by decide) ?_
  refine own_iln 23 X0 hx (hb hby own_d408) rfl rfl ?_
  exact own_retI X0 hx Bd.returns hlk (hb hby own_d409) (by decide) (by decide) (by rw [e0]; exact ⟨rfl, N0, rfl⟩)
def own_QOC_1 (Z : State)  (h0 : Heap) (n0 : Nat) (v : Option Value) (h : Heap) (L : List Loc) : Prop := v = some (.int 0) ∧ Fr n0 L ∧ h = h0
set_option maxRecDepth 65536 in
set_option maxHeartbeats 40000000 in
theorem own_rmOC_1 (l : Launch) (Z : State) (a0 : Array Value) (hw : ∀ d ∈ tables_1, d.before a0 Z = true) (ws : List Jvm.Cond)  (h0 : Heap) (n0 : Nat) (Z0 : n0 ≤ h0.size) (OL : Old Z n0 h0)  :
    own_MF l (⟨"java/util/Objects", "checkFromToIndex", "(III)I"⟩ : MethodName) (Jvm.Cond.code (⟨"java/util/Objects", "checkFromToIndex", "(III)I"⟩ : MethodName) jdk_31_method_18_code 3 (some .int) :: ws) ({ frames := 1, cells := 0, slots := 0, locals := 16 } : Room) #[(.int (0 : Int32)), (.int (1 : Int32)), (.int (1 : Int32))] Z h0 (own_QOC_1 Z  h0 n0) := by
  refine MetFree.of_bodySF (plainFor_of_name own_pn7) hisR ?_
  intro p e s m args below meth c s₁ Bd hml0 hP hK
  obtain ⟨rfl, hZ, hh⟩ := hP
  have hx := Bd.exec
  have hby := Bd.bytes
  have hlk : meth.locks = false := BodyLoose.notSynchronized Bd
  have hml : c.maxLocals = 3 := hml0
  have hown : s.vm.findClass "java/util/Objects" = some m.cls := findClass_of_methodNamed Bd.named
  have hnm := (name_of_methodNamed Bd.named Bd.method).1
  have X0 : Stand p l e ({ frames := 1, cells := 0, slots := 0, locals := 16 } : Room) s m #[(.int (0 : Int32)), (.int (1 : Int32)), (.int (1 : Int32))] below meth c s₁ [] 0 0 := Stand.of_body Bd
  have e0 : s₁.heap = h0 := by rw [← hh, Bd.state]; rfl
  have N0 := Fr.nil n0
  have KP : Keep h0 h0 [] := Keep.refl _ _
  refine own_start (Fin := (own_Fin s (own_QOC_1 Z  h0 n0) ({ frames := 1, cells := 0, slots := 0, locals := 16 } : Room).cells ({ frames := 1, cells := 0, slots := 0, locals := 16 } : Room).slots)) (own_from (mkF m 0 #[iv 0, iv 1, iv 1] []) (castTop (own_ef_OC_1 m (0 : Int32) (1 : Int32) (1 : Int32))) ?_)
  refine own_iln 1 X0 hx (hb hby own_d410) rfl rfl ?_
  refine own_iln 2 X0 hx (hb hby own_d411) rfl rfl ?_
  refine own_iln 3 X0 hx (hb hby own_d412) rfl rfl ?_
  refine own_nul 4 X0 hx (hb hby own_d413) rfl ?_
  obtain ⟨_, T242, Lc242, X242, hQ242, st242⟩ := own_callS X0 hx (y := (⟨"jdk/internal/util/Preconditions", "checkFromToIndex", "(IIILjava/util/function/BiFunction;)I"⟩ : MethodName)) hown (mvT hZ (own_w hw 135 rfl)) (mvT hZ (own_w hw 136 rfl)) (mvT hZ (own_w hw 137 rfl)) (mvT hZ (own_w hw 138 rfl)) (by decide) (backOf (W := 0) (own_rmPC0_1 l Z a0 hw []  h0 n0 (Nat.le_trans Z0 KP.1) OL ) hZ (own_w hw 138 rfl) (own_w hw 137 rfl) (by decide) (by decide)) (g := (mkF m 4 #[iv 0, iv 1, iv 1] [.null, (.int (1 : Int32)), (.int (1 : Int32)), (.int (0 : Int32))])) rfl (by rw [hml]; rfl) (argsL := [(.int (0 : Int32)), (.int (1 : Int32)), (.int (1 : Int32)), .null]) (rest := []) (lenOf own_pd12 rfl) rfl (by show 2 * 0 + _ ≤ _; exact Nat.le_of_eq rfl) (hb hby own_d414) rfl e0 (kc := 0) (ks := 0) rfl rfl (by decide) (by decide)
  obtain ⟨rfl, N242q, e242⟩ := hQ242
  have N242 := Fr.app N0 N242q
  refine own_to (mkF m 7 #[iv 0, iv 1, iv 1] [(.int (0 : Int32))]) st242 ?_
  exact own_retI X242 hx Bd.returns hlk (hb hby own_d415) (by decide) (by decide) (by rw [e242]; exact ⟨rfl, N242, rfl⟩)
def own_QCZ_1 (Z : State) (x0 : Int32) (G1 : Int32) (b : Addr) (kb : ClassId) (h0 : Heap) (n0 : Nat) (v : Option Value) (h : Heap) (L : List Loc) : Prop := ∃ r : Int32, v = some (.int r) ∧ own_P1 x0 r ∧ Fr n0 L ∧ h = h0
set_option maxRecDepth 65536 in
set_option maxHeartbeats 40000000 in
theorem own_rmCZ_1 (l : Launch) (Z : State) (a0 : Array Value) (hw : ∀ d ∈ tables_1, d.before a0 Z = true) (ws : List Jvm.Cond) (x0 : Int32) (G1 : Int32) (b : Addr) (kb : ClassId) (h0 : Heap) (n0 : Nat) (Z0 : n0 ≤ h0.size) (OL : Old Z n0 h0) (hx0 : own_C16 x0) (Vb : Arv Z h0 b kb .byte (2 : Int32) [(.int ((x0 >>> ((0 : Int32) &&& 31)).toInt8.toInt32)), (.int ((x0 >>> ((8 : Int32) &&& 31)).toInt8.toInt32))] (.int (0 : Int32))) (O2 : Sta Z Z.heap "java/lang/String" "COMPACT_STRINGS" "Z" (.int G1)) (P5 : ¬ (G1 = (0 : Int32))) (OAD : Sta Z Z.heap "java/lang/StringUTF16" "$assertionsDisabled" "Z" (.int (1 : Int32))) (OHI : Sta Z Z.heap "java/lang/StringUTF16" "HI_BYTE_SHIFT" "I" (.int (0 : Int32))) (OLO : Sta Z Z.heap "java/lang/StringUTF16" "LO_BYTE_SHIFT" "I" (.int (8 : Int32))) :
    own_MF l (⟨"java/lang/StringUTF16", "codePointCount", "([BIIZ)I"⟩ : MethodName) (Jvm.Cond.code (⟨"java/lang/StringUTF16", "codePointCount", "([BIIZ)I"⟩ : MethodName) jdk_52_method_11_code 6 (some .int) :: ws) ({ frames := 1, cells := 0, slots := 0, locals := 20 } : Room) #[(.ref b), (.int (0 : Int32)), (.int (1 : Int32)), (.int (0 : Int32))] Z h0 (own_QCZ_1 Z x0 G1 b kb h0 n0) := by
  refine MetFree.of_bodySF (plainFor_of_name own_pn1) hisR ?_
  intro p e s m args below meth c s₁ Bd hml0 hP hK
  obtain ⟨rfl, hZ, hh⟩ := hP
  have hx := Bd.exec
  have hby := Bd.bytes
  have hlk : meth.locks = false := BodyLoose.notSynchronized Bd
  have hml : c.maxLocals = 6 := hml0
  have hown : s.vm.findClass "java/lang/StringUTF16" = some m.cls := findClass_of_methodNamed Bd.named
  have hnm := (name_of_methodNamed Bd.named Bd.method).1
  have X0 : Stand p l e ({ frames := 1, cells := 0, slots := 0, locals := 20 } : Room) s m #[(.ref b), (.int (0 : Int32)), (.int (1 : Int32)), (.int (0 : Int32))] below meth c s₁ [] 0 0 := Stand.of_body Bd
  have e0 : s₁.heap = h0 := by rw [← hh, Bd.state]; rfl
  have N0 := Fr.nil n0
  have KP : Keep h0 h0 [] := Keep.refl _ _
  refine own_start (Fin := (own_Fin s (own_QCZ_1 Z x0 G1 b kb h0 n0) ({ frames := 1, cells := 0, slots := 0, locals := 20 } : Room).cells ({ frames := 1, cells := 0, slots := 0, locals := 20 } : Room).slots)) (own_from (mkF m 0 #[rv b, iv 0, iv 1, iv 0, .unset, .unset] []) (castTop (own_ef_CZ_1 m b (0 : Int32) (1 : Int32) (0 : Int32))) ?_)
  obtain ⟨T243, X243, e243, st243⟩ := getS2 X0 hx hZ hown (host := "") (Or.inl (own_w hw 97 rfl)) Via.refl e0 (OAD.ext OL.2) (g := (mkF m 0 #[rv b, iv 0, iv 1, iv 0, .unset, .unset] [])) rfl (hb hby own_d416)
  refine own_to (mkF m 3 #[rv b, iv 0, iv 1, iv 0, .unset, .unset] [(.int (1 : Int32))]) st243 ?_
  refine own_ifY 19 X243 hx (hb hby own_d417) ((if0 _ _).trans (feq (by decide : ¬ ((1 : Int32) = (0 : Int32)))).2) (by decide) (by decide) ?_
  refine own_iln 20 X243 hx (hb hby own_d418) rfl rfl ?_
  refine own_iln 21 X243 hx (hb hby own_d419) rfl rfl ?_
  refine own_isub 22 X243 hx (hb hby own_d420) (z := (1 : Int32)) rfl rfl ?_
  refine own_is 24 #[rv b, iv 0, iv 1, iv 0, iv 1, .unset] X243 hx (hb hby own_d421) rfl rfl ?_
  refine own_iln 25 X243 hx (hb hby own_d422) rfl rfl ?_
  refine own_is 27 #[rv b, iv 0, iv 1, iv 0, iv 1, iv 0] X243 hx (hb hby own_d423) rfl rfl ?_
  refine own_iln 28 X243 hx (hb hby own_d424) rfl rfl ?_
  refine own_ifY 44 X243 hx (hb hby own_d425) ((if0 _ _).trans (teq (by decide : (0 : Int32) = (0 : Int32))).1) (by decide) (by decide) ?_
  refine own_il 46 X243 hx (hb hby own_d426) rfl rfl ?_
  refine own_iln 47 X243 hx (hb hby own_d427) rfl rfl ?_
  refine own_ic 48 1 X243 hx (hb hby own_d428) rfl rfl ?_
  refine own_isub 49 X243 hx (hb hby own_d429) (z := (0 : Int32)) rfl rfl ?_
  refine own_icY 88 X243 hx (hb hby own_d430) (flt (by decide : ¬ ((0 : Int32) < (0 : Int32)))).2.1 (by decide) (by decide) ?_
  refine own_il 90 X243 hx (hb hby own_d431) rfl rfl ?_
  exact own_retI X243 hx Bd.returns hlk (hb hby own_d432) (by decide) (by decide) (by rw [e243]; exact ⟨_, rfl, rfl, N0, rfl⟩)
def own_QCU_1 (Z : State) (x0 : Int32) (G1 : Int32) (b : Addr) (kb : ClassId) (h0 : Heap) (n0 : Nat) (v : Option Value) (h : Heap) (L : List Loc) : Prop := ∃ r : Int32, v = some (.int r) ∧ own_P1 x0 r ∧ Fr n0 L ∧ h = h0
set_option maxRecDepth 65536 in
set_option maxHeartbeats 40000000 in
theorem own_rmCU_1 (l : Launch) (Z : State) (a0 : Array Value) (hw : ∀ d ∈ tables_1, d.before a0 Z = true) (ws : List Jvm.Cond) (x0 : Int32) (G1 : Int32) (b : Addr) (kb : ClassId) (h0 : Heap) (n0 : Nat) (Z0 : n0 ≤ h0.size) (OL : Old Z n0 h0) (hx0 : own_C16 x0) (Vb : Arv Z h0 b kb .byte (2 : Int32) [(.int ((x0 >>> ((0 : Int32) &&& 31)).toInt8.toInt32)), (.int ((x0 >>> ((8 : Int32) &&& 31)).toInt8.toInt32))] (.int (0 : Int32))) (O2 : Sta Z Z.heap "java/lang/String" "COMPACT_STRINGS" "Z" (.int G1)) (P5 : ¬ (G1 = (0 : Int32))) (OAD : Sta Z Z.heap "java/lang/StringUTF16" "$assertionsDisabled" "Z" (.int (1 : Int32))) (OHI : Sta Z Z.heap "java/lang/StringUTF16" "HI_BYTE_SHIFT" "I" (.int (0 : Int32))) (OLO : Sta Z Z.heap "java/lang/StringUTF16" "LO_BYTE_SHIFT" "I" (.int (8 : Int32))) :
    own_MF l (⟨"java/lang/StringUTF16", "codePointCount", "([BII)I"⟩ : MethodName) (Jvm.Cond.code (⟨"java/lang/StringUTF16", "codePointCount", "([BII)I"⟩ : MethodName) jdk_52_method_12_code 3 (some .int) :: ws) ({ frames := 2, cells := 0, slots := 0, locals := 40 } : Room) #[(.ref b), (.int (0 : Int32)), (.int (1 : Int32))] Z h0 (own_QCU_1 Z x0 G1 b kb h0 n0) := by
  refine MetFree.of_bodySF (plainFor_of_name own_pn1) hisR ?_
  intro p e s m args below meth c s₁ Bd hml0 hP hK
  obtain ⟨rfl, hZ, hh⟩ := hP
  have hx := Bd.exec
  have hby := Bd.bytes
  have hlk : meth.locks = false := BodyLoose.notSynchronized Bd
  have hml : c.maxLocals = 3 := hml0
  have hown : s.vm.findClass "java/lang/StringUTF16" = some m.cls := findClass_of_methodNamed Bd.named
  have hnm := (name_of_methodNamed Bd.named Bd.method).1
  have X0 : Stand p l e ({ frames := 2, cells := 0, slots := 0, locals := 40 } : Room) s m #[(.ref b), (.int (0 : Int32)), (.int (1 : Int32))] below meth c s₁ [] 0 0 := Stand.of_body Bd
  have e0 : s₁.heap = h0 := by rw [← hh, Bd.state]; rfl
  have N0 := Fr.nil n0
  have KP : Keep h0 h0 [] := Keep.refl _ _
  refine own_start (Fin := (own_Fin s (own_QCU_1 Z x0 G1 b kb h0 n0) ({ frames := 2, cells := 0, slots := 0, locals := 40 } : Room).cells ({ frames := 2, cells := 0, slots := 0, locals := 40 } : Room).slots)) (own_from (mkF m 0 #[rv b, iv 0, iv 1] []) (castTop (own_ef_CU_1 m b (0 : Int32) (1 : Int32))) ?_)
  refine own_aln 1 X0 hx (hb hby own_d433) rfl rfl rfl ?_
  refine own_iln 2 X0 hx (hb hby own_d434) rfl rfl ?_
  refine own_iln 3 X0 hx (hb hby own_d435) rfl rfl ?_
  refine own_ic 4 0 X0 hx (hb hby own_d436) rfl rfl ?_
  obtain ⟨_, T244, Lc244, X244, hQ244, st244⟩ := own_callS X0 hx (y := (⟨"java/lang/StringUTF16", "codePointCount", "([BIIZ)I"⟩ : MethodName)) hown (mvT hZ (own_w hw 147 rfl)) (mvT hZ (own_w hw 148 rfl)) (mvT hZ (own_w hw 24 rfl)) (mvT hZ (own_w hw 149 rfl)) (by decide) (backOf (W := 0) (own_rmCZ_1 l Z a0 hw [] x0 G1 b kb h0 n0 (Nat.le_trans Z0 KP.1) OL hx0 Vb O2 P5 OAD OHI OLO) hZ (own_w hw 149 rfl) (own_w hw 24 rfl) (by decide) (by decide)) (g := (mkF m 4 #[rv b, iv 0, iv 1] [(.int (0 : Int32)), (.int (1 : Int32)), (.int (0 : Int32)), (.ref b)])) rfl (by rw [hml]; rfl) (argsL := [(.ref b), (.int (0 : Int32)), (.int (1 : Int32)), (.int (0 : Int32))]) (rest := []) (lenOf own_pd13 rfl) rfl (by show 2 * 0 + _ ≤ _; exact Nat.le_of_eq rfl) (hb hby own_d437) rfl e0 (kc := 0) (ks := 0) rfl rfl (by decide) (by decide)
  obtain ⟨rr, rfl, hrr, N244q, e244⟩ := hQ244
  have N244 := Fr.app N0 N244q
  refine own_to (mkF m 7 #[rv b, iv 0, iv 1] [(.int rr)]) st244 ?_
  exact own_retI X244 hx Bd.returns hlk (hb hby own_d438) (by decide) (by decide) (by rw [e244]; exact ⟨_, rfl, hrr, N244, rfl⟩)
def own_QCP_1 (Z : State) (x0 : Int32) (G1 : Int32) (sx tx : Addr) (kx : ClassId) (h0 : Heap) (n0 : Nat) (v : Option Value) (h : Heap) (L : List Loc) : Prop := ∃ r : Int32, v = some (.int r) ∧ own_P1 x0 r ∧ Fr n0 L ∧ h = h0
set_option maxRecDepth 65536 in
set_option maxHeartbeats 40000000 in
theorem own_rmCP_1 (l : Launch) (Z : State) (a0 : Array Value) (hw : ∀ d ∈ tables_1, d.before a0 Z = true) (ws : List Jvm.Cond) (x0 : Int32) (G1 : Int32) (sx tx : Addr) (kx : ClassId) (h0 : Heap) (n0 : Nat) (Z0 : n0 ≤ h0.size) (OL : Old Z n0 h0) (hx0 : own_C16 x0) (SS : own_S1 Z h0 sx tx kx x0) (O2 : Sta Z Z.heap "java/lang/String" "COMPACT_STRINGS" "Z" (.int G1)) (P5 : ¬ (G1 = (0 : Int32))) (OAD : Sta Z Z.heap "java/lang/StringUTF16" "$assertionsDisabled" "Z" (.int (1 : Int32))) (OHI : Sta Z Z.heap "java/lang/StringUTF16" "HI_BYTE_SHIFT" "I" (.int (0 : Int32))) (OLO : Sta Z Z.heap "java/lang/StringUTF16" "LO_BYTE_SHIFT" "I" (.int (8 : Int32))) :
    own_MF l (⟨"java/lang/String", "codePointCount", "(II)I"⟩ : MethodName) (Jvm.Cond.code (⟨"java/lang/String", "codePointCount", "(II)I"⟩ : MethodName) jdk_42_method_59_code 3 (some .int) :: ws) ({ frames := 3, cells := 0, slots := 0, locals := 60 } : Room) #[(.ref sx), (.int (0 : Int32)), (.int (1 : Int32))] Z h0 (own_QCP_1 Z x0 G1 sx tx kx h0 n0) := by
  refine MetFree.of_bodySF (plainFor_of_name own_pn0) hisR ?_
  intro p e s m args below meth c s₁ Bd hml0 hP hK
  obtain ⟨rfl, hZ, hh⟩ := hP
  have hx := Bd.exec
  have hby := Bd.bytes
  have hlk : meth.locks = false := BodyLoose.notSynchronized Bd
  have hml : c.maxLocals = 3 := hml0
  have hown : s.vm.findClass "java/lang/String" = some m.cls := findClass_of_methodNamed Bd.named
  have hnm := (name_of_methodNamed Bd.named Bd.method).1
  have X0 : Stand p l e ({ frames := 3, cells := 0, slots := 0, locals := 60 } : Room) s m #[(.ref sx), (.int (0 : Int32)), (.int (1 : Int32))] below meth c s₁ [] 0 0 := Stand.of_body Bd
  have e0 : s₁.heap = h0 := by rw [← hh, Bd.state]; rfl
  have N0 := Fr.nil n0
  have KP : Keep h0 h0 [] := Keep.refl _ _
  refine own_start (Fin := (own_Fin s (own_QCP_1 Z x0 G1 sx tx kx h0 n0) ({ frames := 3, cells := 0, slots := 0, locals := 60 } : Room).cells ({ frames := 3, cells := 0, slots := 0, locals := 60 } : Room).slots)) (own_from (mkF m 0 #[rv sx, iv 0, iv 1] []) (castTop (own_ef_CP_1 m sx (0 : Int32) (1 : Int32))) ?_)
  rcases SS with ⟨hA, SG⟩ | SG
  · obtain ⟨E_sx, Fv, Fc, Va⟩ := id SG
    have SL : own_StrL Z h0 sx tx (1 : Int32) (2 : Int32) := ⟨_, _, _, _, SG, Or.inl ⟨rfl, rfl⟩⟩
    refine own_iln 1 X0 hx (hb hby own_d439) rfl rfl ?_
    refine own_iln 2 X0 hx (hb hby own_d440) rfl rfl ?_
    refine own_aln 3 X0 hx (hb hby own_d441) rfl rfl rfl ?_
    obtain ⟨cq245, kq245, q245a, q245b, q245c⟩ := isOf hZ e0 E_sx
    obtain ⟨_, T245, Lc245, X245, hQ245, st245⟩ := own_virtual X0 hx (y := (⟨"java/lang/String", "length", "()I"⟩ : MethodName)) (z := (⟨"java/lang/String", "length", "()I"⟩ : MethodName)) hown (mvT hZ (own_w hw 130 rfl)) (mvT hZ (own_w hw 116 rfl)) (notFace_of_selects (args := #[]) (mvT hZ (own_w hw 118 rfl))) (mvT hZ (own_w hw 118 rfl)) (mvT hZ (own_w hw 117 rfl)) (by decide) (backOf (W := 2) (own_rmLN_1 l Z a0 hw [] G1 sx tx h0 n0 (Nat.le_trans Z0 KP.1) OL SL O2 P5) hZ (own_w hw 119 rfl) (own_w hw 6 rfl) (by decide) (by decide)) q245a q245c (g := (mkF m 3 #[rv sx, iv 0, iv 1] [(.ref sx), (.int (1 : Int32)), (.int (0 : Int32))])) rfl (by rw [hml]; rfl) (argsL := []) (rest := [(.int (1 : Int32)), (.int (0 : Int32))]) (lenOf own_pd14 rfl) rfl (by show 2 * 0 + _ ≤ _; exact Nat.le_of_eq rfl) (hb hby own_d442) rfl e0 (kc := 0) (ks := 0) rfl rfl (by decide) (by decide)
    obtain ⟨rfl, N245q, e245⟩ := hQ245
    have N245 := Fr.app N0 N245q
    refine own_via (mkF m 6 #[rv sx, iv 0, iv 1] [(.int (1 : Int32)), (.int (1 : Int32)), (.int (0 : Int32))]) st245 ?_
    obtain ⟨_, T246, Lc246, X246, hQ246, st246⟩ := own_callS X245 hx (y := (⟨"java/util/Objects", "checkFromToIndex", "(III)I"⟩ : MethodName)) hown (mvT hZ (own_w hw 131 rfl)) (mvT hZ (own_w hw 132 rfl)) (mvT hZ (own_w hw 133 rfl)) (mvT hZ (own_w hw 134 rfl)) (by decide) (backOf (W := 0) (own_rmOC_1 l Z a0 hw []  h0 n0 (Nat.le_trans Z0 KP.1) OL ) hZ (own_w hw 134 rfl) (own_w hw 133 rfl) (by decide) (by decide)) (g := (mkF m 6 #[rv sx, iv 0, iv 1] [(.int (1 : Int32)), (.int (1 : Int32)), (.int (0 : Int32))])) rfl (by rw [hml]; rfl) (argsL := [(.int (0 : Int32)), (.int (1 : Int32)), (.int (1 : Int32))]) (rest := []) (lenOf own_pd15 rfl) rfl (by show 2 * 0 + _ ≤ _; exact Nat.le_of_eq rfl) (hb hby own_d443) rfl e245 (kc := 0) (ks := 0) rfl rfl (by decide) (by decide)
    obtain ⟨rfl, N246q, e246⟩ := hQ246
    have N246 := Fr.app N245 N246q
    refine own_to (mkF m 9 #[rv sx, iv 0, iv 1] [(.int (0 : Int32))]) st246 ?_
    refine own_to (T' := T246) (mkF m 10 #[rv sx, iv 0, iv 1] []) (fun _ k => XS.pop X246.here hx rfl (hb hby own_d444) rfl rfl k) ?_
    refine own_aln 11 X246 hx (hb hby own_d445) rfl rfl rfl ?_
    obtain ⟨cq247, kq247, q247a, q247b, q247c⟩ := isOf hZ e246 E_sx
    obtain ⟨_, T247, Lc247, X247, hQ247, st247⟩ := own_virtual X246 hx (y := (⟨"java/lang/String", "isLatin1", "()Z"⟩ : MethodName)) (z := (⟨"java/lang/String", "isLatin1", "()Z"⟩ : MethodName)) hown (mvT hZ (own_w hw 139 rfl)) (mvT hZ (own_w hw 140 rfl)) (notFace_of_selects (args := #[]) (mvT hZ (own_w hw 142 rfl))) (mvT hZ (own_w hw 142 rfl)) (mvT hZ (own_w hw 141 rfl)) (by decide) (backOf (W := 0) (own_rmIS_0 l Z a0 hw [] G1 sx h0 n0 (Nat.le_trans Z0 KP.1) OL Fc O2 P5) hZ (own_w hw 143 rfl) (own_w hw 6 rfl) (by decide) (by decide)) q247a q247c (g := (mkF m 11 #[rv sx, iv 0, iv 1] [(.ref sx)])) rfl (by rw [hml]; rfl) (argsL := []) (rest := []) (lenOf own_pd16 rfl) rfl (by show 2 * 0 + _ ≤ _; exact Nat.le_of_eq rfl) (hb hby own_d446) rfl e246 (kc := 0) (ks := 0) rfl rfl (by decide) (by decide)
    obtain ⟨rfl, N247q, e247⟩ := hQ247
    have N247 := Fr.app N246 N247q
    refine own_via (mkF m 14 #[rv sx, iv 0, iv 1] [(.int (1 : Int32))]) st247 ?_
    refine own_ifN 17 X247 hx (hb hby own_d447) ((if0 _ _).trans (feq (by decide : ¬ ((1 : Int32) = (0 : Int32)))).1) rfl ?_
    refine own_iln 18 X247 hx (hb hby own_d448) rfl rfl ?_
    refine own_iln 19 X247 hx (hb hby own_d449) rfl rfl ?_
    refine own_isub 20 X247 hx (hb hby own_d450) (z := (1 : Int32)) rfl rfl ?_
    exact own_retI X247 hx Bd.returns hlk (hb hby own_d451) (by decide) (by decide) (by rw [e247]; exact ⟨_, rfl, hA, N247, rfl⟩)
  · obtain ⟨E_sx, Fv, Fc, Va⟩ := id SG
    have SL : own_StrL Z h0 sx tx (1 : Int32) (2 : Int32) := ⟨_, _, _, _, SG, Or.inr ⟨rfl, rfl⟩⟩
    refine own_iln 1 X0 hx (hb hby own_d439) rfl rfl ?_
    refine own_iln 2 X0 hx (hb hby own_d440) rfl rfl ?_
    refine own_aln 3 X0 hx (hb hby own_d441) rfl rfl rfl ?_
    obtain ⟨cq248, kq248, q248a, q248b, q248c⟩ := isOf hZ e0 E_sx
    obtain ⟨_, T248, Lc248, X248, hQ248, st248⟩ := own_virtual X0 hx (y := (⟨"java/lang/String", "length", "()I"⟩ : MethodName)) (z := (⟨"java/lang/String", "length", "()I"⟩ : MethodName)) hown (mvT hZ (own_w hw 130 rfl)) (mvT hZ (own_w hw 116 rfl)) (notFace_of_selects (args := #[]) (mvT hZ (own_w hw 118 rfl))) (mvT hZ (own_w hw 118 rfl)) (mvT hZ (own_w hw 117 rfl)) (by decide) (backOf (W := 2) (own_rmLN_1 l Z a0 hw [] G1 sx tx h0 n0 (Nat.le_trans Z0 KP.1) OL SL O2 P5) hZ (own_w hw 119 rfl) (own_w hw 6 rfl) (by decide) (by decide)) q248a q248c (g := (mkF m 3 #[rv sx, iv 0, iv 1] [(.ref sx), (.int (1 : Int32)), (.int (0 : Int32))])) rfl (by rw [hml]; rfl) (argsL := []) (rest := [(.int (1 : Int32)), (.int (0 : Int32))]) (lenOf own_pd14 rfl) rfl (by show 2 * 0 + _ ≤ _; exact Nat.le_of_eq rfl) (hb hby own_d442) rfl e0 (kc := 0) (ks := 0) rfl rfl (by decide) (by decide)
    obtain ⟨rfl, N248q, e248⟩ := hQ248
    have N248 := Fr.app N0 N248q
    refine own_via (mkF m 6 #[rv sx, iv 0, iv 1] [(.int (1 : Int32)), (.int (1 : Int32)), (.int (0 : Int32))]) st248 ?_
    obtain ⟨_, T249, Lc249, X249, hQ249, st249⟩ := own_callS X248 hx (y := (⟨"java/util/Objects", "checkFromToIndex", "(III)I"⟩ : MethodName)) hown (mvT hZ (own_w hw 131 rfl)) (mvT hZ (own_w hw 132 rfl)) (mvT hZ (own_w hw 133 rfl)) (mvT hZ (own_w hw 134 rfl)) (by decide) (backOf (W := 0) (own_rmOC_1 l Z a0 hw []  h0 n0 (Nat.le_trans Z0 KP.1) OL ) hZ (own_w hw 134 rfl) (own_w hw 133 rfl) (by decide) (by decide)) (g := (mkF m 6 #[rv sx, iv 0, iv 1] [(.int (1 : Int32)), (.int (1 : Int32)), (.int (0 : Int32))])) rfl (by rw [hml]; rfl) (argsL := [(.int (0 : Int32)), (.int (1 : Int32)), (.int (1 : Int32))]) (rest := []) (lenOf own_pd15 rfl) rfl (by show 2 * 0 + _ ≤ _; exact Nat.le_of_eq rfl) (hb hby own_d443) rfl e248 (kc := 0) (ks := 0) rfl rfl (by decide) (by decide)
    obtain ⟨rfl, N249q, e249⟩ := hQ249
    have N249 := Fr.app N248 N249q
    refine own_to (mkF m 9 #[rv sx, iv 0, iv 1] [(.int (0 : Int32))]) st249 ?_
    refine own_to (T' := T249) (mkF m 10 #[rv sx, iv 0, iv 1] []) (fun _ k => XS.pop X249.here hx rfl (hb hby own_d444) rfl rfl k) ?_
    refine own_aln 11 X249 hx (hb hby own_d445) rfl rfl rfl ?_
    obtain ⟨cq250, kq250, q250a, q250b, q250c⟩ := isOf hZ e249 E_sx
    obtain ⟨_, T250, Lc250, X250, hQ250, st250⟩ := own_virtual X249 hx (y := (⟨"java/lang/String", "isLatin1", "()Z"⟩ : MethodName)) (z := (⟨"java/lang/String", "isLatin1", "()Z"⟩ : MethodName)) hown (mvT hZ (own_w hw 139 rfl)) (mvT hZ (own_w hw 140 rfl)) (notFace_of_selects (args := #[]) (mvT hZ (own_w hw 142 rfl))) (mvT hZ (own_w hw 142 rfl)) (mvT hZ (own_w hw 141 rfl)) (by decide) (backOf (W := 0) (own_rmIS_1 l Z a0 hw [] G1 sx h0 n0 (Nat.le_trans Z0 KP.1) OL Fc O2 P5) hZ (own_w hw 143 rfl) (own_w hw 6 rfl) (by decide) (by decide)) q250a q250c (g := (mkF m 11 #[rv sx, iv 0, iv 1] [(.ref sx)])) rfl (by rw [hml]; rfl) (argsL := []) (rest := []) (lenOf own_pd16 rfl) rfl (by show 2 * 0 + _ ≤ _; exact Nat.le_of_eq rfl) (hb hby own_d446) rfl e249 (kc := 0) (ks := 0) rfl rfl (by decide) (by decide)
    obtain ⟨rfl, N250q, e250⟩ := hQ250
    have N250 := Fr.app N249 N250q
    refine own_via (mkF m 14 #[rv sx, iv 0, iv 1] [(.int (0 : Int32))]) st250 ?_
    refine own_ifY 21 X250 hx (hb hby own_d447) ((if0 _ _).trans (teq (by decide : (0 : Int32) = (0 : Int32))).1) (by decide) (by decide) ?_
    refine own_aln 22 X250 hx (hb hby own_d452) rfl rfl rfl ?_
    obtain ⟨T251, X251, e251, st251⟩ := getF X250 hx hZ hown (host := "") (Or.inl (own_w hw 35 rfl)) Via.refl e250 Fv (g := (mkF m 22 #[rv sx, iv 0, iv 1] [(.ref sx)])) rfl rfl (hb hby own_d453)
    refine own_to (mkF m 25 #[rv sx, iv 0, iv 1] [(.ref tx)]) st251 ?_
    refine own_iln 26 X251 hx (hb hby own_d454) rfl rfl ?_
    refine own_iln 27 X251 hx (hb hby own_d455) rfl rfl ?_
    obtain ⟨_, T252, Lc252, X252, hQ252, st252⟩ := own_callS X251 hx (y := (⟨"java/lang/StringUTF16", "codePointCount", "([BII)I"⟩ : MethodName)) hown (mvT hZ (own_w hw 144 rfl)) (mvT hZ (own_w hw 145 rfl)) (mvT hZ (own_w hw 24 rfl)) (mvT hZ (own_w hw 146 rfl)) (by decide) (backOf (W := 0) (own_rmCU_1 l Z a0 hw [] x0 G1 tx kx h0 n0 (Nat.le_trans Z0 KP.1) OL hx0 Va O2 P5 OAD OHI OLO) hZ (own_w hw 146 rfl) (own_w hw 24 rfl) (by decide) (by decide)) (g := (mkF m 27 #[rv sx, iv 0, iv 1] [(.int (1 : Int32)), (.int (0 : Int32)), (.ref tx)])) rfl (by rw [hml]; rfl) (argsL := [(.ref tx), (.int (0 : Int32)), (.int (1 : Int32))]) (rest := []) (lenOf own_pd17 rfl) rfl (by show 2 * 0 + _ ≤ _; exact Nat.le_of_eq rfl) (hb hby own_d456) rfl e251 (kc := 0) (ks := 0) rfl rfl (by decide) (by decide)
    obtain ⟨rr, rfl, hrr, N252q, e252⟩ := hQ252
    have N252 := Fr.app N250 N252q
    refine own_to (mkF m 30 #[rv sx, iv 0, iv 1] [(.int rr)]) st252 ?_
    exact own_retI X252 hx Bd.returns hlk (hb hby own_d457) (by decide) (by decide) (by rw [e252]; exact ⟨_, rfl, hrr, N252, rfl⟩)
def own_QFO_1 (Z : State) (x0 : Int32) (G1 : Int32) (sx tx : Addr) (kx : ClassId) (tk pv : Addr) (l1 c1 l0 c0 : Int32) (h0 : Heap) (n0 : Nat) (v : Option Value) (h : Heap) (L : List Loc) : Prop := ∃ r : Int32, v = some (.int r) ∧ ((r = 1 ∧ l1 = l0 ∧ ∃ q, own_P1 x0 q ∧ c1 = (c0 + q)) ∨ (r = 0 ∧ (¬ l1 = l0 ∨ ∃ q, own_P1 x0 q ∧ ¬ c1 = (c0 + q)))) ∧ Fr n0 L ∧ h = h0
set_option maxRecDepth 65536 in
set_option maxHeartbeats 40000000 in
theorem own_rmFO_1 (l : Launch) (Z : State) (a0 : Array Value) (hw : ∀ d ∈ tables_1, d.before a0 Z = true) (ws : List Jvm.Cond) (x0 : Int32) (G1 : Int32) (sx tx : Addr) (kx : ClassId) (tk pv : Addr) (l1 c1 l0 c0 : Int32) (h0 : Heap) (n0 : Nat) (Z0 : n0 ≤ h0.size) (OL : Old Z n0 h0) (hx0 : own_C16 x0) (SS : own_S1 Z h0 sx tx kx x0) (O2 : Sta Z Z.heap "java/lang/String" "COMPACT_STRINGS" "Z" (.int G1)) (P5 : ¬ (G1 = (0 : Int32))) (OAD : Sta Z Z.heap "java/lang/StringUTF16" "$assertionsDisabled" "Z" (.int (1 : Int32))) (OHI : Sta Z Z.heap "java/lang/StringUTF16" "HI_BYTE_SHIFT" "I" (.int (0 : Int32))) (OLO : Sta Z Z.heap "java/lang/StringUTF16" "LO_BYTE_SHIFT" "I" (.int (8 : Int32))) (F_line_tk : Fld Z h0 tk "com/example/ianus/ianus/Token" "line" "I" (.int l1)) (F_column_tk : Fld Z h0 tk "com/example/ianus/ianus/Token" "column" "I" (.int c1)) (F_line_pv : Fld Z h0 pv "com/example/ianus/ianus/Token" "line" "I" (.int l0)) (F_column_pv : Fld Z h0 pv "com/example/ianus/ianus/Token" "column" "I" (.int c0)) (F_text_pv : Fld Z h0 pv "com/example/ianus/ianus/Token" "text" "Ljava/lang/String;" (.ref sx)) :
    own_MF l (⟨"com/example/ianus/ianus/Token", "follows", "(Lcom/example/ianus/ianus/Token;)Z"⟩ : MethodName) (Jvm.Cond.code (⟨"com/example/ianus/ianus/Token", "follows", "(Lcom/example/ianus/ianus/Token;)Z"⟩ : MethodName) prog_18_method_8_code 2 (some .boolean) :: ws) ({ frames := 4, cells := 0, slots := 0, locals := 100 } : Room) #[(.ref tk), (.ref pv)] Z h0 (own_QFO_1 Z x0 G1 sx tx kx tk pv l1 c1 l0 c0 h0 n0) := by
  refine MetFree.of_bodySF (plainFor_of_name own_pn5) hisR ?_
  intro p e s m args below meth c s₁ Bd hml0 hP hK
  obtain ⟨rfl, hZ, hh⟩ := hP
  have hx := Bd.exec
  have hby := Bd.bytes
  have hlk : meth.locks = false := BodyLoose.notSynchronized Bd
  have hml : c.maxLocals = 2 := hml0
  have hown : s.vm.findClass "com/example/ianus/ianus/Token" = some m.cls := findClass_of_methodNamed Bd.named
  have hnm := (name_of_methodNamed Bd.named Bd.method).1
  have X0 : Stand p l e ({ frames := 4, cells := 0, slots := 0, locals := 100 } : Room) s m #[(.ref tk), (.ref pv)] below meth c s₁ [] 0 0 := Stand.of_body Bd
  have e0 : s₁.heap = h0 := by rw [← hh, Bd.state]; rfl
  have N0 := Fr.nil n0
  have KP : Keep h0 h0 [] := Keep.refl _ _
  refine own_start (Fin := (own_Fin s (own_QFO_1 Z x0 G1 sx tx kx tk pv l1 c1 l0 c0 h0 n0) ({ frames := 4, cells := 0, slots := 0, locals := 100 } : Room).cells ({ frames := 4, cells := 0, slots := 0, locals := 100 } : Room).slots)) (own_from (mkF m 0 #[rv tk, rv pv] []) (castTop (own_ef_FO_1 m tk pv)) ?_)
  have SL := SS.sl
  refine own_aln 1 X0 hx (hb hby own_d458) rfl rfl rfl ?_
  obtain ⟨T253, X253, e253, st253⟩ := getF X0 hx hZ hown (host := "") (Or.inl (own_w hw 74 rfl)) Via.refl e0 F_line_tk (g := (mkF m 1 #[rv tk, rv pv] [(.ref tk)])) rfl rfl (hb hby own_d459)
  refine own_to (mkF m 4 #[rv tk, rv pv] [(.int l1)]) st253 ?_
  refine own_aln 5 X253 hx (hb hby own_d460) rfl rfl rfl ?_
  obtain ⟨T254, X254, e254, st254⟩ := getF X253 hx hZ hown (host := "") (Or.inl (own_w hw 74 rfl)) Via.refl e253 F_line_pv (g := (mkF m 5 #[rv tk, rv pv] [(.ref pv), (.int l1)])) rfl rfl (hb hby own_d461)
  refine own_to (mkF m 8 #[rv tk, rv pv] [(.int l0), (.int l1)]) st254 ?_
  by_cases hl : l1 = l0
  · refine own_icN 11 X254 hx (hb hby own_d462) (teq hl).2 rfl ?_
    refine own_aln 12 X254 hx (hb hby own_d465) rfl rfl rfl ?_
    obtain ⟨T255, X255, e255, st255⟩ := getF X254 hx hZ hown (host := "") (Or.inl (own_w hw 76 rfl)) Via.refl e254 F_column_tk (g := (mkF m 12 #[rv tk, rv pv] [(.ref tk)])) rfl rfl (hb hby own_d466)
    refine own_to (mkF m 15 #[rv tk, rv pv] [(.int c1)]) st255 ?_
    refine own_aln 16 X255 hx (hb hby own_d467) rfl rfl rfl ?_
    obtain ⟨T256, X256, e256, st256⟩ := getF X255 hx hZ hown (host := "") (Or.inl (own_w hw 76 rfl)) Via.refl e255 F_column_pv (g := (mkF m 16 #[rv tk, rv pv] [(.ref pv), (.int c1)])) rfl rfl (hb hby own_d468)
    refine own_to (mkF m 19 #[rv tk, rv pv] [(.int c0), (.int c1)]) st256 ?_
    refine own_aln 20 X256 hx (hb hby own_d469) rfl rfl rfl ?_
    obtain ⟨T257, X257, e257, st257⟩ := getF X256 hx hZ hown (host := "") (Or.inl (own_w hw 70 rfl)) Via.refl e256 F_text_pv (g := (mkF m 20 #[rv tk, rv pv] [(.ref pv), (.int c0), (.int c1)])) rfl rfl (hb hby own_d470)
    refine own_to (mkF m 23 #[rv tk, rv pv] [(.ref sx), (.int c0), (.int c1)]) st257 ?_
    refine own_ic 24 0 X257 hx (hb hby own_d471) rfl rfl ?_
    refine own_aln 25 X257 hx (hb hby own_d472) rfl rfl rfl ?_
    obtain ⟨T258, X258, e258, st258⟩ := getF X257 hx hZ hown (host := "") (Or.inl (own_w hw 70 rfl)) Via.refl e257 F_text_pv (g := (mkF m 25 #[rv tk, rv pv] [(.ref pv), (.int (0 : Int32)), (.ref sx), (.int c0), (.int c1)])) rfl rfl (hb hby own_d473)
    refine own_to (mkF m 28 #[rv tk, rv pv] [(.ref sx), (.int (0 : Int32)), (.ref sx), (.int c0), (.int c1)]) st258 ?_
    obtain ⟨cq259, kq259, q259a, q259b, q259c⟩ := isOf hZ e258 SL.exa
    obtain ⟨_, T259, Lc259, X259, hQ259, st259⟩ := own_virtual X258 hx (y := (⟨"java/lang/String", "length", "()I"⟩ : MethodName)) (z := (⟨"java/lang/String", "length", "()I"⟩ : MethodName)) hown (mvT hZ (own_w hw 115 rfl)) (mvT hZ (own_w hw 116 rfl)) (notFace_of_selects (args := #[]) (mvT hZ (own_w hw 118 rfl))) (mvT hZ (own_w hw 118 rfl)) (mvT hZ (own_w hw 117 rfl)) (by decide) (backOf (W := 4) (own_rmLN_1 l Z a0 hw [] G1 sx tx h0 n0 (Nat.le_trans Z0 KP.1) OL SL O2 P5) hZ (own_w hw 119 rfl) (own_w hw 6 rfl) (by decide) (by decide)) q259a q259c (g := (mkF m 28 #[rv tk, rv pv] [(.ref sx), (.int (0 : Int32)), (.ref sx), (.int c0), (.int c1)])) rfl (by rw [hml]; rfl) (argsL := []) (rest := [(.int (0 : Int32)), (.ref sx), (.int c0), (.int c1)]) (lenOf own_pd14 rfl) rfl (by show 2 * 0 + _ ≤ _; exact Nat.le_of_eq rfl) (hb hby own_d474) rfl e258 (kc := 0) (ks := 0) rfl rfl (by decide) (by decide)
    obtain ⟨rfl, N259q, e259⟩ := hQ259
    have N259 := Fr.app N0 N259q
    refine own_via (mkF m 31 #[rv tk, rv pv] [(.int (1 : Int32)), (.int (0 : Int32)), (.ref sx), (.int c0), (.int c1)]) st259 ?_
    obtain ⟨cq260, kq260, q260a, q260b, q260c⟩ := isOf hZ e259 SL.exa
    obtain ⟨_, T260, Lc260, X260, hQ260, st260⟩ := own_virtual X259 hx (y := (⟨"java/lang/String", "codePointCount", "(II)I"⟩ : MethodName)) (z := (⟨"java/lang/String", "codePointCount", "(II)I"⟩ : MethodName)) hown (mvT hZ (own_w hw 125 rfl)) (mvT hZ (own_w hw 126 rfl)) (notFace_of_selects (args := #[]) (mvT hZ (own_w hw 128 rfl))) (mvT hZ (own_w hw 128 rfl)) (mvT hZ (own_w hw 127 rfl)) (by decide) (backOf (W := 2) (own_rmCP_1 l Z a0 hw [] x0 G1 sx tx kx h0 n0 (Nat.le_trans Z0 KP.1) OL hx0 SS O2 P5 OAD OHI OLO) hZ (own_w hw 129 rfl) (own_w hw 6 rfl) (by decide) (by decide)) q260a q260c (g := (mkF m 31 #[rv tk, rv pv] [(.int (1 : Int32)), (.int (0 : Int32)), (.ref sx), (.int c0), (.int c1)])) rfl (by rw [hml]; rfl) (argsL := [(.int (0 : Int32)), (.int (1 : Int32))]) (rest := [(.int c0), (.int c1)]) (lenOf own_pd18 rfl) rfl (by show 2 * 0 + _ ≤ _; exact Nat.le_of_eq rfl) (hb hby own_d475) rfl e259 (kc := 0) (ks := 0) rfl rfl (by decide) (by decide)
    obtain ⟨rr, rfl, hrr, N260q, e260⟩ := hQ260
    have N260 := Fr.app N259 N260q
    refine own_via (mkF m 34 #[rv tk, rv pv] [(.int rr), (.int c0), (.int c1)]) st260 ?_
    refine own_iadd 35 X260 hx (hb hby own_d476) rfl rfl ?_
    by_cases hc : c1 = (c0 + rr)
    · refine own_icN 38 X260 hx (hb hby own_d477) (teq hc).2 rfl ?_
      refine own_ic 39 1 X260 hx (hb hby own_d478) rfl rfl ?_
      refine own_go 43 X260 hx (hb hby own_d479) (by decide) (by decide) ?_
      exact own_retN X260 hx (t := .boolean) Bd.returns (by simp) hlk (hb hby own_d464) (by decide) (by decide) (by rw [e260]; exact ⟨_, rfl, Or.inl ⟨rfl, hl, rr, hrr, hc⟩, N260, rfl⟩)
    · refine own_icY 42 X260 hx (hb hby own_d477) (feq hc).2 (by decide) (by decide) ?_
      refine own_ic 43 0 X260 hx (hb hby own_d463) rfl rfl ?_
      exact own_retN X260 hx (t := .boolean) Bd.returns (by simp) hlk (hb hby own_d464) (by decide) (by decide) (by rw [e260]; exact ⟨_, rfl, Or.inr ⟨rfl, Or.inr ⟨rr, hrr, hc⟩⟩, N260, rfl⟩)
  · refine own_icY 42 X254 hx (hb hby own_d462) (feq hl).2 (by decide) (by decide) ?_
    refine own_ic 43 0 X254 hx (hb hby own_d463) rfl rfl ?_
    exact own_retN X254 hx (t := .boolean) Bd.returns (by simp) hlk (hb hby own_d464) (by decide) (by decide) (by rw [e254]; exact ⟨_, rfl, Or.inr ⟨rfl, Or.inl hl⟩, N0, rfl⟩)
def own_QPC0_2 (Z : State)  (h0 : Heap) (n0 : Nat) (v : Option Value) (h : Heap) (L : List Loc) : Prop := v = some (.int 0) ∧ Fr n0 L ∧ h = h0
set_option maxRecDepth 65536 in
set_option maxHeartbeats 40000000 in
theorem own_rmPC0_2 (l : Launch) (Z : State) (a0 : Array Value) (hw : ∀ d ∈ tables_1, d.before a0 Z = true) (ws : List Jvm.Cond)  (h0 : Heap) (n0 : Nat) (Z0 : n0 ≤ h0.size) (OL : Old Z n0 h0)  :
    own_MF l (⟨"jdk/internal/util/Preconditions", "checkFromToIndex", "(IIILjava/util/function/BiFunction;)I"⟩ : MethodName) (Jvm.Cond.code (⟨"jdk/internal/util/Preconditions", "checkFromToIndex", "(IIILjava/util/function/BiFunction;)I"⟩ : MethodName) jdk_41_method_12_code 4 (some .int) :: ws) ({ frames := 0, cells := 0, slots := 0, locals := 0 } : Room) #[(.int (0 : Int32)), (.int (2 : Int32)), (.int (2 : Int32)), .null] Z h0 (own_QPC0_2 Z  h0 n0) := by
  refine MetFree.of_bodySF (plainFor_of_name own_pn6) hisR ?_
  intro p e s m args below meth c s₁ Bd hml0 hP hK
  obtain ⟨rfl, hZ, hh⟩ := hP
  have hx := Bd.exec
  have hby := Bd.bytes
  have hlk : meth.locks = false := BodyLoose.notSynchronized Bd
  have hml : c.maxLocals = 4 := hml0
  have hown : s.vm.findClass "jdk/internal/util/Preconditions" = some m.cls := findClass_of_methodNamed Bd.named
  have hnm := (name_of_methodNamed Bd.named Bd.method).1
  have X0 : Stand p l e ({ frames := 0, cells := 0, slots := 0, locals := 0 } : Room) s m #[(.int (0 : Int32)), (.int (2 : Int32)), (.int (2 : Int32)), .null] below meth c s₁ [] 0 0 := Stand.of_body Bd
  have e0 : s₁.heap = h0 := by rw [← hh, Bd.state]; rfl
  have N0 := Fr.nil n0
  have KP : Keep h0 h0 [] := Keep.refl _ _
  refine own_start (Fin := (own_Fin s (own_QPC0_2 Z  h0 n0) ({ frames := 0, cells := 0, slots := 0, locals := 0 } : Room).cells ({ frames := 0, cells := 0, slots := 0, locals := 0 } : Room).slots)) (own_from (mkF m 0 #[iv 0, iv 2, iv 2, .val .null] []) (castTop (own_ef_PC0_2 m (0 : Int32) (2 : Int32) (2 : Int32))) ?_)
  refine own_iln 1 X0 hx (hb hby own_d400) rfl rfl ?_
  refine own_ifN 4 X0 hx (hb hby own_d401) ((if0 _ _).trans (flt (by decide : ¬ ((0 : Int32) < (0 : Int32)))).1) rfl ?_
  refine own_iln 5 X0 hx (hb hby own_d402) rfl rfl ?_
  refine own_iln 6 X0 hx (hb hby own_d403) rfl rfl ?_
  refine own_icN 9 X0 hx (hb hby own_d404) (flt (by decide : ¬ ((2 : Int32) < (0 : Int32)))).2.2.1 rfl ?_
  refine own_iln 10 X0 hx (hb hby own_d405) rfl rfl ?_
  refine own_iln 11 X0 hx (hb hby own_d406) rfl rfl ?_
  refine own_icY 22 X0 hx (hb hby own_d407) (flt (by decide : ¬ ((2 : Int32) < (2 : Int32)))).2.2.2 (by decide) (by decide) ?_
  refine own_iln 23 X0 hx (hb hby own_d408) rfl rfl ?_
  exact own_retI X0 hx Bd.returns hlk (hb hby own_d409) (by decide) (by decide) (by rw [e0]; exact ⟨rfl, N0, rfl⟩)
def own_QOC_2 (Z : State)  (h0 : Heap) (n0 : Nat) (v : Option Value) (h : Heap) (L : List Loc) : Prop := v = some (.int 0) ∧ Fr n0 L ∧ h = h0
set_option maxRecDepth 65536 in
set_option maxHeartbeats 40000000 in
theorem own_rmOC_2 (l : Launch) (Z : State) (a0 : Array Value) (hw : ∀ d ∈ tables_1, d.before a0 Z = true) (ws : List Jvm.Cond)  (h0 : Heap) (n0 : Nat) (Z0 : n0 ≤ h0.size) (OL : Old Z n0 h0)  :
    own_MF l (⟨"java/util/Objects", "checkFromToIndex", "(III)I"⟩ : MethodName) (Jvm.Cond.code (⟨"java/util/Objects", "checkFromToIndex", "(III)I"⟩ : MethodName) jdk_31_method_18_code 3 (some .int) :: ws) ({ frames := 1, cells := 0, slots := 0, locals := 16 } : Room) #[(.int (0 : Int32)), (.int (2 : Int32)), (.int (2 : Int32))] Z h0 (own_QOC_2 Z  h0 n0) := by
  refine MetFree.of_bodySF (plainFor_of_name own_pn7) hisR ?_
  intro p e s m args below meth c s₁ Bd hml0 hP hK
  obtain ⟨rfl, hZ, hh⟩ := hP
  have hx := Bd.exec
  have hby := Bd.bytes
  have hlk : meth.locks = false := BodyLoose.notSynchronized Bd
  have hml : c.maxLocals = 3 := hml0
  have hown : s.vm.findClass "java/util/Objects" = some m.cls := findClass_of_methodNamed Bd.named
  have hnm := (name_of_methodNamed Bd.named Bd.method).1
  have X0 : Stand p l e ({ frames := 1, cells := 0, slots := 0, locals := 16 } : Room) s m #[(.int (0 : Int32)), (.int (2 : Int32)), (.int (2 : Int32))] below meth c s₁ [] 0 0 := Stand.of_body Bd
  have e0 : s₁.heap = h0 := by rw [← hh, Bd.state]; rfl
  have N0 := Fr.nil n0
  have KP : Keep h0 h0 [] := Keep.refl _ _
  refine own_start (Fin := (own_Fin s (own_QOC_2 Z  h0 n0) ({ frames := 1, cells := 0, slots := 0, locals := 16 } : Room).cells ({ frames := 1, cells := 0, slots := 0, locals := 16 } : Room).slots)) (own_from (mkF m 0 #[iv 0, iv 2, iv 2] []) (castTop (own_ef_OC_2 m (0 : Int32) (2 : Int32) (2 : Int32))) ?_)
  refine own_iln 1 X0 hx (hb hby own_d410) rfl rfl ?_
  refine own_iln 2 X0 hx (hb hby own_d411) rfl rfl ?_
  refine own_iln 3 X0 hx (hb hby own_d412) rfl rfl ?_
  refine own_nul 4 X0 hx (hb hby own_d413) rfl ?_
  obtain ⟨_, T261, Lc261, X261, hQ261, st261⟩ := own_callS X0 hx (y := (⟨"jdk/internal/util/Preconditions", "checkFromToIndex", "(IIILjava/util/function/BiFunction;)I"⟩ : MethodName)) hown (mvT hZ (own_w hw 135 rfl)) (mvT hZ (own_w hw 136 rfl)) (mvT hZ (own_w hw 137 rfl)) (mvT hZ (own_w hw 138 rfl)) (by decide) (backOf (W := 0) (own_rmPC0_2 l Z a0 hw []  h0 n0 (Nat.le_trans Z0 KP.1) OL ) hZ (own_w hw 138 rfl) (own_w hw 137 rfl) (by decide) (by decide)) (g := (mkF m 4 #[iv 0, iv 2, iv 2] [.null, (.int (2 : Int32)), (.int (2 : Int32)), (.int (0 : Int32))])) rfl (by rw [hml]; rfl) (argsL := [(.int (0 : Int32)), (.int (2 : Int32)), (.int (2 : Int32)), .null]) (rest := []) (lenOf own_pd12 rfl) rfl (by show 2 * 0 + _ ≤ _; exact Nat.le_of_eq rfl) (hb hby own_d414) rfl e0 (kc := 0) (ks := 0) rfl rfl (by decide) (by decide)
  obtain ⟨rfl, N261q, e261⟩ := hQ261
  have N261 := Fr.app N0 N261q
  refine own_to (mkF m 7 #[iv 0, iv 2, iv 2] [(.int (0 : Int32))]) st261 ?_
  exact own_retI X261 hx Bd.returns hlk (hb hby own_d415) (by decide) (by decide) (by rw [e261]; exact ⟨rfl, N261, rfl⟩)
def own_QCZ_2 (Z : State) (x0 x1 : Int32) (G1 : Int32) (b : Addr) (kb : ClassId) (h0 : Heap) (n0 : Nat) (v : Option Value) (h : Heap) (L : List Loc) : Prop := ∃ r : Int32, v = some (.int r) ∧ own_P2 x0 x1 r ∧ Fr n0 L ∧ h = h0
set_option maxRecDepth 65536 in
set_option maxHeartbeats 40000000 in
theorem own_rmCZ_2 (l : Launch) (Z : State) (a0 : Array Value) (hw : ∀ d ∈ tables_1, d.before a0 Z = true) (ws : List Jvm.Cond) (x0 x1 : Int32) (G1 : Int32) (b : Addr) (kb : ClassId) (h0 : Heap) (n0 : Nat) (Z0 : n0 ≤ h0.size) (OL : Old Z n0 h0) (hx0 : own_C16 x0) (hx1 : own_C16 x1) (Vb : Arv Z h0 b kb .byte (4 : Int32) [(.int ((x0 >>> ((0 : Int32) &&& 31)).toInt8.toInt32)), (.int ((x0 >>> ((8 : Int32) &&& 31)).toInt8.toInt32)), (.int ((x1 >>> ((0 : Int32) &&& 31)).toInt8.toInt32)), (.int ((x1 >>> ((8 : Int32) &&& 31)).toInt8.toInt32))] (.int (0 : Int32))) (O2 : Sta Z Z.heap "java/lang/String" "COMPACT_STRINGS" "Z" (.int G1)) (P5 : ¬ (G1 = (0 : Int32))) (OAD : Sta Z Z.heap "java/lang/StringUTF16" "$assertionsDisabled" "Z" (.int (1 : Int32))) (OHI : Sta Z Z.heap "java/lang/StringUTF16" "HI_BYTE_SHIFT" "I" (.int (0 : Int32))) (OLO : Sta Z Z.heap "java/lang/StringUTF16" "LO_BYTE_SHIFT" "I" (.int (8 : Int32))) :
    own_MF l (⟨"java/lang/StringUTF16", "codePointCount", "([BIIZ)I"⟩ : MethodName) (Jvm.Cond.code (⟨"java/lang/StringUTF16", "codePointCount", "([BIIZ)I"⟩ : MethodName) jdk_52_method_11_code 6 (some .int) :: ws) ({ frames := 1, cells := 0, slots := 0, locals := 20 } : Room) #[(.ref b), (.int (0 : Int32)), (.int (2 : Int32)), (.int (0 : Int32))] Z h0 (own_QCZ_2 Z x0 x1 G1 b kb h0 n0) := by
  refine MetFree.of_bodySF (plainFor_of_name own_pn1) hisR ?_
  intro p e s m args below meth c s₁ Bd hml0 hP hK
  obtain ⟨rfl, hZ, hh⟩ := hP
  have hx := Bd.exec
  have hby := Bd.bytes
  have hlk : meth.locks = false := BodyLoose.notSynchronized Bd
  have hml : c.maxLocals = 6 := hml0
  have hown : s.vm.findClass "java/lang/StringUTF16" = some m.cls := findClass_of_methodNamed Bd.named
  have hnm := (name_of_methodNamed Bd.named Bd.method).1
  have X0 : Stand p l e ({ frames := 1, cells := 0, slots := 0, locals := 20 } : Room) s m #[(.ref b), (.int (0 : Int32)), (.int (2 : Int32)), (.int (0 : Int32))] below meth c s₁ [] 0 0 := Stand.of_body Bd
  have e0 : s₁.heap = h0 := by rw [← hh, Bd.state]; rfl
  have N0 := Fr.nil n0
  have KP : Keep h0 h0 [] := Keep.refl _ _
  refine own_start (Fin := (own_Fin s (own_QCZ_2 Z x0 x1 G1 b kb h0 n0) ({ frames := 1, cells := 0, slots := 0, locals := 20 } : Room).cells ({ frames := 1, cells := 0, slots := 0, locals := 20 } : Room).slots)) (own_from (mkF m 0 #[rv b, iv 0, iv 2, iv 0, .unset, .unset] []) (castTop (own_ef_CZ_2 m b (0 : Int32) (2 : Int32) (0 : Int32))) ?_)
  obtain ⟨T262, X262, e262, st262⟩ := getS2 X0 hx hZ hown (host := "") (Or.inl (own_w hw 97 rfl)) Via.refl e0 (OAD.ext OL.2) (g := (mkF m 0 #[rv b, iv 0, iv 2, iv 0, .unset, .unset] [])) rfl (hb hby own_d416)
  refine own_to (mkF m 3 #[rv b, iv 0, iv 2, iv 0, .unset, .unset] [(.int (1 : Int32))]) st262 ?_
  refine own_ifY 19 X262 hx (hb hby own_d417) ((if0 _ _).trans (feq (by decide : ¬ ((1 : Int32) = (0 : Int32)))).2) (by decide) (by decide) ?_
  refine own_iln 20 X262 hx (hb hby own_d418) rfl rfl ?_
  refine own_iln 21 X262 hx (hb hby own_d419) rfl rfl ?_
  refine own_isub 22 X262 hx (hb hby own_d420) (z := (2 : Int32)) rfl rfl ?_
  refine own_is 24 #[rv b, iv 0, iv 2, iv 0, iv 2, .unset] X262 hx (hb hby own_d421) rfl rfl ?_
  refine own_iln 25 X262 hx (hb hby own_d422) rfl rfl ?_
  refine own_is 27 #[rv b, iv 0, iv 2, iv 0, iv 2, iv 0] X262 hx (hb hby own_d423) rfl rfl ?_
  refine own_iln 28 X262 hx (hb hby own_d424) rfl rfl ?_
  refine own_ifY 44 X262 hx (hb hby own_d425) ((if0 _ _).trans (teq (by decide : (0 : Int32) = (0 : Int32))).1) (by decide) (by decide) ?_
  refine own_il 46 X262 hx (hb hby own_d426) rfl rfl ?_
  refine own_iln 47 X262 hx (hb hby own_d427) rfl rfl ?_
  refine own_ic 48 1 X262 hx (hb hby own_d428) rfl rfl ?_
  refine own_isub 49 X262 hx (hb hby own_d429) (z := (1 : Int32)) rfl rfl ?_
  refine own_icN 52 X262 hx (hb hby own_d430) (tlt (by decide : (0 : Int32) < (1 : Int32))).2.1 rfl ?_
  refine own_aln 53 X262 hx (hb hby own_d480) rfl rfl rfl ?_
  refine own_il 55 X262 hx (hb hby own_d481) rfl rfl ?_
  refine own_inc 58 #[rv b, iv 0, iv 2, iv 0, iv 2, iv 1] X262 hx (hb hby own_d482) rfl rfl rfl ?_
  obtain ⟨_, T263, Lc263, X263, hQ263, st263⟩ := own_callS X262 hx (y := (⟨"java/lang/StringUTF16", "getChar", "([BI)C"⟩ : MethodName)) hown (mvT hZ (own_w hw 100 rfl)) (mvT hZ (own_w hw 101 rfl)) (mvT hZ (own_w hw 24 rfl)) (mvT hZ (own_w hw 102 rfl)) (by decide) (backOf (W := 0) (own_rmGC_2_0 l Z a0 hw [] x0 x1 G1 b kb h0 n0 (Nat.le_trans Z0 KP.1) OL hx0 Vb O2 P5 OAD OHI OLO) hZ (own_w hw 102 rfl) (own_w hw 24 rfl) (by decide) (by decide)) (g := (mkF m 58 #[rv b, iv 0, iv 2, iv 0, iv 2, iv 1] [(.int (0 : Int32)), (.ref b)])) rfl (by rw [hml]; rfl) (argsL := [(.ref b), (.int (0 : Int32))]) (rest := []) (lenOf own_pd6 rfl) rfl (by show 2 * 0 + _ ≤ _; exact Nat.le_of_eq rfl) (hb hby own_d483) rfl e262 (kc := 0) (ks := 0) rfl rfl (by decide) (by decide)
  obtain ⟨rfl, N263q, e263⟩ := hQ263
  have N263 := Fr.app N0 N263q
  refine own_to (mkF m 61 #[rv b, iv 0, iv 2, iv 0, iv 2, iv 1] [(.int x0)]) st263 ?_
  obtain ⟨_, T264, Lc264, X264, hQ264, st264⟩ := own_callS X263 hx (y := (⟨"java/lang/Character", "isHighSurrogate", "(C)Z"⟩ : MethodName)) hown (mvT hZ (own_w hw 151 rfl)) (mvT hZ (own_w hw 152 rfl)) (mvT hZ (own_w hw 153 rfl)) (mvT hZ (own_w hw 154 rfl)) (by decide) (backOf (W := 0) (own_rmHS l Z a0 hw [] x0 h0 n0 (Nat.le_trans Z0 KP.1) OL ) hZ (own_w hw 154 rfl) (own_w hw 153 rfl) (by decide) (by decide)) (g := (mkF m 61 #[rv b, iv 0, iv 2, iv 0, iv 2, iv 1] [(.int x0)])) rfl (by rw [hml]; rfl) (argsL := [(.int x0)]) (rest := []) (lenOf own_pd9 rfl) rfl (by show 2 * 0 + _ ≤ _; exact Nat.le_of_eq rfl) (hb hby own_d484) rfl e263 (kc := 0) (ks := 0) rfl rfl (by decide) (by decide)
  obtain ⟨N264q, e264, hor264⟩ := hQ264
  have N264 := Fr.app N263 N264q
  rcases hor264 with ⟨rfl, hs0⟩ | ⟨rfl, hs0⟩
  · refine own_to (mkF m 64 #[rv b, iv 0, iv 2, iv 0, iv 2, iv 1] [(.int (1 : Int32))]) st264 ?_
    refine own_ifN 67 X264 hx (hb hby own_d485) ((if0 _ _).trans (feq (by decide : ¬ ((1 : Int32) = (0 : Int32)))).1) rfl ?_
    refine own_aln 68 X264 hx (hb hby own_d486) rfl rfl rfl ?_
    refine own_il 70 X264 hx (hb hby own_d487) rfl rfl ?_
    obtain ⟨_, T265, Lc265, X265, hQ265, st265⟩ := own_callS X264 hx (y := (⟨"java/lang/StringUTF16", "getChar", "([BI)C"⟩ : MethodName)) hown (mvT hZ (own_w hw 100 rfl)) (mvT hZ (own_w hw 101 rfl)) (mvT hZ (own_w hw 24 rfl)) (mvT hZ (own_w hw 102 rfl)) (by decide) (backOf (W := 0) (own_rmGC_2_1 l Z a0 hw [] x0 x1 G1 b kb h0 n0 (Nat.le_trans Z0 KP.1) OL hx1 Vb O2 P5 OAD OHI OLO) hZ (own_w hw 102 rfl) (own_w hw 24 rfl) (by decide) (by decide)) (g := (mkF m 70 #[rv b, iv 0, iv 2, iv 0, iv 2, iv 1] [(.int (1 : Int32)), (.ref b)])) rfl (by rw [hml]; rfl) (argsL := [(.ref b), (.int (1 : Int32))]) (rest := []) (lenOf own_pd6 rfl) rfl (by show 2 * 0 + _ ≤ _; exact Nat.le_of_eq rfl) (hb hby own_d488) rfl e264 (kc := 0) (ks := 0) rfl rfl (by decide) (by decide)
    obtain ⟨rfl, N265q, e265⟩ := hQ265
    have N265 := Fr.app N264 N265q
    refine own_to (mkF m 73 #[rv b, iv 0, iv 2, iv 0, iv 2, iv 1] [(.int x1)]) st265 ?_
    obtain ⟨_, T266, Lc266, X266, hQ266, st266⟩ := own_callS X265 hx (y := (⟨"java/lang/Character", "isLowSurrogate", "(C)Z"⟩ : MethodName)) hown (mvT hZ (own_w hw 159 rfl)) (mvT hZ (own_w hw 160 rfl)) (mvT hZ (own_w hw 153 rfl)) (mvT hZ (own_w hw 161 rfl)) (by decide) (backOf (W := 0) (own_rmLS l Z a0 hw [] x1 h0 n0 (Nat.le_trans Z0 KP.1) OL ) hZ (own_w hw 161 rfl) (own_w hw 153 rfl) (by decide) (by decide)) (g := (mkF m 73 #[rv b, iv 0, iv 2, iv 0, iv 2, iv 1] [(.int x1)])) rfl (by rw [hml]; rfl) (argsL := [(.int x1)]) (rest := []) (lenOf own_pd9 rfl) rfl (by show 2 * 0 + _ ≤ _; exact Nat.le_of_eq rfl) (hb hby own_d489) rfl e265 (kc := 0) (ks := 0) rfl rfl (by decide) (by decide)
    obtain ⟨N266q, e266, hor266⟩ := hQ266
    have N266 := Fr.app N265 N266q
    rcases hor266 with ⟨rfl, ls0⟩ | ⟨rfl, ls0⟩
    · refine own_to (mkF m 76 #[rv b, iv 0, iv 2, iv 0, iv 2, iv 1] [(.int (1 : Int32))]) st266 ?_
      refine own_ifN 79 X266 hx (hb hby own_d490) ((if0 _ _).trans (feq (by decide : ¬ ((1 : Int32) = (0 : Int32)))).1) rfl ?_
      refine own_inc 82 #[rv b, iv 0, iv 2, iv 0, iv 1, iv 1] X266 hx (hb hby own_d491) rfl rfl rfl ?_
      refine own_inc 85 #[rv b, iv 0, iv 2, iv 0, iv 1, iv 2] X266 hx (hb hby own_d492) rfl rfl rfl ?_
      refine own_go 44 X266 hx (hb hby own_d493) (by decide) (by decide) ?_
      refine own_il 46 X266 hx (hb hby own_d426) rfl rfl ?_
      refine own_iln 47 X266 hx (hb hby own_d427) rfl rfl ?_
      refine own_ic 48 1 X266 hx (hb hby own_d428) rfl rfl ?_
      refine own_isub 49 X266 hx (hb hby own_d429) (z := (1 : Int32)) rfl rfl ?_
      refine own_icY 88 X266 hx (hb hby own_d430) (flt (by decide : ¬ ((2 : Int32) < (1 : Int32)))).2.1 (by decide) (by decide) ?_
      refine own_il 90 X266 hx (hb hby own_d431) rfl rfl ?_
      exact own_retI X266 hx Bd.returns hlk (hb hby own_d432) (by decide) (by decide) (by rw [e266]; exact ⟨_, rfl, own_P2a hs0 ls0, N266, rfl⟩)
    · refine own_to (mkF m 76 #[rv b, iv 0, iv 2, iv 0, iv 2, iv 1] [(.int (0 : Int32))]) st266 ?_
      refine own_ifY 44 X266 hx (hb hby own_d490) ((if0 _ _).trans (teq (by decide : (0 : Int32) = (0 : Int32))).1) (by decide) (by decide) ?_
      refine own_il 46 X266 hx (hb hby own_d426) rfl rfl ?_
      refine own_iln 47 X266 hx (hb hby own_d427) rfl rfl ?_
      refine own_ic 48 1 X266 hx (hb hby own_d428) rfl rfl ?_
      refine own_isub 49 X266 hx (hb hby own_d429) (z := (1 : Int32)) rfl rfl ?_
      refine own_icY 88 X266 hx (hb hby own_d430) (flt (by decide : ¬ ((1 : Int32) < (1 : Int32)))).2.1 (by decide) (by decide) ?_
      refine own_il 90 X266 hx (hb hby own_d431) rfl rfl ?_
      exact own_retI X266 hx Bd.returns hlk (hb hby own_d432) (by decide) (by decide) (by rw [e266]; exact ⟨_, rfl, own_P2c (fun q => ls0 q.2), N266, rfl⟩)
  · refine own_to (mkF m 64 #[rv b, iv 0, iv 2, iv 0, iv 2, iv 1] [(.int (0 : Int32))]) st264 ?_
    refine own_ifY 44 X264 hx (hb hby own_d485) ((if0 _ _).trans (teq (by decide : (0 : Int32) = (0 : Int32))).1) (by decide) (by decide) ?_
    refine own_il 46 X264 hx (hb hby own_d426) rfl rfl ?_
    refine own_iln 47 X264 hx (hb hby own_d427) rfl rfl ?_
    refine own_ic 48 1 X264 hx (hb hby own_d428) rfl rfl ?_
    refine own_isub 49 X264 hx (hb hby own_d429) (z := (1 : Int32)) rfl rfl ?_
    refine own_icY 88 X264 hx (hb hby own_d430) (flt (by decide : ¬ ((1 : Int32) < (1 : Int32)))).2.1 (by decide) (by decide) ?_
    refine own_il 90 X264 hx (hb hby own_d431) rfl rfl ?_
    exact own_retI X264 hx Bd.returns hlk (hb hby own_d432) (by decide) (by decide) (by rw [e264]; exact ⟨_, rfl, own_P2c (fun q => hs0 q.1), N264, rfl⟩)
def own_QCU_2 (Z : State) (x0 x1 : Int32) (G1 : Int32) (b : Addr) (kb : ClassId) (h0 : Heap) (n0 : Nat) (v : Option Value) (h : Heap) (L : List Loc) : Prop := ∃ r : Int32, v = some (.int r) ∧ own_P2 x0 x1 r ∧ Fr n0 L ∧ h = h0
set_option maxRecDepth 65536 in
set_option maxHeartbeats 40000000 in
theorem own_rmCU_2 (l : Launch) (Z : State) (a0 : Array Value) (hw : ∀ d ∈ tables_1, d.before a0 Z = true) (ws : List Jvm.Cond) (x0 x1 : Int32) (G1 : Int32) (b : Addr) (kb : ClassId) (h0 : Heap) (n0 : Nat) (Z0 : n0 ≤ h0.size) (OL : Old Z n0 h0) (hx0 : own_C16 x0) (hx1 : own_C16 x1) (Vb : Arv Z h0 b kb .byte (4 : Int32) [(.int ((x0 >>> ((0 : Int32) &&& 31)).toInt8.toInt32)), (.int ((x0 >>> ((8 : Int32) &&& 31)).toInt8.toInt32)), (.int ((x1 >>> ((0 : Int32) &&& 31)).toInt8.toInt32)), (.int ((x1 >>> ((8 : Int32) &&& 31)).toInt8.toInt32))] (.int (0 : Int32))) (O2 : Sta Z Z.heap "java/lang/String" "COMPACT_STRINGS" "Z" (.int G1)) (P5 : ¬ (G1 = (0 : Int32))) (OAD : Sta Z Z.heap "java/lang/StringUTF16" "$assertionsDisabled" "Z" (.int (1 : Int32))) (OHI : Sta Z Z.heap "java/lang/StringUTF16" "HI_BYTE_SHIFT" "I" (.int (0 : Int32))) (OLO : Sta Z Z.heap "java/lang/StringUTF16" "LO_BYTE_SHIFT" "I" (.int (8 : Int32))) :
    own_MF l (⟨"java/lang/StringUTF16", "codePointCount", "([BII)I"⟩ : MethodName) (Jvm.Cond.code (⟨"java/lang/StringUTF16", "codePointCount", "([BII)I"⟩ : MethodName) jdk_52_method_12_code 3 (some .int) :: ws) ({ frames := 2, cells := 0, slots := 0, locals := 40 } : Room) #[(.ref b), (.int (0 : Int32)), (.int (2 : Int32))] Z h0 (own_QCU_2 Z x0 x1 G1 b kb h0 n0) := by
  refine MetFree.of_bodySF (plainFor_of_name own_pn1) hisR ?_
  intro p e s m args below meth c s₁ Bd hml0 hP hK
  obtain ⟨rfl, hZ, hh⟩ := hP
  have hx := Bd.exec
  have hby := Bd.bytes
  have hlk : meth.locks = false := BodyLoose.notSynchronized Bd
  have hml : c.maxLocals = 3 := hml0
  have hown : s.vm.findClass "java/lang/StringUTF16" = some m.cls := findClass_of_methodNamed Bd.named
  have hnm := (name_of_methodNamed Bd.named Bd.method).1
  have X0 : Stand p l e ({ frames := 2, cells := 0, slots := 0, locals := 40 } : Room) s m #[(.ref b), (.int (0 : Int32)), (.int (2 : Int32))] below meth c s₁ [] 0 0 := Stand.of_body Bd
  have e0 : s₁.heap = h0 := by rw [← hh, Bd.state]; rfl
  have N0 := Fr.nil n0
  have KP : Keep h0 h0 [] := Keep.refl _ _
  refine own_start (Fin := (own_Fin s (own_QCU_2 Z x0 x1 G1 b kb h0 n0) ({ frames := 2, cells := 0, slots := 0, locals := 40 } : Room).cells ({ frames := 2, cells := 0, slots := 0, locals := 40 } : Room).slots)) (own_from (mkF m 0 #[rv b, iv 0, iv 2] []) (castTop (own_ef_CU_2 m b (0 : Int32) (2 : Int32))) ?_)
  refine own_aln 1 X0 hx (hb hby own_d433) rfl rfl rfl ?_
  refine own_iln 2 X0 hx (hb hby own_d434) rfl rfl ?_
  refine own_iln 3 X0 hx (hb hby own_d435) rfl rfl ?_
  refine own_ic 4 0 X0 hx (hb hby own_d436) rfl rfl ?_
  obtain ⟨_, T267, Lc267, X267, hQ267, st267⟩ := own_callS X0 hx (y := (⟨"java/lang/StringUTF16", "codePointCount", "([BIIZ)I"⟩ : MethodName)) hown (mvT hZ (own_w hw 147 rfl)) (mvT hZ (own_w hw 148 rfl)) (mvT hZ (own_w hw 24 rfl)) (mvT hZ (own_w hw 149 rfl)) (by decide) (backOf (W := 0) (own_rmCZ_2 l Z a0 hw [] x0 x1 G1 b kb h0 n0 (Nat.le_trans Z0 KP.1) OL hx0 hx1 Vb O2 P5 OAD OHI OLO) hZ (own_w hw 149 rfl) (own_w hw 24 rfl) (by decide) (by decide)) (g := (mkF m 4 #[rv b, iv 0, iv 2] [(.int (0 : Int32)), (.int (2 : Int32)), (.int (0 : Int32)), (.ref b)])) rfl (by rw [hml]; rfl) (argsL := [(.ref b), (.int (0 : Int32)), (.int (2 : Int32)), (.int (0 : Int32))]) (rest := []) (lenOf own_pd13 rfl) rfl (by show 2 * 0 + _ ≤ _; exact Nat.le_of_eq rfl) (hb hby own_d437) rfl e0 (kc := 0) (ks := 0) rfl rfl (by decide) (by decide)
  obtain ⟨rr, rfl, hrr, N267q, e267⟩ := hQ267
  have N267 := Fr.app N0 N267q
  refine own_to (mkF m 7 #[rv b, iv 0, iv 2] [(.int rr)]) st267 ?_
  exact own_retI X267 hx Bd.returns hlk (hb hby own_d438) (by decide) (by decide) (by rw [e267]; exact ⟨_, rfl, hrr, N267, rfl⟩)
def own_QCP_2 (Z : State) (x0 x1 : Int32) (G1 : Int32) (sx tx : Addr) (kx : ClassId) (h0 : Heap) (n0 : Nat) (v : Option Value) (h : Heap) (L : List Loc) : Prop := ∃ r : Int32, v = some (.int r) ∧ own_P2 x0 x1 r ∧ Fr n0 L ∧ h = h0
set_option maxRecDepth 65536 in
set_option maxHeartbeats 40000000 in
theorem own_rmCP_2 (l : Launch) (Z : State) (a0 : Array Value) (hw : ∀ d ∈ tables_1, d.before a0 Z = true) (ws : List Jvm.Cond) (x0 x1 : Int32) (G1 : Int32) (sx tx : Addr) (kx : ClassId) (h0 : Heap) (n0 : Nat) (Z0 : n0 ≤ h0.size) (OL : Old Z n0 h0) (hx0 : own_C16 x0) (hx1 : own_C16 x1) (SS : own_S2 Z h0 sx tx kx x0 x1) (O2 : Sta Z Z.heap "java/lang/String" "COMPACT_STRINGS" "Z" (.int G1)) (P5 : ¬ (G1 = (0 : Int32))) (OAD : Sta Z Z.heap "java/lang/StringUTF16" "$assertionsDisabled" "Z" (.int (1 : Int32))) (OHI : Sta Z Z.heap "java/lang/StringUTF16" "HI_BYTE_SHIFT" "I" (.int (0 : Int32))) (OLO : Sta Z Z.heap "java/lang/StringUTF16" "LO_BYTE_SHIFT" "I" (.int (8 : Int32))) :
    own_MF l (⟨"java/lang/String", "codePointCount", "(II)I"⟩ : MethodName) (Jvm.Cond.code (⟨"java/lang/String", "codePointCount", "(II)I"⟩ : MethodName) jdk_42_method_59_code 3 (some .int) :: ws) ({ frames := 3, cells := 0, slots := 0, locals := 60 } : Room) #[(.ref sx), (.int (0 : Int32)), (.int (2 : Int32))] Z h0 (own_QCP_2 Z x0 x1 G1 sx tx kx h0 n0) := by
  refine MetFree.of_bodySF (plainFor_of_name own_pn0) hisR ?_
  intro p e s m args below meth c s₁ Bd hml0 hP hK
  obtain ⟨rfl, hZ, hh⟩ := hP
  have hx := Bd.exec
  have hby := Bd.bytes
  have hlk : meth.locks = false := BodyLoose.notSynchronized Bd
  have hml : c.maxLocals = 3 := hml0
  have hown : s.vm.findClass "java/lang/String" = some m.cls := findClass_of_methodNamed Bd.named
  have hnm := (name_of_methodNamed Bd.named Bd.method).1
  have X0 : Stand p l e ({ frames := 3, cells := 0, slots := 0, locals := 60 } : Room) s m #[(.ref sx), (.int (0 : Int32)), (.int (2 : Int32))] below meth c s₁ [] 0 0 := Stand.of_body Bd
  have e0 : s₁.heap = h0 := by rw [← hh, Bd.state]; rfl
  have N0 := Fr.nil n0
  have KP : Keep h0 h0 [] := Keep.refl _ _
  refine own_start (Fin := (own_Fin s (own_QCP_2 Z x0 x1 G1 sx tx kx h0 n0) ({ frames := 3, cells := 0, slots := 0, locals := 60 } : Room).cells ({ frames := 3, cells := 0, slots := 0, locals := 60 } : Room).slots)) (own_from (mkF m 0 #[rv sx, iv 0, iv 2] []) (castTop (own_ef_CP_2 m sx (0 : Int32) (2 : Int32))) ?_)
  rcases SS with ⟨hA, SG⟩ | SG
  · obtain ⟨E_sx, Fv, Fc, Va⟩ := id SG
    have SL : own_StrL Z h0 sx tx (2 : Int32) (4 : Int32) := ⟨_, _, _, _, SG, Or.inl ⟨rfl, rfl⟩⟩
    refine own_iln 1 X0 hx (hb hby own_d439) rfl rfl ?_
    refine own_iln 2 X0 hx (hb hby own_d440) rfl rfl ?_
    refine own_aln 3 X0 hx (hb hby own_d441) rfl rfl rfl ?_
    obtain ⟨cq268, kq268, q268a, q268b, q268c⟩ := isOf hZ e0 E_sx
    obtain ⟨_, T268, Lc268, X268, hQ268, st268⟩ := own_virtual X0 hx (y := (⟨"java/lang/String", "length", "()I"⟩ : MethodName)) (z := (⟨"java/lang/String", "length", "()I"⟩ : MethodName)) hown (mvT hZ (own_w hw 130 rfl)) (mvT hZ (own_w hw 116 rfl)) (notFace_of_selects (args := #[]) (mvT hZ (own_w hw 118 rfl))) (mvT hZ (own_w hw 118 rfl)) (mvT hZ (own_w hw 117 rfl)) (by decide) (backOf (W := 2) (own_rmLN_2 l Z a0 hw [] G1 sx tx h0 n0 (Nat.le_trans Z0 KP.1) OL SL O2 P5) hZ (own_w hw 119 rfl) (own_w hw 6 rfl) (by decide) (by decide)) q268a q268c (g := (mkF m 3 #[rv sx, iv 0, iv 2] [(.ref sx), (.int (2 : Int32)), (.int (0 : Int32))])) rfl (by rw [hml]; rfl) (argsL := []) (rest := [(.int (2 : Int32)), (.int (0 : Int32))]) (lenOf own_pd14 rfl) rfl (by show 2 * 0 + _ ≤ _; exact Nat.le_of_eq rfl) (hb hby own_d442) rfl e0 (kc := 0) (ks := 0) rfl rfl (by decide) (by decide)
    obtain ⟨rfl, N268q, e268⟩ := hQ268
    have N268 := Fr.app N0 N268q
    refine own_via (mkF m 6 #[rv sx, iv 0, iv 2] [(.int (2 : Int32)), (.int (2 : Int32)), (.int (0 : Int32))]) st268 ?_
    obtain ⟨_, T269, Lc269, X269, hQ269, st269⟩ := own_callS X268 hx (y := (⟨"java/util/Objects", "checkFromToIndex", "(III)I"⟩ : MethodName)) hown (mvT hZ (own_w hw 131 rfl)) (mvT hZ (own_w hw 132 rfl)) (mvT hZ (own_w hw 133 rfl)) (mvT hZ (own_w hw 134 rfl)) (by decide) (backOf (W := 0) (own_rmOC_2 l Z a0 hw []  h0 n0 (Nat.le_trans Z0 KP.1) OL ) hZ (own_w hw 134 rfl) (own_w hw 133 rfl) (by decide) (by decide)) (g := (mkF m 6 #[rv sx, iv 0, iv 2] [(.int (2 : Int32)), (.int (2 : Int32)), (.int (0 : Int32))])) rfl (by rw [hml]; rfl) (argsL := [(.int (0 : Int32)), (.int (2 : Int32)), (.int (2 : Int32))]) (rest := []) (lenOf own_pd15 rfl) rfl (by show 2 * 0 + _ ≤ _; exact Nat.le_of_eq rfl) (hb hby own_d443) rfl e268 (kc := 0) (ks := 0) rfl rfl (by decide) (by decide)
    obtain ⟨rfl, N269q, e269⟩ := hQ269
    have N269 := Fr.app N268 N269q
    refine own_to (mkF m 9 #[rv sx, iv 0, iv 2] [(.int (0 : Int32))]) st269 ?_
    refine own_to (T' := T269) (mkF m 10 #[rv sx, iv 0, iv 2] []) (fun _ k => XS.pop X269.here hx rfl (hb hby own_d444) rfl rfl k) ?_
    refine own_aln 11 X269 hx (hb hby own_d445) rfl rfl rfl ?_
    obtain ⟨cq270, kq270, q270a, q270b, q270c⟩ := isOf hZ e269 E_sx
    obtain ⟨_, T270, Lc270, X270, hQ270, st270⟩ := own_virtual X269 hx (y := (⟨"java/lang/String", "isLatin1", "()Z"⟩ : MethodName)) (z := (⟨"java/lang/String", "isLatin1", "()Z"⟩ : MethodName)) hown (mvT hZ (own_w hw 139 rfl)) (mvT hZ (own_w hw 140 rfl)) (notFace_of_selects (args := #[]) (mvT hZ (own_w hw 142 rfl))) (mvT hZ (own_w hw 142 rfl)) (mvT hZ (own_w hw 141 rfl)) (by decide) (backOf (W := 0) (own_rmIS_0 l Z a0 hw [] G1 sx h0 n0 (Nat.le_trans Z0 KP.1) OL Fc O2 P5) hZ (own_w hw 143 rfl) (own_w hw 6 rfl) (by decide) (by decide)) q270a q270c (g := (mkF m 11 #[rv sx, iv 0, iv 2] [(.ref sx)])) rfl (by rw [hml]; rfl) (argsL := []) (rest := []) (lenOf own_pd16 rfl) rfl (by show 2 * 0 + _ ≤ _; exact Nat.le_of_eq rfl) (hb hby own_d446) rfl e269 (kc := 0) (ks := 0) rfl rfl (by decide) (by decide)
    obtain ⟨rfl, N270q, e270⟩ := hQ270
    have N270 := Fr.app N269 N270q
    refine own_via (mkF m 14 #[rv sx, iv 0, iv 2] [(.int (1 : Int32))]) st270 ?_
    refine own_ifN 17 X270 hx (hb hby own_d447) ((if0 _ _).trans (feq (by decide : ¬ ((1 : Int32) = (0 : Int32)))).1) rfl ?_
    refine own_iln 18 X270 hx (hb hby own_d448) rfl rfl ?_
    refine own_iln 19 X270 hx (hb hby own_d449) rfl rfl ?_
    refine own_isub 20 X270 hx (hb hby own_d450) (z := (2 : Int32)) rfl rfl ?_
    exact own_retI X270 hx Bd.returns hlk (hb hby own_d451) (by decide) (by decide) (by rw [e270]; exact ⟨_, rfl, hA, N270, rfl⟩)
  · obtain ⟨E_sx, Fv, Fc, Va⟩ := id SG
    have SL : own_StrL Z h0 sx tx (2 : Int32) (4 : Int32) := ⟨_, _, _, _, SG, Or.inr ⟨rfl, rfl⟩⟩
    refine own_iln 1 X0 hx (hb hby own_d439) rfl rfl ?_
    refine own_iln 2 X0 hx (hb hby own_d440) rfl rfl ?_
    refine own_aln 3 X0 hx (hb hby own_d441) rfl rfl rfl ?_
    obtain ⟨cq271, kq271, q271a, q271b, q271c⟩ := isOf hZ e0 E_sx
    obtain ⟨_, T271, Lc271, X271, hQ271, st271⟩ := own_virtual X0 hx (y := (⟨"java/lang/String", "length", "()I"⟩ : MethodName)) (z := (⟨"java/lang/String", "length", "()I"⟩ : MethodName)) hown (mvT hZ (own_w hw 130 rfl)) (mvT hZ (own_w hw 116 rfl)) (notFace_of_selects (args := #[]) (mvT hZ (own_w hw 118 rfl))) (mvT hZ (own_w hw 118 rfl)) (mvT hZ (own_w hw 117 rfl)) (by decide) (backOf (W := 2) (own_rmLN_2 l Z a0 hw [] G1 sx tx h0 n0 (Nat.le_trans Z0 KP.1) OL SL O2 P5) hZ (own_w hw 119 rfl) (own_w hw 6 rfl) (by decide) (by decide)) q271a q271c (g := (mkF m 3 #[rv sx, iv 0, iv 2] [(.ref sx), (.int (2 : Int32)), (.int (0 : Int32))])) rfl (by rw [hml]; rfl) (argsL := []) (rest := [(.int (2 : Int32)), (.int (0 : Int32))]) (lenOf own_pd14 rfl) rfl (by show 2 * 0 + _ ≤ _; exact Nat.le_of_eq rfl) (hb hby own_d442) rfl e0 (kc := 0) (ks := 0) rfl rfl (by decide) (by decide)
    obtain ⟨rfl, N271q, e271⟩ := hQ271
    have N271 := Fr.app N0 N271q
    refine own_via (mkF m 6 #[rv sx, iv 0, iv 2] [(.int (2 : Int32)), (.int (2 : Int32)), (.int (0 : Int32))]) st271 ?_
    obtain ⟨_, T272, Lc272, X272, hQ272, st272⟩ := own_callS X271 hx (y := (⟨"java/util/Objects", "checkFromToIndex", "(III)I"⟩ : MethodName)) hown (mvT hZ (own_w hw 131 rfl)) (mvT hZ (own_w hw 132 rfl)) (mvT hZ (own_w hw 133 rfl)) (mvT hZ (own_w hw 134 rfl)) (by decide) (backOf (W := 0) (own_rmOC_2 l Z a0 hw []  h0 n0 (Nat.le_trans Z0 KP.1) OL ) hZ (own_w hw 134 rfl) (own_w hw 133 rfl) (by decide) (by decide)) (g := (mkF m 6 #[rv sx, iv 0, iv 2] [(.int (2 : Int32)), (.int (2 : Int32)), (.int (0 : Int32))])) rfl (by rw [hml]; rfl) (argsL := [(.int (0 : Int32)), (.int (2 : Int32)), (.int (2 : Int32))]) (rest := []) (lenOf own_pd15 rfl) rfl (by show 2 * 0 + _ ≤ _; exact Nat.le_of_eq rfl) (hb hby own_d443) rfl e271 (kc := 0) (ks := 0) rfl rfl (by decide) (by decide)
    obtain ⟨rfl, N272q, e272⟩ := hQ272
    have N272 := Fr.app N271 N272q
    refine own_to (mkF m 9 #[rv sx, iv 0, iv 2] [(.int (0 : Int32))]) st272 ?_
    refine own_to (T' := T272) (mkF m 10 #[rv sx, iv 0, iv 2] []) (fun _ k => XS.pop X272.here hx rfl (hb hby own_d444) rfl rfl k) ?_
    refine own_aln 11 X272 hx (hb hby own_d445) rfl rfl rfl ?_
    obtain ⟨cq273, kq273, q273a, q273b, q273c⟩ := isOf hZ e272 E_sx
    obtain ⟨_, T273, Lc273, X273, hQ273, st273⟩ := own_virtual X272 hx (y := (⟨"java/lang/String", "isLatin1", "()Z"⟩ : MethodName)) (z := (⟨"java/lang/String", "isLatin1", "()Z"⟩ : MethodName)) hown (mvT hZ (own_w hw 139 rfl)) (mvT hZ (own_w hw 140 rfl)) (notFace_of_selects (args := #[]) (mvT hZ (own_w hw 142 rfl))) (mvT hZ (own_w hw 142 rfl)) (mvT hZ (own_w hw 141 rfl)) (by decide) (backOf (W := 0) (own_rmIS_1 l Z a0 hw [] G1 sx h0 n0 (Nat.le_trans Z0 KP.1) OL Fc O2 P5) hZ (own_w hw 143 rfl) (own_w hw 6 rfl) (by decide) (by decide)) q273a q273c (g := (mkF m 11 #[rv sx, iv 0, iv 2] [(.ref sx)])) rfl (by rw [hml]; rfl) (argsL := []) (rest := []) (lenOf own_pd16 rfl) rfl (by show 2 * 0 + _ ≤ _; exact Nat.le_of_eq rfl) (hb hby own_d446) rfl e272 (kc := 0) (ks := 0) rfl rfl (by decide) (by decide)
    obtain ⟨rfl, N273q, e273⟩ := hQ273
    have N273 := Fr.app N272 N273q
    refine own_via (mkF m 14 #[rv sx, iv 0, iv 2] [(.int (0 : Int32))]) st273 ?_
    refine own_ifY 21 X273 hx (hb hby own_d447) ((if0 _ _).trans (teq (by decide : (0 : Int32) = (0 : Int32))).1) (by decide) (by decide) ?_
    refine own_aln 22 X273 hx (hb hby own_d452) rfl rfl rfl ?_
    obtain ⟨T274, X274, e274, st274⟩ := getF X273 hx hZ hown (host := "") (Or.inl (own_w hw 35 rfl)) Via.refl e273 Fv (g := (mkF m 22 #[rv sx, iv 0, iv 2] [(.ref sx)])) rfl rfl (hb hby own_d453)
    refine own_to (mkF m 25 #[rv sx, iv 0, iv 2] [(.ref tx)]) st274 ?_
    refine own_iln 26 X274 hx (hb hby own_d454) rfl rfl ?_
    refine own_iln 27 X274 hx (hb hby own_d455) rfl rfl ?_
    obtain ⟨_, T275, Lc275, X275, hQ275, st275⟩ := own_callS X274 hx (y := (⟨"java/lang/StringUTF16", "codePointCount", "([BII)I"⟩ : MethodName)) hown (mvT hZ (own_w hw 144 rfl)) (mvT hZ (own_w hw 145 rfl)) (mvT hZ (own_w hw 24 rfl)) (mvT hZ (own_w hw 146 rfl)) (by decide) (backOf (W := 0) (own_rmCU_2 l Z a0 hw [] x0 x1 G1 tx kx h0 n0 (Nat.le_trans Z0 KP.1) OL hx0 hx1 Va O2 P5 OAD OHI OLO) hZ (own_w hw 146 rfl) (own_w hw 24 rfl) (by decide) (by decide)) (g := (mkF m 27 #[rv sx, iv 0, iv 2] [(.int (2 : Int32)), (.int (0 : Int32)), (.ref tx)])) rfl (by rw [hml]; rfl) (argsL := [(.ref tx), (.int (0 : Int32)), (.int (2 : Int32))]) (rest := []) (lenOf own_pd17 rfl) rfl (by show 2 * 0 + _ ≤ _; exact Nat.le_of_eq rfl) (hb hby own_d456) rfl e274 (kc := 0) (ks := 0) rfl rfl (by decide) (by decide)
    obtain ⟨rr, rfl, hrr, N275q, e275⟩ := hQ275
    have N275 := Fr.app N273 N275q
    refine own_to (mkF m 30 #[rv sx, iv 0, iv 2] [(.int rr)]) st275 ?_
    exact own_retI X275 hx Bd.returns hlk (hb hby own_d457) (by decide) (by decide) (by rw [e275]; exact ⟨_, rfl, hrr, N275, rfl⟩)
def own_QFO_2 (Z : State) (x0 x1 : Int32) (G1 : Int32) (sx tx : Addr) (kx : ClassId) (tk pv : Addr) (l1 c1 l0 c0 : Int32) (h0 : Heap) (n0 : Nat) (v : Option Value) (h : Heap) (L : List Loc) : Prop := ∃ r : Int32, v = some (.int r) ∧ ((r = 1 ∧ l1 = l0 ∧ ∃ q, own_P2 x0 x1 q ∧ c1 = (c0 + q)) ∨ (r = 0 ∧ (¬ l1 = l0 ∨ ∃ q, own_P2 x0 x1 q ∧ ¬ c1 = (c0 + q)))) ∧ Fr n0 L ∧ h = h0
set_option maxRecDepth 65536 in
set_option maxHeartbeats 40000000 in
theorem own_rmFO_2 (l : Launch) (Z : State) (a0 : Array Value) (hw : ∀ d ∈ tables_1, d.before a0 Z = true) (ws : List Jvm.Cond) (x0 x1 : Int32) (G1 : Int32) (sx tx : Addr) (kx : ClassId) (tk pv : Addr) (l1 c1 l0 c0 : Int32) (h0 : Heap) (n0 : Nat) (Z0 : n0 ≤ h0.size) (OL : Old Z n0 h0) (hx0 : own_C16 x0) (hx1 : own_C16 x1) (SS : own_S2 Z h0 sx tx kx x0 x1) (O2 : Sta Z Z.heap "java/lang/String" "COMPACT_STRINGS" "Z" (.int G1)) (P5 : ¬ (G1 = (0 : Int32))) (OAD : Sta Z Z.heap "java/lang/StringUTF16" "$assertionsDisabled" "Z" (.int (1 : Int32))) (OHI : Sta Z Z.heap "java/lang/StringUTF16" "HI_BYTE_SHIFT" "I" (.int (0 : Int32))) (OLO : Sta Z Z.heap "java/lang/StringUTF16" "LO_BYTE_SHIFT" "I" (.int (8 : Int32))) (F_line_tk : Fld Z h0 tk "com/example/ianus/ianus/Token" "line" "I" (.int l1)) (F_column_tk : Fld Z h0 tk "com/example/ianus/ianus/Token" "column" "I" (.int c1)) (F_line_pv : Fld Z h0 pv "com/example/ianus/ianus/Token" "line" "I" (.int l0)) (F_column_pv : Fld Z h0 pv "com/example/ianus/ianus/Token" "column" "I" (.int c0)) (F_text_pv : Fld Z h0 pv "com/example/ianus/ianus/Token" "text" "Ljava/lang/String;" (.ref sx)) :
    own_MF l (⟨"com/example/ianus/ianus/Token", "follows", "(Lcom/example/ianus/ianus/Token;)Z"⟩ : MethodName) (Jvm.Cond.code (⟨"com/example/ianus/ianus/Token", "follows", "(Lcom/example/ianus/ianus/Token;)Z"⟩ : MethodName) prog_18_method_8_code 2 (some .boolean) :: ws) ({ frames := 4, cells := 0, slots := 0, locals := 100 } : Room) #[(.ref tk), (.ref pv)] Z h0 (own_QFO_2 Z x0 x1 G1 sx tx kx tk pv l1 c1 l0 c0 h0 n0) := by
  refine MetFree.of_bodySF (plainFor_of_name own_pn5) hisR ?_
  intro p e s m args below meth c s₁ Bd hml0 hP hK
  obtain ⟨rfl, hZ, hh⟩ := hP
  have hx := Bd.exec
  have hby := Bd.bytes
  have hlk : meth.locks = false := BodyLoose.notSynchronized Bd
  have hml : c.maxLocals = 2 := hml0
  have hown : s.vm.findClass "com/example/ianus/ianus/Token" = some m.cls := findClass_of_methodNamed Bd.named
  have hnm := (name_of_methodNamed Bd.named Bd.method).1
  have X0 : Stand p l e ({ frames := 4, cells := 0, slots := 0, locals := 100 } : Room) s m #[(.ref tk), (.ref pv)] below meth c s₁ [] 0 0 := Stand.of_body Bd
  have e0 : s₁.heap = h0 := by rw [← hh, Bd.state]; rfl
  have N0 := Fr.nil n0
  have KP : Keep h0 h0 [] := Keep.refl _ _
  refine own_start (Fin := (own_Fin s (own_QFO_2 Z x0 x1 G1 sx tx kx tk pv l1 c1 l0 c0 h0 n0) ({ frames := 4, cells := 0, slots := 0, locals := 100 } : Room).cells ({ frames := 4, cells := 0, slots := 0, locals := 100 } : Room).slots)) (own_from (mkF m 0 #[rv tk, rv pv] []) (castTop (own_ef_FO_2 m tk pv)) ?_)
  have SL := SS.sl
  refine own_aln 1 X0 hx (hb hby own_d458) rfl rfl rfl ?_
  obtain ⟨T276, X276, e276, st276⟩ := getF X0 hx hZ hown (host := "") (Or.inl (own_w hw 74 rfl)) Via.refl e0 F_line_tk (g := (mkF m 1 #[rv tk, rv pv] [(.ref tk)])) rfl rfl (hb hby own_d459)
  refine own_to (mkF m 4 #[rv tk, rv pv] [(.int l1)]) st276 ?_
  refine own_aln 5 X276 hx (hb hby own_d460) rfl rfl rfl ?_
  obtain ⟨T277, X277, e277, st277⟩ := getF X276 hx hZ hown (host := "") (Or.inl (own_w hw 74 rfl)) Via.refl e276 F_line_pv (g := (mkF m 5 #[rv tk, rv pv] [(.ref pv), (.int l1)])) rfl rfl (hb hby own_d461)
  refine own_to (mkF m 8 #[rv tk, rv pv] [(.int l0), (.int l1)]) st277 ?_
  by_cases hl : l1 = l0
  · refine own_icN 11 X277 hx (hb hby own_d462) (teq hl).2 rfl ?_
    refine own_aln 12 X277 hx (hb hby own_d465) rfl rfl rfl ?_
    obtain ⟨T278, X278, e278, st278⟩ := getF X277 hx hZ hown (host := "") (Or.inl (own_w hw 76 rfl)) Via.refl e277 F_column_tk (g := (mkF m 12 #[rv tk, rv pv] [(.ref tk)])) rfl rfl (hb hby own_d466)
    refine own_to (mkF m 15 #[rv tk, rv pv] [(.int c1)]) st278 ?_
    refine own_aln 16 X278 hx (hb hby own_d467) rfl rfl rfl ?_
    obtain ⟨T279, X279, e279, st279⟩ := getF X278 hx hZ hown (host := "") (Or.inl (own_w hw 76 rfl)) Via.refl e278 F_column_pv (g := (mkF m 16 #[rv tk, rv pv] [(.ref pv), (.int c1)])) rfl rfl (hb hby own_d468)
    refine own_to (mkF m 19 #[rv tk, rv pv] [(.int c0), (.int c1)]) st279 ?_
    refine own_aln 20 X279 hx (hb hby own_d469) rfl rfl rfl ?_
    obtain ⟨T280, X280, e280, st280⟩ := getF X279 hx hZ hown (host := "") (Or.inl (own_w hw 70 rfl)) Via.refl e279 F_text_pv (g := (mkF m 20 #[rv tk, rv pv] [(.ref pv), (.int c0), (.int c1)])) rfl rfl (hb hby own_d470)
    refine own_to (mkF m 23 #[rv tk, rv pv] [(.ref sx), (.int c0), (.int c1)]) st280 ?_
    refine own_ic 24 0 X280 hx (hb hby own_d471) rfl rfl ?_
    refine own_aln 25 X280 hx (hb hby own_d472) rfl rfl rfl ?_
    obtain ⟨T281, X281, e281, st281⟩ := getF X280 hx hZ hown (host := "") (Or.inl (own_w hw 70 rfl)) Via.refl e280 F_text_pv (g := (mkF m 25 #[rv tk, rv pv] [(.ref pv), (.int (0 : Int32)), (.ref sx), (.int c0), (.int c1)])) rfl rfl (hb hby own_d473)
    refine own_to (mkF m 28 #[rv tk, rv pv] [(.ref sx), (.int (0 : Int32)), (.ref sx), (.int c0), (.int c1)]) st281 ?_
    obtain ⟨cq282, kq282, q282a, q282b, q282c⟩ := isOf hZ e281 SL.exa
    obtain ⟨_, T282, Lc282, X282, hQ282, st282⟩ := own_virtual X281 hx (y := (⟨"java/lang/String", "length", "()I"⟩ : MethodName)) (z := (⟨"java/lang/String", "length", "()I"⟩ : MethodName)) hown (mvT hZ (own_w hw 115 rfl)) (mvT hZ (own_w hw 116 rfl)) (notFace_of_selects (args := #[]) (mvT hZ (own_w hw 118 rfl))) (mvT hZ (own_w hw 118 rfl)) (mvT hZ (own_w hw 117 rfl)) (by decide) (backOf (W := 4) (own_rmLN_2 l Z a0 hw [] G1 sx tx h0 n0 (Nat.le_trans Z0 KP.1) OL SL O2 P5) hZ (own_w hw 119 rfl) (own_w hw 6 rfl) (by decide) (by decide)) q282a q282c (g := (mkF m 28 #[rv tk, rv pv] [(.ref sx), (.int (0 : Int32)), (.ref sx), (.int c0), (.int c1)])) rfl (by rw [hml]; rfl) (argsL := []) (rest := [(.int (0 : Int32)), (.ref sx), (.int c0), (.int c1)]) (lenOf own_pd14 rfl) rfl (by show 2 * 0 + _ ≤ _; exact Nat.le_of_eq rfl) (hb hby own_d474) rfl e281 (kc := 0) (ks := 0) rfl rfl (by decide) (by decide)
    obtain ⟨rfl, N282q, e282⟩ := hQ282
    have N282 := Fr.app N0 N282q
    refine own_via (mkF m 31 #[rv tk, rv pv] [(.int (2 : Int32)), (.int (0 : Int32)), (.ref sx), (.int c0), (.int c1)]) st282 ?_
    obtain ⟨cq283, kq283, q283a, q283b, q283c⟩ := isOf hZ e282 SL.exa
    obtain ⟨_, T283, Lc283, X283, hQ283, st283⟩ := own_virtual X282 hx (y := (⟨"java/lang/String", "codePointCount", "(II)I"⟩ : MethodName)) (z := (⟨"java/lang/String", "codePointCount", "(II)I"⟩ : MethodName)) hown (mvT hZ (own_w hw 125 rfl)) (mvT hZ (own_w hw 126 rfl)) (notFace_of_selects (args := #[]) (mvT hZ (own_w hw 128 rfl))) (mvT hZ (own_w hw 128 rfl)) (mvT hZ (own_w hw 127 rfl)) (by decide) (backOf (W := 2) (own_rmCP_2 l Z a0 hw [] x0 x1 G1 sx tx kx h0 n0 (Nat.le_trans Z0 KP.1) OL hx0 hx1 SS O2 P5 OAD OHI OLO) hZ (own_w hw 129 rfl) (own_w hw 6 rfl) (by decide) (by decide)) q283a q283c (g := (mkF m 31 #[rv tk, rv pv] [(.int (2 : Int32)), (.int (0 : Int32)), (.ref sx), (.int c0), (.int c1)])) rfl (by rw [hml]; rfl) (argsL := [(.int (0 : Int32)), (.int (2 : Int32))]) (rest := [(.int c0), (.int c1)]) (lenOf own_pd18 rfl) rfl (by show 2 * 0 + _ ≤ _; exact Nat.le_of_eq rfl) (hb hby own_d475) rfl e282 (kc := 0) (ks := 0) rfl rfl (by decide) (by decide)
    obtain ⟨rr, rfl, hrr, N283q, e283⟩ := hQ283
    have N283 := Fr.app N282 N283q
    refine own_via (mkF m 34 #[rv tk, rv pv] [(.int rr), (.int c0), (.int c1)]) st283 ?_
    refine own_iadd 35 X283 hx (hb hby own_d476) rfl rfl ?_
    by_cases hc : c1 = (c0 + rr)
    · refine own_icN 38 X283 hx (hb hby own_d477) (teq hc).2 rfl ?_
      refine own_ic 39 1 X283 hx (hb hby own_d478) rfl rfl ?_
      refine own_go 43 X283 hx (hb hby own_d479) (by decide) (by decide) ?_
      exact own_retN X283 hx (t := .boolean) Bd.returns (by simp) hlk (hb hby own_d464) (by decide) (by decide) (by rw [e283]; exact ⟨_, rfl, Or.inl ⟨rfl, hl, rr, hrr, hc⟩, N283, rfl⟩)
    · refine own_icY 42 X283 hx (hb hby own_d477) (feq hc).2 (by decide) (by decide) ?_
      refine own_ic 43 0 X283 hx (hb hby own_d463) rfl rfl ?_
      exact own_retN X283 hx (t := .boolean) Bd.returns (by simp) hlk (hb hby own_d464) (by decide) (by decide) (by rw [e283]; exact ⟨_, rfl, Or.inr ⟨rfl, Or.inr ⟨rr, hrr, hc⟩⟩, N283, rfl⟩)
  · refine own_icY 42 X277 hx (hb hby own_d462) (feq hl).2 (by decide) (by decide) ?_
    refine own_ic 43 0 X277 hx (hb hby own_d463) rfl rfl ?_
    exact own_retN X277 hx (t := .boolean) Bd.returns (by simp) hlk (hb hby own_d464) (by decide) (by decide) (by rw [e277]; exact ⟨_, rfl, Or.inr ⟨rfl, Or.inl hl⟩, N0, rfl⟩)
def own_QPC0_3 (Z : State)  (h0 : Heap) (n0 : Nat) (v : Option Value) (h : Heap) (L : List Loc) : Prop := v = some (.int 0) ∧ Fr n0 L ∧ h = h0
set_option maxRecDepth 65536 in
set_option maxHeartbeats 40000000 in
theorem own_rmPC0_3 (l : Launch) (Z : State) (a0 : Array Value) (hw : ∀ d ∈ tables_1, d.before a0 Z = true) (ws : List Jvm.Cond)  (h0 : Heap) (n0 : Nat) (Z0 : n0 ≤ h0.size) (OL : Old Z n0 h0)  :
    own_MF l (⟨"jdk/internal/util/Preconditions", "checkFromToIndex", "(IIILjava/util/function/BiFunction;)I"⟩ : MethodName) (Jvm.Cond.code (⟨"jdk/internal/util/Preconditions", "checkFromToIndex", "(IIILjava/util/function/BiFunction;)I"⟩ : MethodName) jdk_41_method_12_code 4 (some .int) :: ws) ({ frames := 0, cells := 0, slots := 0, locals := 0 } : Room) #[(.int (0 : Int32)), (.int (3 : Int32)), (.int (3 : Int32)), .null] Z h0 (own_QPC0_3 Z  h0 n0) := by
  refine MetFree.of_bodySF (plainFor_of_name own_pn6) hisR ?_
  intro p e s m args below meth c s₁ Bd hml0 hP hK
  obtain ⟨rfl, hZ, hh⟩ := hP
  have hx := Bd.exec
  have hby := Bd.bytes
  have hlk : meth.locks = false := BodyLoose.notSynchronized Bd
  have hml : c.maxLocals = 4 := hml0
  have hown : s.vm.findClass "jdk/internal/util/Preconditions" = some m.cls := findClass_of_methodNamed Bd.named
  have hnm := (name_of_methodNamed Bd.named Bd.method).1
  have X0 : Stand p l e ({ frames := 0, cells := 0, slots := 0, locals := 0 } : Room) s m #[(.int (0 : Int32)), (.int (3 : Int32)), (.int (3 : Int32)), .null] below meth c s₁ [] 0 0 := Stand.of_body Bd
  have e0 : s₁.heap = h0 := by rw [← hh, Bd.state]; rfl
  have N0 := Fr.nil n0
  have KP : Keep h0 h0 [] := Keep.refl _ _
  refine own_start (Fin := (own_Fin s (own_QPC0_3 Z  h0 n0) ({ frames := 0, cells := 0, slots := 0, locals := 0 } : Room).cells ({ frames := 0, cells := 0, slots := 0, locals := 0 } : Room).slots)) (own_from (mkF m 0 #[iv 0, iv 3, iv 3, .val .null] []) (castTop (own_ef_PC0_3 m (0 : Int32) (3 : Int32) (3 : Int32))) ?_)
  refine own_iln 1 X0 hx (hb hby own_d400) rfl rfl ?_
  refine own_ifN 4 X0 hx (hb hby own_d401) ((if0 _ _).trans (flt (by decide : ¬ ((0 : Int32) < (0 : Int32)))).1) rfl ?_
  refine own_iln 5 X0 hx (hb hby own_d402) rfl rfl ?_
  refine own_iln 6 X0 hx (hb hby own_d403) rfl rfl ?_
  refine own_icN 9 X0 hx (hb hby own_d404) (flt (by decide : ¬ ((3 : Int32) < (0 : Int32)))).2.2.1 rfl ?_
  refine own_iln 10 X0 hx (hb hby own_d405) rfl rfl ?_
  refine own_iln 11 X0 hx (hb hby own_d406) rfl rfl ?_
  refine own_icY 22 X0 hx (hb hby own_d407) (flt (by decide : ¬ ((3 : Int32) < (3 : Int32)))).2.2.2 (by decide) (by decide) ?_
  refine own_iln 23 X0 hx (hb hby own_d408) rfl rfl ?_
  exact own_retI X0 hx Bd.returns hlk (hb hby own_d409) (by decide) (by decide) (by rw [e0]; exact ⟨rfl, N0, rfl⟩)
def own_QOC_3 (Z : State)  (h0 : Heap) (n0 : Nat) (v : Option Value) (h : Heap) (L : List Loc) : Prop := v = some (.int 0) ∧ Fr n0 L ∧ h = h0
set_option maxRecDepth 65536 in
set_option maxHeartbeats 40000000 in
theorem own_rmOC_3 (l : Launch) (Z : State) (a0 : Array Value) (hw : ∀ d ∈ tables_1, d.before a0 Z = true) (ws : List Jvm.Cond)  (h0 : Heap) (n0 : Nat) (Z0 : n0 ≤ h0.size) (OL : Old Z n0 h0)  :
    own_MF l (⟨"java/util/Objects", "checkFromToIndex", "(III)I"⟩ : MethodName) (Jvm.Cond.code (⟨"java/util/Objects", "checkFromToIndex", "(III)I"⟩ : MethodName) jdk_31_method_18_code 3 (some .int) :: ws) ({ frames := 1, cells := 0, slots := 0, locals := 16 } : Room) #[(.int (0 : Int32)), (.int (3 : Int32)), (.int (3 : Int32))] Z h0 (own_QOC_3 Z  h0 n0) := by
  refine MetFree.of_bodySF (plainFor_of_name own_pn7) hisR ?_
  intro p e s m args below meth c s₁ Bd hml0 hP hK
  obtain ⟨rfl, hZ, hh⟩ := hP
  have hx := Bd.exec
  have hby := Bd.bytes
  have hlk : meth.locks = false := BodyLoose.notSynchronized Bd
  have hml : c.maxLocals = 3 := hml0
  have hown : s.vm.findClass "java/util/Objects" = some m.cls := findClass_of_methodNamed Bd.named
  have hnm := (name_of_methodNamed Bd.named Bd.method).1
  have X0 : Stand p l e ({ frames := 1, cells := 0, slots := 0, locals := 16 } : Room) s m #[(.int (0 : Int32)), (.int (3 : Int32)), (.int (3 : Int32))] below meth c s₁ [] 0 0 := Stand.of_body Bd
  have e0 : s₁.heap = h0 := by rw [← hh, Bd.state]; rfl
  have N0 := Fr.nil n0
  have KP : Keep h0 h0 [] := Keep.refl _ _
  refine own_start (Fin := (own_Fin s (own_QOC_3 Z  h0 n0) ({ frames := 1, cells := 0, slots := 0, locals := 16 } : Room).cells ({ frames := 1, cells := 0, slots := 0, locals := 16 } : Room).slots)) (own_from (mkF m 0 #[iv 0, iv 3, iv 3] []) (castTop (own_ef_OC_3 m (0 : Int32) (3 : Int32) (3 : Int32))) ?_)
  refine own_iln 1 X0 hx (hb hby own_d410) rfl rfl ?_
  refine own_iln 2 X0 hx (hb hby own_d411) rfl rfl ?_
  refine own_iln 3 X0 hx (hb hby own_d412) rfl rfl ?_
  refine own_nul 4 X0 hx (hb hby own_d413) rfl ?_
  obtain ⟨_, T284, Lc284, X284, hQ284, st284⟩ := own_callS X0 hx (y := (⟨"jdk/internal/util/Preconditions", "checkFromToIndex", "(IIILjava/util/function/BiFunction;)I"⟩ : MethodName)) hown (mvT hZ (own_w hw 135 rfl)) (mvT hZ (own_w hw 136 rfl)) (mvT hZ (own_w hw 137 rfl)) (mvT hZ (own_w hw 138 rfl)) (by decide) (backOf (W := 0) (own_rmPC0_3 l Z a0 hw []  h0 n0 (Nat.le_trans Z0 KP.1) OL ) hZ (own_w hw 138 rfl) (own_w hw 137 rfl) (by decide) (by decide)) (g := (mkF m 4 #[iv 0, iv 3, iv 3] [.null, (.int (3 : Int32)), (.int (3 : Int32)), (.int (0 : Int32))])) rfl (by rw [hml]; rfl) (argsL := [(.int (0 : Int32)), (.int (3 : Int32)), (.int (3 : Int32)), .null]) (rest := []) (lenOf own_pd12 rfl) rfl (by show 2 * 0 + _ ≤ _; exact Nat.le_of_eq rfl) (hb hby own_d414) rfl e0 (kc := 0) (ks := 0) rfl rfl (by decide) (by decide)
  obtain ⟨rfl, N284q, e284⟩ := hQ284
  have N284 := Fr.app N0 N284q
  refine own_to (mkF m 7 #[iv 0, iv 3, iv 3] [(.int (0 : Int32))]) st284 ?_
  exact own_retI X284 hx Bd.returns hlk (hb hby own_d415) (by decide) (by decide) (by rw [e284]; exact ⟨rfl, N284, rfl⟩)
def own_QCZ_3 (Z : State) (x0 x1 x2 : Int32) (G1 : Int32) (b : Addr) (kb : ClassId) (h0 : Heap) (n0 : Nat) (v : Option Value) (h : Heap) (L : List Loc) : Prop := ∃ r : Int32, v = some (.int r) ∧ own_P3 x0 x1 x2 r ∧ Fr n0 L ∧ h = h0
set_option maxRecDepth 65536 in
set_option maxHeartbeats 40000000 in
theorem own_rmCZ_3 (l : Launch) (Z : State) (a0 : Array Value) (hw : ∀ d ∈ tables_1, d.before a0 Z = true) (ws : List Jvm.Cond) (x0 x1 x2 : Int32) (G1 : Int32) (b : Addr) (kb : ClassId) (h0 : Heap) (n0 : Nat) (Z0 : n0 ≤ h0.size) (OL : Old Z n0 h0) (hx0 : own_C16 x0) (hx1 : own_C16 x1) (hx2 : own_C16 x2) (Vb : Arv Z h0 b kb .byte (6 : Int32) [(.int ((x0 >>> ((0 : Int32) &&& 31)).toInt8.toInt32)), (.int ((x0 >>> ((8 : Int32) &&& 31)).toInt8.toInt32)), (.int ((x1 >>> ((0 : Int32) &&& 31)).toInt8.toInt32)), (.int ((x1 >>> ((8 : Int32) &&& 31)).toInt8.toInt32)), (.int ((x2 >>> ((0 : Int32) &&& 31)).toInt8.toInt32)), (.int ((x2 >>> ((8 : Int32) &&& 31)).toInt8.toInt32))] (.int (0 : Int32))) (O2 : Sta Z Z.heap "java/lang/String" "COMPACT_STRINGS" "Z" (.int G1)) (P5 : ¬ (G1 = (0 : Int32))) (OAD : Sta Z Z.heap "java/lang/StringUTF16" "$assertionsDisabled" "Z" (.int (1 : Int32))) (OHI : Sta Z Z.heap "java/lang/StringUTF16" "HI_BYTE_SHIFT" "I" (.int (0 : Int32))) (OLO : Sta Z Z.heap "java/lang/StringUTF16" "LO_BYTE_SHIFT" "I" (.int (8 : Int32))) :
    own_MF l (⟨"java/lang/StringUTF16", "codePointCount", "([BIIZ)I"⟩ : MethodName) (Jvm.Cond.code (⟨"java/lang/StringUTF16", "codePointCount", "([BIIZ)I"⟩ : MethodName) jdk_52_method_11_code 6 (some .int) :: ws) ({ frames := 1, cells := 0, slots := 0, locals := 20 } : Room) #[(.ref b), (.int (0 : Int32)), (.int (3 : Int32)), (.int (0 : Int32))] Z h0 (own_QCZ_3 Z x0 x1 x2 G1 b kb h0 n0) := by
  refine MetFree.of_bodySF (plainFor_of_name own_pn1) hisR ?_
  intro p e s m args below meth c s₁ Bd hml0 hP hK
  obtain ⟨rfl, hZ, hh⟩ := hP
  have hx := Bd.exec
  have hby := Bd.bytes
  have hlk : meth.locks = false := BodyLoose.notSynchronized Bd
  have hml : c.maxLocals = 6 := hml0
  have hown : s.vm.findClass "java/lang/StringUTF16" = some m.cls := findClass_of_methodNamed Bd.named
  have hnm := (name_of_methodNamed Bd.named Bd.method).1
  have X0 : Stand p l e ({ frames := 1, cells := 0, slots := 0, locals := 20 } : Room) s m #[(.ref b), (.int (0 : Int32)), (.int (3 : Int32)), (.int (0 : Int32))] below meth c s₁ [] 0 0 := Stand.of_body Bd
  have e0 : s₁.heap = h0 := by rw [← hh, Bd.state]; rfl
  have N0 := Fr.nil n0
  have KP : Keep h0 h0 [] := Keep.refl _ _
  refine own_start (Fin := (own_Fin s (own_QCZ_3 Z x0 x1 x2 G1 b kb h0 n0) ({ frames := 1, cells := 0, slots := 0, locals := 20 } : Room).cells ({ frames := 1, cells := 0, slots := 0, locals := 20 } : Room).slots)) (own_from (mkF m 0 #[rv b, iv 0, iv 3, iv 0, .unset, .unset] []) (castTop (own_ef_CZ_3 m b (0 : Int32) (3 : Int32) (0 : Int32))) ?_)
  obtain ⟨T285, X285, e285, st285⟩ := getS2 X0 hx hZ hown (host := "") (Or.inl (own_w hw 97 rfl)) Via.refl e0 (OAD.ext OL.2) (g := (mkF m 0 #[rv b, iv 0, iv 3, iv 0, .unset, .unset] [])) rfl (hb hby own_d416)
  refine own_to (mkF m 3 #[rv b, iv 0, iv 3, iv 0, .unset, .unset] [(.int (1 : Int32))]) st285 ?_
  refine own_ifY 19 X285 hx (hb hby own_d417) ((if0 _ _).trans (feq (by decide : ¬ ((1 : Int32) = (0 : Int32)))).2) (by decide) (by decide) ?_
  refine own_iln 20 X285 hx (hb hby own_d418) rfl rfl ?_
  refine own_iln 21 X285 hx (hb hby own_d419) rfl rfl ?_
  refine own_isub 22 X285 hx (hb hby own_d420) (z := (3 : Int32)) rfl rfl ?_
  refine own_is 24 #[rv b, iv 0, iv 3, iv 0, iv 3, .unset] X285 hx (hb hby own_d421) rfl rfl ?_
  refine own_iln 25 X285 hx (hb hby own_d422) rfl rfl ?_
  refine own_is 27 #[rv b, iv 0, iv 3, iv 0, iv 3, iv 0] X285 hx (hb hby own_d423) rfl rfl ?_
  refine own_iln 28 X285 hx (hb hby own_d424) rfl rfl ?_
  refine own_ifY 44 X285 hx (hb hby own_d425) ((if0 _ _).trans (teq (by decide : (0 : Int32) = (0 : Int32))).1) (by decide) (by decide) ?_
  refine own_il 46 X285 hx (hb hby own_d426) rfl rfl ?_
  refine own_iln 47 X285 hx (hb hby own_d427) rfl rfl ?_
  refine own_ic 48 1 X285 hx (hb hby own_d428) rfl rfl ?_
  refine own_isub 49 X285 hx (hb hby own_d429) (z := (2 : Int32)) rfl rfl ?_
  refine own_icN 52 X285 hx (hb hby own_d430) (tlt (by decide : (0 : Int32) < (2 : Int32))).2.1 rfl ?_
  refine own_aln 53 X285 hx (hb hby own_d480) rfl rfl rfl ?_
  refine own_il 55 X285 hx (hb hby own_d481) rfl rfl ?_
  refine own_inc 58 #[rv b, iv 0, iv 3, iv 0, iv 3, iv 1] X285 hx (hb hby own_d482) rfl rfl rfl ?_
  obtain ⟨_, T286, Lc286, X286, hQ286, st286⟩ := own_callS X285 hx (y := (⟨"java/lang/StringUTF16", "getChar", "([BI)C"⟩ : MethodName)) hown (mvT hZ (own_w hw 100 rfl)) (mvT hZ (own_w hw 101 rfl)) (mvT hZ (own_w hw 24 rfl)) (mvT hZ (own_w hw 102 rfl)) (by decide) (backOf (W := 0) (own_rmGC_3_0 l Z a0 hw [] x0 x1 x2 G1 b kb h0 n0 (Nat.le_trans Z0 KP.1) OL hx0 Vb O2 P5 OAD OHI OLO) hZ (own_w hw 102 rfl) (own_w hw 24 rfl) (by decide) (by decide)) (g := (mkF m 58 #[rv b, iv 0, iv 3, iv 0, iv 3, iv 1] [(.int (0 : Int32)), (.ref b)])) rfl (by rw [hml]; rfl) (argsL := [(.ref b), (.int (0 : Int32))]) (rest := []) (lenOf own_pd6 rfl) rfl (by show 2 * 0 + _ ≤ _; exact Nat.le_of_eq rfl) (hb hby own_d483) rfl e285 (kc := 0) (ks := 0) rfl rfl (by decide) (by decide)
  obtain ⟨rfl, N286q, e286⟩ := hQ286
  have N286 := Fr.app N0 N286q
  refine own_to (mkF m 61 #[rv b, iv 0, iv 3, iv 0, iv 3, iv 1] [(.int x0)]) st286 ?_
  obtain ⟨_, T287, Lc287, X287, hQ287, st287⟩ := own_callS X286 hx (y := (⟨"java/lang/Character", "isHighSurrogate", "(C)Z"⟩ : MethodName)) hown (mvT hZ (own_w hw 151 rfl)) (mvT hZ (own_w hw 152 rfl)) (mvT hZ (own_w hw 153 rfl)) (mvT hZ (own_w hw 154 rfl)) (by decide) (backOf (W := 0) (own_rmHS l Z a0 hw [] x0 h0 n0 (Nat.le_trans Z0 KP.1) OL ) hZ (own_w hw 154 rfl) (own_w hw 153 rfl) (by decide) (by decide)) (g := (mkF m 61 #[rv b, iv 0, iv 3, iv 0, iv 3, iv 1] [(.int x0)])) rfl (by rw [hml]; rfl) (argsL := [(.int x0)]) (rest := []) (lenOf own_pd9 rfl) rfl (by show 2 * 0 + _ ≤ _; exact Nat.le_of_eq rfl) (hb hby own_d484) rfl e286 (kc := 0) (ks := 0) rfl rfl (by decide) (by decide)
  obtain ⟨N287q, e287, hor287⟩ := hQ287
  have N287 := Fr.app N286 N287q
  rcases hor287 with ⟨rfl, hs0⟩ | ⟨rfl, hs0⟩
  · refine own_to (mkF m 64 #[rv b, iv 0, iv 3, iv 0, iv 3, iv 1] [(.int (1 : Int32))]) st287 ?_
    refine own_ifN 67 X287 hx (hb hby own_d485) ((if0 _ _).trans (feq (by decide : ¬ ((1 : Int32) = (0 : Int32)))).1) rfl ?_
    refine own_aln 68 X287 hx (hb hby own_d486) rfl rfl rfl ?_
    refine own_il 70 X287 hx (hb hby own_d487) rfl rfl ?_
    obtain ⟨_, T292, Lc292, X292, hQ292, st292⟩ := own_callS X287 hx (y := (⟨"java/lang/StringUTF16", "getChar", "([BI)C"⟩ : MethodName)) hown (mvT hZ (own_w hw 100 rfl)) (mvT hZ (own_w hw 101 rfl)) (mvT hZ (own_w hw 24 rfl)) (mvT hZ (own_w hw 102 rfl)) (by decide) (backOf (W := 0) (own_rmGC_3_1 l Z a0 hw [] x0 x1 x2 G1 b kb h0 n0 (Nat.le_trans Z0 KP.1) OL hx1 Vb O2 P5 OAD OHI OLO) hZ (own_w hw 102 rfl) (own_w hw 24 rfl) (by decide) (by decide)) (g := (mkF m 70 #[rv b, iv 0, iv 3, iv 0, iv 3, iv 1] [(.int (1 : Int32)), (.ref b)])) rfl (by rw [hml]; rfl) (argsL := [(.ref b), (.int (1 : Int32))]) (rest := []) (lenOf own_pd6 rfl) rfl (by show 2 * 0 + _ ≤ _; exact Nat.le_of_eq rfl) (hb hby own_d488) rfl e287 (kc := 0) (ks := 0) rfl rfl (by decide) (by decide)
    obtain ⟨rfl, N292q, e292⟩ := hQ292
    have N292 := Fr.app N287 N292q
    refine own_to (mkF m 73 #[rv b, iv 0, iv 3, iv 0, iv 3, iv 1] [(.int x1)]) st292 ?_
    obtain ⟨_, T293, Lc293, X293, hQ293, st293⟩ := own_callS X292 hx (y := (⟨"java/lang/Character", "isLowSurrogate", "(C)Z"⟩ : MethodName)) hown (mvT hZ (own_w hw 159 rfl)) (mvT hZ (own_w hw 160 rfl)) (mvT hZ (own_w hw 153 rfl)) (mvT hZ (own_w hw 161 rfl)) (by decide) (backOf (W := 0) (own_rmLS l Z a0 hw [] x1 h0 n0 (Nat.le_trans Z0 KP.1) OL ) hZ (own_w hw 161 rfl) (own_w hw 153 rfl) (by decide) (by decide)) (g := (mkF m 73 #[rv b, iv 0, iv 3, iv 0, iv 3, iv 1] [(.int x1)])) rfl (by rw [hml]; rfl) (argsL := [(.int x1)]) (rest := []) (lenOf own_pd9 rfl) rfl (by show 2 * 0 + _ ≤ _; exact Nat.le_of_eq rfl) (hb hby own_d489) rfl e292 (kc := 0) (ks := 0) rfl rfl (by decide) (by decide)
    obtain ⟨N293q, e293, hor293⟩ := hQ293
    have N293 := Fr.app N292 N293q
    rcases hor293 with ⟨rfl, ls0⟩ | ⟨rfl, ls0⟩
    · refine own_to (mkF m 76 #[rv b, iv 0, iv 3, iv 0, iv 3, iv 1] [(.int (1 : Int32))]) st293 ?_
      refine own_ifN 79 X293 hx (hb hby own_d490) ((if0 _ _).trans (feq (by decide : ¬ ((1 : Int32) = (0 : Int32)))).1) rfl ?_
      refine own_inc 82 #[rv b, iv 0, iv 3, iv 0, iv 2, iv 1] X293 hx (hb hby own_d491) rfl rfl rfl ?_
      refine own_inc 85 #[rv b, iv 0, iv 3, iv 0, iv 2, iv 2] X293 hx (hb hby own_d492) rfl rfl rfl ?_
      refine own_go 44 X293 hx (hb hby own_d493) (by decide) (by decide) ?_
      refine own_il 46 X293 hx (hb hby own_d426) rfl rfl ?_
      refine own_iln 47 X293 hx (hb hby own_d427) rfl rfl ?_
      refine own_ic 48 1 X293 hx (hb hby own_d428) rfl rfl ?_
      refine own_isub 49 X293 hx (hb hby own_d429) (z := (2 : Int32)) rfl rfl ?_
      refine own_icY 88 X293 hx (hb hby own_d430) (flt (by decide : ¬ ((2 : Int32) < (2 : Int32)))).2.1 (by decide) (by decide) ?_
      refine own_il 90 X293 hx (hb hby own_d431) rfl rfl ?_
      exact own_retI X293 hx Bd.returns hlk (hb hby own_d432) (by decide) (by decide) (by rw [e293]; exact ⟨_, rfl, own_P3a hs0 ls0, N293, rfl⟩)
    · refine own_to (mkF m 76 #[rv b, iv 0, iv 3, iv 0, iv 3, iv 1] [(.int (0 : Int32))]) st293 ?_
      refine own_ifY 44 X293 hx (hb hby own_d490) ((if0 _ _).trans (teq (by decide : (0 : Int32) = (0 : Int32))).1) (by decide) (by decide) ?_
      refine own_il 46 X293 hx (hb hby own_d426) rfl rfl ?_
      refine own_iln 47 X293 hx (hb hby own_d427) rfl rfl ?_
      refine own_ic 48 1 X293 hx (hb hby own_d428) rfl rfl ?_
      refine own_isub 49 X293 hx (hb hby own_d429) (z := (2 : Int32)) rfl rfl ?_
      refine own_icN 52 X293 hx (hb hby own_d430) (tlt (by decide : (1 : Int32) < (2 : Int32))).2.1 rfl ?_
      refine own_aln 53 X293 hx (hb hby own_d480) rfl rfl rfl ?_
      refine own_il 55 X293 hx (hb hby own_d481) rfl rfl ?_
      refine own_inc 58 #[rv b, iv 0, iv 3, iv 0, iv 3, iv 2] X293 hx (hb hby own_d482) rfl rfl rfl ?_
      obtain ⟨_, T294, Lc294, X294, hQ294, st294⟩ := own_callS X293 hx (y := (⟨"java/lang/StringUTF16", "getChar", "([BI)C"⟩ : MethodName)) hown (mvT hZ (own_w hw 100 rfl)) (mvT hZ (own_w hw 101 rfl)) (mvT hZ (own_w hw 24 rfl)) (mvT hZ (own_w hw 102 rfl)) (by decide) (backOf (W := 0) (own_rmGC_3_1 l Z a0 hw [] x0 x1 x2 G1 b kb h0 n0 (Nat.le_trans Z0 KP.1) OL hx1 Vb O2 P5 OAD OHI OLO) hZ (own_w hw 102 rfl) (own_w hw 24 rfl) (by decide) (by decide)) (g := (mkF m 58 #[rv b, iv 0, iv 3, iv 0, iv 3, iv 2] [(.int (1 : Int32)), (.ref b)])) rfl (by rw [hml]; rfl) (argsL := [(.ref b), (.int (1 : Int32))]) (rest := []) (lenOf own_pd6 rfl) rfl (by show 2 * 0 + _ ≤ _; exact Nat.le_of_eq rfl) (hb hby own_d483) rfl e293 (kc := 0) (ks := 0) rfl rfl (by decide) (by decide)
      obtain ⟨rfl, N294q, e294⟩ := hQ294
      have N294 := Fr.app N293 N294q
      refine own_to (mkF m 61 #[rv b, iv 0, iv 3, iv 0, iv 3, iv 2] [(.int x1)]) st294 ?_
      obtain ⟨_, T295, Lc295, X295, hQ295, st295⟩ := own_callS X294 hx (y := (⟨"java/lang/Character", "isHighSurrogate", "(C)Z"⟩ : MethodName)) hown (mvT hZ (own_w hw 151 rfl)) (mvT hZ (own_w hw 152 rfl)) (mvT hZ (own_w hw 153 rfl)) (mvT hZ (own_w hw 154 rfl)) (by decide) (backOf (W := 0) (own_rmHS l Z a0 hw [] x1 h0 n0 (Nat.le_trans Z0 KP.1) OL ) hZ (own_w hw 154 rfl) (own_w hw 153 rfl) (by decide) (by decide)) (g := (mkF m 61 #[rv b, iv 0, iv 3, iv 0, iv 3, iv 2] [(.int x1)])) rfl (by rw [hml]; rfl) (argsL := [(.int x1)]) (rest := []) (lenOf own_pd9 rfl) rfl (by show 2 * 0 + _ ≤ _; exact Nat.le_of_eq rfl) (hb hby own_d484) rfl e294 (kc := 0) (ks := 0) rfl rfl (by decide) (by decide)
      obtain ⟨N295q, e295, hor295⟩ := hQ295
      have N295 := Fr.app N294 N295q
      rcases hor295 with ⟨rfl, hs1⟩ | ⟨rfl, hs1⟩
      · refine own_to (mkF m 64 #[rv b, iv 0, iv 3, iv 0, iv 3, iv 2] [(.int (1 : Int32))]) st295 ?_
        refine own_ifN 67 X295 hx (hb hby own_d485) ((if0 _ _).trans (feq (by decide : ¬ ((1 : Int32) = (0 : Int32)))).1) rfl ?_
        refine own_aln 68 X295 hx (hb hby own_d486) rfl rfl rfl ?_
        refine own_il 70 X295 hx (hb hby own_d487) rfl rfl ?_
        obtain ⟨_, T296, Lc296, X296, hQ296, st296⟩ := own_callS X295 hx (y := (⟨"java/lang/StringUTF16", "getChar", "([BI)C"⟩ : MethodName)) hown (mvT hZ (own_w hw 100 rfl)) (mvT hZ (own_w hw 101 rfl)) (mvT hZ (own_w hw 24 rfl)) (mvT hZ (own_w hw 102 rfl)) (by decide) (backOf (W := 0) (own_rmGC_3_2 l Z a0 hw [] x0 x1 x2 G1 b kb h0 n0 (Nat.le_trans Z0 KP.1) OL hx2 Vb O2 P5 OAD OHI OLO) hZ (own_w hw 102 rfl) (own_w hw 24 rfl) (by decide) (by decide)) (g := (mkF m 70 #[rv b, iv 0, iv 3, iv 0, iv 3, iv 2] [(.int (2 : Int32)), (.ref b)])) rfl (by rw [hml]; rfl) (argsL := [(.ref b), (.int (2 : Int32))]) (rest := []) (lenOf own_pd6 rfl) rfl (by show 2 * 0 + _ ≤ _; exact Nat.le_of_eq rfl) (hb hby own_d488) rfl e295 (kc := 0) (ks := 0) rfl rfl (by decide) (by decide)
        obtain ⟨rfl, N296q, e296⟩ := hQ296
        have N296 := Fr.app N295 N296q
        refine own_to (mkF m 73 #[rv b, iv 0, iv 3, iv 0, iv 3, iv 2] [(.int x2)]) st296 ?_
        obtain ⟨_, T297, Lc297, X297, hQ297, st297⟩ := own_callS X296 hx (y := (⟨"java/lang/Character", "isLowSurrogate", "(C)Z"⟩ : MethodName)) hown (mvT hZ (own_w hw 159 rfl)) (mvT hZ (own_w hw 160 rfl)) (mvT hZ (own_w hw 153 rfl)) (mvT hZ (own_w hw 161 rfl)) (by decide) (backOf (W := 0) (own_rmLS l Z a0 hw [] x2 h0 n0 (Nat.le_trans Z0 KP.1) OL ) hZ (own_w hw 161 rfl) (own_w hw 153 rfl) (by decide) (by decide)) (g := (mkF m 73 #[rv b, iv 0, iv 3, iv 0, iv 3, iv 2] [(.int x2)])) rfl (by rw [hml]; rfl) (argsL := [(.int x2)]) (rest := []) (lenOf own_pd9 rfl) rfl (by show 2 * 0 + _ ≤ _; exact Nat.le_of_eq rfl) (hb hby own_d489) rfl e296 (kc := 0) (ks := 0) rfl rfl (by decide) (by decide)
        obtain ⟨N297q, e297, hor297⟩ := hQ297
        have N297 := Fr.app N296 N297q
        rcases hor297 with ⟨rfl, ls1⟩ | ⟨rfl, ls1⟩
        · refine own_to (mkF m 76 #[rv b, iv 0, iv 3, iv 0, iv 3, iv 2] [(.int (1 : Int32))]) st297 ?_
          refine own_ifN 79 X297 hx (hb hby own_d490) ((if0 _ _).trans (feq (by decide : ¬ ((1 : Int32) = (0 : Int32)))).1) rfl ?_
          refine own_inc 82 #[rv b, iv 0, iv 3, iv 0, iv 2, iv 2] X297 hx (hb hby own_d491) rfl rfl rfl ?_
          refine own_inc 85 #[rv b, iv 0, iv 3, iv 0, iv 2, iv 3] X297 hx (hb hby own_d492) rfl rfl rfl ?_
          refine own_go 44 X297 hx (hb hby own_d493) (by decide) (by decide) ?_
          refine own_il 46 X297 hx (hb hby own_d426) rfl rfl ?_
          refine own_iln 47 X297 hx (hb hby own_d427) rfl rfl ?_
          refine own_ic 48 1 X297 hx (hb hby own_d428) rfl rfl ?_
          refine own_isub 49 X297 hx (hb hby own_d429) (z := (2 : Int32)) rfl rfl ?_
          refine own_icY 88 X297 hx (hb hby own_d430) (flt (by decide : ¬ ((3 : Int32) < (2 : Int32)))).2.1 (by decide) (by decide) ?_
          refine own_il 90 X297 hx (hb hby own_d431) rfl rfl ?_
          exact own_retI X297 hx Bd.returns hlk (hb hby own_d432) (by decide) (by decide) (by rw [e297]; exact ⟨_, rfl, own_P3b hs1 ls1, N297, rfl⟩)
        · refine own_to (mkF m 76 #[rv b, iv 0, iv 3, iv 0, iv 3, iv 2] [(.int (0 : Int32))]) st297 ?_
          refine own_ifY 44 X297 hx (hb hby own_d490) ((if0 _ _).trans (teq (by decide : (0 : Int32) = (0 : Int32))).1) (by decide) (by decide) ?_
          refine own_il 46 X297 hx (hb hby own_d426) rfl rfl ?_
          refine own_iln 47 X297 hx (hb hby own_d427) rfl rfl ?_
          refine own_ic 48 1 X297 hx (hb hby own_d428) rfl rfl ?_
          refine own_isub 49 X297 hx (hb hby own_d429) (z := (2 : Int32)) rfl rfl ?_
          refine own_icY 88 X297 hx (hb hby own_d430) (flt (by decide : ¬ ((2 : Int32) < (2 : Int32)))).2.1 (by decide) (by decide) ?_
          refine own_il 90 X297 hx (hb hby own_d431) rfl rfl ?_
          exact own_retI X297 hx Bd.returns hlk (hb hby own_d432) (by decide) (by decide) (by rw [e297]; exact ⟨_, rfl, own_P3c (fun q => ls0 q.2) (fun q => ls1 q.2), N297, rfl⟩)
      · refine own_to (mkF m 64 #[rv b, iv 0, iv 3, iv 0, iv 3, iv 2] [(.int (0 : Int32))]) st295 ?_
        refine own_ifY 44 X295 hx (hb hby own_d485) ((if0 _ _).trans (teq (by decide : (0 : Int32) = (0 : Int32))).1) (by decide) (by decide) ?_
        refine own_il 46 X295 hx (hb hby own_d426) rfl rfl ?_
        refine own_iln 47 X295 hx (hb hby own_d427) rfl rfl ?_
        refine own_ic 48 1 X295 hx (hb hby own_d428) rfl rfl ?_
        refine own_isub 49 X295 hx (hb hby own_d429) (z := (2 : Int32)) rfl rfl ?_
        refine own_icY 88 X295 hx (hb hby own_d430) (flt (by decide : ¬ ((2 : Int32) < (2 : Int32)))).2.1 (by decide) (by decide) ?_
        refine own_il 90 X295 hx (hb hby own_d431) rfl rfl ?_
        exact own_retI X295 hx Bd.returns hlk (hb hby own_d432) (by decide) (by decide) (by rw [e295]; exact ⟨_, rfl, own_P3c (fun q => ls0 q.2) (fun q => hs1 q.1), N295, rfl⟩)
  · refine own_to (mkF m 64 #[rv b, iv 0, iv 3, iv 0, iv 3, iv 1] [(.int (0 : Int32))]) st287 ?_
    refine own_ifY 44 X287 hx (hb hby own_d485) ((if0 _ _).trans (teq (by decide : (0 : Int32) = (0 : Int32))).1) (by decide) (by decide) ?_
    refine own_il 46 X287 hx (hb hby own_d426) rfl rfl ?_
    refine own_iln 47 X287 hx (hb hby own_d427) rfl rfl ?_
    refine own_ic 48 1 X287 hx (hb hby own_d428) rfl rfl ?_
    refine own_isub 49 X287 hx (hb hby own_d429) (z := (2 : Int32)) rfl rfl ?_
    refine own_icN 52 X287 hx (hb hby own_d430) (tlt (by decide : (1 : Int32) < (2 : Int32))).2.1 rfl ?_
    refine own_aln 53 X287 hx (hb hby own_d480) rfl rfl rfl ?_
    refine own_il 55 X287 hx (hb hby own_d481) rfl rfl ?_
    refine own_inc 58 #[rv b, iv 0, iv 3, iv 0, iv 3, iv 2] X287 hx (hb hby own_d482) rfl rfl rfl ?_
    obtain ⟨_, T288, Lc288, X288, hQ288, st288⟩ := own_callS X287 hx (y := (⟨"java/lang/StringUTF16", "getChar", "([BI)C"⟩ : MethodName)) hown (mvT hZ (own_w hw 100 rfl)) (mvT hZ (own_w hw 101 rfl)) (mvT hZ (own_w hw 24 rfl)) (mvT hZ (own_w hw 102 rfl)) (by decide) (backOf (W := 0) (own_rmGC_3_1 l Z a0 hw [] x0 x1 x2 G1 b kb h0 n0 (Nat.le_trans Z0 KP.1) OL hx1 Vb O2 P5 OAD OHI OLO) hZ (own_w hw 102 rfl) (own_w hw 24 rfl) (by decide) (by decide)) (g := (mkF m 58 #[rv b, iv 0, iv 3, iv 0, iv 3, iv 2] [(.int (1 : Int32)), (.ref b)])) rfl (by rw [hml]; rfl) (argsL := [(.ref b), (.int (1 : Int32))]) (rest := []) (lenOf own_pd6 rfl) rfl (by show 2 * 0 + _ ≤ _; exact Nat.le_of_eq rfl) (hb hby own_d483) rfl e287 (kc := 0) (ks := 0) rfl rfl (by decide) (by decide)
    obtain ⟨rfl, N288q, e288⟩ := hQ288
    have N288 := Fr.app N287 N288q
    refine own_to (mkF m 61 #[rv b, iv 0, iv 3, iv 0, iv 3, iv 2] [(.int x1)]) st288 ?_
    obtain ⟨_, T289, Lc289, X289, hQ289, st289⟩ := own_callS X288 hx (y := (⟨"java/lang/Character", "isHighSurrogate", "(C)Z"⟩ : MethodName)) hown (mvT hZ (own_w hw 151 rfl)) (mvT hZ (own_w hw 152 rfl)) (mvT hZ (own_w hw 153 rfl)) (mvT hZ (own_w hw 154 rfl)) (by decide) (backOf (W := 0) (own_rmHS l Z a0 hw [] x1 h0 n0 (Nat.le_trans Z0 KP.1) OL ) hZ (own_w hw 154 rfl) (own_w hw 153 rfl) (by decide) (by decide)) (g := (mkF m 61 #[rv b, iv 0, iv 3, iv 0, iv 3, iv 2] [(.int x1)])) rfl (by rw [hml]; rfl) (argsL := [(.int x1)]) (rest := []) (lenOf own_pd9 rfl) rfl (by show 2 * 0 + _ ≤ _; exact Nat.le_of_eq rfl) (hb hby own_d484) rfl e288 (kc := 0) (ks := 0) rfl rfl (by decide) (by decide)
    obtain ⟨N289q, e289, hor289⟩ := hQ289
    have N289 := Fr.app N288 N289q
    rcases hor289 with ⟨rfl, hs1⟩ | ⟨rfl, hs1⟩
    · refine own_to (mkF m 64 #[rv b, iv 0, iv 3, iv 0, iv 3, iv 2] [(.int (1 : Int32))]) st289 ?_
      refine own_ifN 67 X289 hx (hb hby own_d485) ((if0 _ _).trans (feq (by decide : ¬ ((1 : Int32) = (0 : Int32)))).1) rfl ?_
      refine own_aln 68 X289 hx (hb hby own_d486) rfl rfl rfl ?_
      refine own_il 70 X289 hx (hb hby own_d487) rfl rfl ?_
      obtain ⟨_, T290, Lc290, X290, hQ290, st290⟩ := own_callS X289 hx (y := (⟨"java/lang/StringUTF16", "getChar", "([BI)C"⟩ : MethodName)) hown (mvT hZ (own_w hw 100 rfl)) (mvT hZ (own_w hw 101 rfl)) (mvT hZ (own_w hw 24 rfl)) (mvT hZ (own_w hw 102 rfl)) (by decide) (backOf (W := 0) (own_rmGC_3_2 l Z a0 hw [] x0 x1 x2 G1 b kb h0 n0 (Nat.le_trans Z0 KP.1) OL hx2 Vb O2 P5 OAD OHI OLO) hZ (own_w hw 102 rfl) (own_w hw 24 rfl) (by decide) (by decide)) (g := (mkF m 70 #[rv b, iv 0, iv 3, iv 0, iv 3, iv 2] [(.int (2 : Int32)), (.ref b)])) rfl (by rw [hml]; rfl) (argsL := [(.ref b), (.int (2 : Int32))]) (rest := []) (lenOf own_pd6 rfl) rfl (by show 2 * 0 + _ ≤ _; exact Nat.le_of_eq rfl) (hb hby own_d488) rfl e289 (kc := 0) (ks := 0) rfl rfl (by decide) (by decide)
      obtain ⟨rfl, N290q, e290⟩ := hQ290
      have N290 := Fr.app N289 N290q
      refine own_to (mkF m 73 #[rv b, iv 0, iv 3, iv 0, iv 3, iv 2] [(.int x2)]) st290 ?_
      obtain ⟨_, T291, Lc291, X291, hQ291, st291⟩ := own_callS X290 hx (y := (⟨"java/lang/Character", "isLowSurrogate", "(C)Z"⟩ : MethodName)) hown (mvT hZ (own_w hw 159 rfl)) (mvT hZ (own_w hw 160 rfl)) (mvT hZ (own_w hw 153 rfl)) (mvT hZ (own_w hw 161 rfl)) (by decide) (backOf (W := 0) (own_rmLS l Z a0 hw [] x2 h0 n0 (Nat.le_trans Z0 KP.1) OL ) hZ (own_w hw 161 rfl) (own_w hw 153 rfl) (by decide) (by decide)) (g := (mkF m 73 #[rv b, iv 0, iv 3, iv 0, iv 3, iv 2] [(.int x2)])) rfl (by rw [hml]; rfl) (argsL := [(.int x2)]) (rest := []) (lenOf own_pd9 rfl) rfl (by show 2 * 0 + _ ≤ _; exact Nat.le_of_eq rfl) (hb hby own_d489) rfl e290 (kc := 0) (ks := 0) rfl rfl (by decide) (by decide)
      obtain ⟨N291q, e291, hor291⟩ := hQ291
      have N291 := Fr.app N290 N291q
      rcases hor291 with ⟨rfl, ls1⟩ | ⟨rfl, ls1⟩
      · refine own_to (mkF m 76 #[rv b, iv 0, iv 3, iv 0, iv 3, iv 2] [(.int (1 : Int32))]) st291 ?_
        refine own_ifN 79 X291 hx (hb hby own_d490) ((if0 _ _).trans (feq (by decide : ¬ ((1 : Int32) = (0 : Int32)))).1) rfl ?_
        refine own_inc 82 #[rv b, iv 0, iv 3, iv 0, iv 2, iv 2] X291 hx (hb hby own_d491) rfl rfl rfl ?_
        refine own_inc 85 #[rv b, iv 0, iv 3, iv 0, iv 2, iv 3] X291 hx (hb hby own_d492) rfl rfl rfl ?_
        refine own_go 44 X291 hx (hb hby own_d493) (by decide) (by decide) ?_
        refine own_il 46 X291 hx (hb hby own_d426) rfl rfl ?_
        refine own_iln 47 X291 hx (hb hby own_d427) rfl rfl ?_
        refine own_ic 48 1 X291 hx (hb hby own_d428) rfl rfl ?_
        refine own_isub 49 X291 hx (hb hby own_d429) (z := (2 : Int32)) rfl rfl ?_
        refine own_icY 88 X291 hx (hb hby own_d430) (flt (by decide : ¬ ((3 : Int32) < (2 : Int32)))).2.1 (by decide) (by decide) ?_
        refine own_il 90 X291 hx (hb hby own_d431) rfl rfl ?_
        exact own_retI X291 hx Bd.returns hlk (hb hby own_d432) (by decide) (by decide) (by rw [e291]; exact ⟨_, rfl, own_P3b hs1 ls1, N291, rfl⟩)
      · refine own_to (mkF m 76 #[rv b, iv 0, iv 3, iv 0, iv 3, iv 2] [(.int (0 : Int32))]) st291 ?_
        refine own_ifY 44 X291 hx (hb hby own_d490) ((if0 _ _).trans (teq (by decide : (0 : Int32) = (0 : Int32))).1) (by decide) (by decide) ?_
        refine own_il 46 X291 hx (hb hby own_d426) rfl rfl ?_
        refine own_iln 47 X291 hx (hb hby own_d427) rfl rfl ?_
        refine own_ic 48 1 X291 hx (hb hby own_d428) rfl rfl ?_
        refine own_isub 49 X291 hx (hb hby own_d429) (z := (2 : Int32)) rfl rfl ?_
        refine own_icY 88 X291 hx (hb hby own_d430) (flt (by decide : ¬ ((2 : Int32) < (2 : Int32)))).2.1 (by decide) (by decide) ?_
        refine own_il 90 X291 hx (hb hby own_d431) rfl rfl ?_
        exact own_retI X291 hx Bd.returns hlk (hb hby own_d432) (by decide) (by decide) (by rw [e291]; exact ⟨_, rfl, own_P3c (fun q => hs0 q.1) (fun q => ls1 q.2), N291, rfl⟩)
    · refine own_to (mkF m 64 #[rv b, iv 0, iv 3, iv 0, iv 3, iv 2] [(.int (0 : Int32))]) st289 ?_
      refine own_ifY 44 X289 hx (hb hby own_d485) ((if0 _ _).trans (teq (by decide : (0 : Int32) = (0 : Int32))).1) (by decide) (by decide) ?_
      refine own_il 46 X289 hx (hb hby own_d426) rfl rfl ?_
      refine own_iln 47 X289 hx (hb hby own_d427) rfl rfl ?_
      refine own_ic 48 1 X289 hx (hb hby own_d428) rfl rfl ?_
      refine own_isub 49 X289 hx (hb hby own_d429) (z := (2 : Int32)) rfl rfl ?_
      refine own_icY 88 X289 hx (hb hby own_d430) (flt (by decide : ¬ ((2 : Int32) < (2 : Int32)))).2.1 (by decide) (by decide) ?_
      refine own_il 90 X289 hx (hb hby own_d431) rfl rfl ?_
      exact own_retI X289 hx Bd.returns hlk (hb hby own_d432) (by decide) (by decide) (by rw [e289]; exact ⟨_, rfl, own_P3c (fun q => hs0 q.1) (fun q => hs1 q.1), N289, rfl⟩)
def own_QCU_3 (Z : State) (x0 x1 x2 : Int32) (G1 : Int32) (b : Addr) (kb : ClassId) (h0 : Heap) (n0 : Nat) (v : Option Value) (h : Heap) (L : List Loc) : Prop := ∃ r : Int32, v = some (.int r) ∧ own_P3 x0 x1 x2 r ∧ Fr n0 L ∧ h = h0
set_option maxRecDepth 65536 in
set_option maxHeartbeats 40000000 in
theorem own_rmCU_3 (l : Launch) (Z : State) (a0 : Array Value) (hw : ∀ d ∈ tables_1, d.before a0 Z = true) (ws : List Jvm.Cond) (x0 x1 x2 : Int32) (G1 : Int32) (b : Addr) (kb : ClassId) (h0 : Heap) (n0 : Nat) (Z0 : n0 ≤ h0.size) (OL : Old Z n0 h0) (hx0 : own_C16 x0) (hx1 : own_C16 x1) (hx2 : own_C16 x2) (Vb : Arv Z h0 b kb .byte (6 : Int32) [(.int ((x0 >>> ((0 : Int32) &&& 31)).toInt8.toInt32)), (.int ((x0 >>> ((8 : Int32) &&& 31)).toInt8.toInt32)), (.int ((x1 >>> ((0 : Int32) &&& 31)).toInt8.toInt32)), (.int ((x1 >>> ((8 : Int32) &&& 31)).toInt8.toInt32)), (.int ((x2 >>> ((0 : Int32) &&& 31)).toInt8.toInt32)), (.int ((x2 >>> ((8 : Int32) &&& 31)).toInt8.toInt32))] (.int (0 : Int32))) (O2 : Sta Z Z.heap "java/lang/String" "COMPACT_STRINGS" "Z" (.int G1)) (P5 : ¬ (G1 = (0 : Int32))) (OAD : Sta Z Z.heap "java/lang/StringUTF16" "$assertionsDisabled" "Z" (.int (1 : Int32))) (OHI : Sta Z Z.heap "java/lang/StringUTF16" "HI_BYTE_SHIFT" "I" (.int (0 : Int32))) (OLO : Sta Z Z.heap "java/lang/StringUTF16" "LO_BYTE_SHIFT" "I" (.int (8 : Int32))) :
    own_MF l (⟨"java/lang/StringUTF16", "codePointCount", "([BII)I"⟩ : MethodName) (Jvm.Cond.code (⟨"java/lang/StringUTF16", "codePointCount", "([BII)I"⟩ : MethodName) jdk_52_method_12_code 3 (some .int) :: ws) ({ frames := 2, cells := 0, slots := 0, locals := 40 } : Room) #[(.ref b), (.int (0 : Int32)), (.int (3 : Int32))] Z h0 (own_QCU_3 Z x0 x1 x2 G1 b kb h0 n0) := by
  refine MetFree.of_bodySF (plainFor_of_name own_pn1) hisR ?_
  intro p e s m args below meth c s₁ Bd hml0 hP hK
  obtain ⟨rfl, hZ, hh⟩ := hP
  have hx := Bd.exec
  have hby := Bd.bytes
  have hlk : meth.locks = false := BodyLoose.notSynchronized Bd
  have hml : c.maxLocals = 3 := hml0
  have hown : s.vm.findClass "java/lang/StringUTF16" = some m.cls := findClass_of_methodNamed Bd.named
  have hnm := (name_of_methodNamed Bd.named Bd.method).1
  have X0 : Stand p l e ({ frames := 2, cells := 0, slots := 0, locals := 40 } : Room) s m #[(.ref b), (.int (0 : Int32)), (.int (3 : Int32))] below meth c s₁ [] 0 0 := Stand.of_body Bd
  have e0 : s₁.heap = h0 := by rw [← hh, Bd.state]; rfl
  have N0 := Fr.nil n0
  have KP : Keep h0 h0 [] := Keep.refl _ _
  refine own_start (Fin := (own_Fin s (own_QCU_3 Z x0 x1 x2 G1 b kb h0 n0) ({ frames := 2, cells := 0, slots := 0, locals := 40 } : Room).cells ({ frames := 2, cells := 0, slots := 0, locals := 40 } : Room).slots)) (own_from (mkF m 0 #[rv b, iv 0, iv 3] []) (castTop (own_ef_CU_3 m b (0 : Int32) (3 : Int32))) ?_)
  refine own_aln 1 X0 hx (hb hby own_d433) rfl rfl rfl ?_
  refine own_iln 2 X0 hx (hb hby own_d434) rfl rfl ?_
  refine own_iln 3 X0 hx (hb hby own_d435) rfl rfl ?_
  refine own_ic 4 0 X0 hx (hb hby own_d436) rfl rfl ?_
  obtain ⟨_, T298, Lc298, X298, hQ298, st298⟩ := own_callS X0 hx (y := (⟨"java/lang/StringUTF16", "codePointCount", "([BIIZ)I"⟩ : MethodName)) hown (mvT hZ (own_w hw 147 rfl)) (mvT hZ (own_w hw 148 rfl)) (mvT hZ (own_w hw 24 rfl)) (mvT hZ (own_w hw 149 rfl)) (by decide) (backOf (W := 0) (own_rmCZ_3 l Z a0 hw [] x0 x1 x2 G1 b kb h0 n0 (Nat.le_trans Z0 KP.1) OL hx0 hx1 hx2 Vb O2 P5 OAD OHI OLO) hZ (own_w hw 149 rfl) (own_w hw 24 rfl) (by decide) (by decide)) (g := (mkF m 4 #[rv b, iv 0, iv 3] [(.int (0 : Int32)), (.int (3 : Int32)), (.int (0 : Int32)), (.ref b)])) rfl (by rw [hml]; rfl) (argsL := [(.ref b), (.int (0 : Int32)), (.int (3 : Int32)), (.int (0 : Int32))]) (rest := []) (lenOf own_pd13 rfl) rfl (by show 2 * 0 + _ ≤ _; exact Nat.le_of_eq rfl) (hb hby own_d437) rfl e0 (kc := 0) (ks := 0) rfl rfl (by decide) (by decide)
  obtain ⟨rr, rfl, hrr, N298q, e298⟩ := hQ298
  have N298 := Fr.app N0 N298q
  refine own_to (mkF m 7 #[rv b, iv 0, iv 3] [(.int rr)]) st298 ?_
  exact own_retI X298 hx Bd.returns hlk (hb hby own_d438) (by decide) (by decide) (by rw [e298]; exact ⟨_, rfl, hrr, N298, rfl⟩)
def own_QCP_3 (Z : State) (x0 x1 x2 : Int32) (G1 : Int32) (sx tx : Addr) (kx : ClassId) (h0 : Heap) (n0 : Nat) (v : Option Value) (h : Heap) (L : List Loc) : Prop := ∃ r : Int32, v = some (.int r) ∧ own_P3 x0 x1 x2 r ∧ Fr n0 L ∧ h = h0
set_option maxRecDepth 65536 in
set_option maxHeartbeats 40000000 in
theorem own_rmCP_3 (l : Launch) (Z : State) (a0 : Array Value) (hw : ∀ d ∈ tables_1, d.before a0 Z = true) (ws : List Jvm.Cond) (x0 x1 x2 : Int32) (G1 : Int32) (sx tx : Addr) (kx : ClassId) (h0 : Heap) (n0 : Nat) (Z0 : n0 ≤ h0.size) (OL : Old Z n0 h0) (hx0 : own_C16 x0) (hx1 : own_C16 x1) (hx2 : own_C16 x2) (SS : own_S3 Z h0 sx tx kx x0 x1 x2) (O2 : Sta Z Z.heap "java/lang/String" "COMPACT_STRINGS" "Z" (.int G1)) (P5 : ¬ (G1 = (0 : Int32))) (OAD : Sta Z Z.heap "java/lang/StringUTF16" "$assertionsDisabled" "Z" (.int (1 : Int32))) (OHI : Sta Z Z.heap "java/lang/StringUTF16" "HI_BYTE_SHIFT" "I" (.int (0 : Int32))) (OLO : Sta Z Z.heap "java/lang/StringUTF16" "LO_BYTE_SHIFT" "I" (.int (8 : Int32))) :
    own_MF l (⟨"java/lang/String", "codePointCount", "(II)I"⟩ : MethodName) (Jvm.Cond.code (⟨"java/lang/String", "codePointCount", "(II)I"⟩ : MethodName) jdk_42_method_59_code 3 (some .int) :: ws) ({ frames := 3, cells := 0, slots := 0, locals := 60 } : Room) #[(.ref sx), (.int (0 : Int32)), (.int (3 : Int32))] Z h0 (own_QCP_3 Z x0 x1 x2 G1 sx tx kx h0 n0) := by
  refine MetFree.of_bodySF (plainFor_of_name own_pn0) hisR ?_
  intro p e s m args below meth c s₁ Bd hml0 hP hK
  obtain ⟨rfl, hZ, hh⟩ := hP
  have hx := Bd.exec
  have hby := Bd.bytes
  have hlk : meth.locks = false := BodyLoose.notSynchronized Bd
  have hml : c.maxLocals = 3 := hml0
  have hown : s.vm.findClass "java/lang/String" = some m.cls := findClass_of_methodNamed Bd.named
  have hnm := (name_of_methodNamed Bd.named Bd.method).1
  have X0 : Stand p l e ({ frames := 3, cells := 0, slots := 0, locals := 60 } : Room) s m #[(.ref sx), (.int (0 : Int32)), (.int (3 : Int32))] below meth c s₁ [] 0 0 := Stand.of_body Bd
  have e0 : s₁.heap = h0 := by rw [← hh, Bd.state]; rfl
  have N0 := Fr.nil n0
  have KP : Keep h0 h0 [] := Keep.refl _ _
  refine own_start (Fin := (own_Fin s (own_QCP_3 Z x0 x1 x2 G1 sx tx kx h0 n0) ({ frames := 3, cells := 0, slots := 0, locals := 60 } : Room).cells ({ frames := 3, cells := 0, slots := 0, locals := 60 } : Room).slots)) (own_from (mkF m 0 #[rv sx, iv 0, iv 3] []) (castTop (own_ef_CP_3 m sx (0 : Int32) (3 : Int32))) ?_)
  rcases SS with ⟨hA, SG⟩ | SG
  · obtain ⟨E_sx, Fv, Fc, Va⟩ := id SG
    have SL : own_StrL Z h0 sx tx (3 : Int32) (6 : Int32) := ⟨_, _, _, _, SG, Or.inl ⟨rfl, rfl⟩⟩
    refine own_iln 1 X0 hx (hb hby own_d439) rfl rfl ?_
    refine own_iln 2 X0 hx (hb hby own_d440) rfl rfl ?_
    refine own_aln 3 X0 hx (hb hby own_d441) rfl rfl rfl ?_
    obtain ⟨cq299, kq299, q299a, q299b, q299c⟩ := isOf hZ e0 E_sx
    obtain ⟨_, T299, Lc299, X299, hQ299, st299⟩ := own_virtual X0 hx (y := (⟨"java/lang/String", "length", "()I"⟩ : MethodName)) (z := (⟨"java/lang/String", "length", "()I"⟩ : MethodName)) hown (mvT hZ (own_w hw 130 rfl)) (mvT hZ (own_w hw 116 rfl)) (notFace_of_selects (args := #[]) (mvT hZ (own_w hw 118 rfl))) (mvT hZ (own_w hw 118 rfl)) (mvT hZ (own_w hw 117 rfl)) (by decide) (backOf (W := 2) (own_rmLN_3 l Z a0 hw [] G1 sx tx h0 n0 (Nat.le_trans Z0 KP.1) OL SL O2 P5) hZ (own_w hw 119 rfl) (own_w hw 6 rfl) (by decide) (by decide)) q299a q299c (g := (mkF m 3 #[rv sx, iv 0, iv 3] [(.ref sx), (.int (3 : Int32)), (.int (0 : Int32))])) rfl (by rw [hml]; rfl) (argsL := []) (rest := [(.int (3 : Int32)), (.int (0 : Int32))]) (lenOf own_pd14 rfl) rfl (by show 2 * 0 + _ ≤ _; exact Nat.le_of_eq rfl) (hb hby own_d442) rfl e0 (kc := 0) (ks := 0) rfl rfl (by decide) (by decide)
    obtain ⟨rfl, N299q, e299⟩ := hQ299
    have N299 := Fr.app N0 N299q
    refine own_via (mkF m 6 #[rv sx, iv 0, iv 3] [(.int (3 : Int32)), (.int (3 : Int32)), (.int (0 : Int32))]) st299 ?_
    obtain ⟨_, T300, Lc300, X300, hQ300, st300⟩ := own_callS X299 hx (y := (⟨"java/util/Objects", "checkFromToIndex", "(III)I"⟩ : MethodName)) hown (mvT hZ (own_w hw 131 rfl)) (mvT hZ (own_w hw 132 rfl)) (mvT hZ (own_w hw 133 rfl)) (mvT hZ (own_w hw 134 rfl)) (by decide) (backOf (W := 0) (own_rmOC_3 l Z a0 hw []  h0 n0 (Nat.le_trans Z0 KP.1) OL ) hZ (own_w hw 134 rfl) (own_w hw 133 rfl) (by decide) (by decide)) (g := (mkF m 6 #[rv sx, iv 0, iv 3] [(.int (3 : Int32)), (.int (3 : Int32)), (.int (0 : Int32))])) rfl (by rw [hml]; rfl) (argsL := [(.int (0 : Int32)), (.int (3 : Int32)), (.int (3 : Int32))]) (rest := []) (lenOf own_pd15 rfl) rfl (by show 2 * 0 + _ ≤ _; exact Nat.le_of_eq rfl) (hb hby own_d443) rfl e299 (kc := 0) (ks := 0) rfl rfl (by decide) (by decide)
    obtain ⟨rfl, N300q, e300⟩ := hQ300
    have N300 := Fr.app N299 N300q
    refine own_to (mkF m 9 #[rv sx, iv 0, iv 3] [(.int (0 : Int32))]) st300 ?_
    refine own_to (T' := T300) (mkF m 10 #[rv sx, iv 0, iv 3] []) (fun _ k => XS.pop X300.here hx rfl (hb hby own_d444) rfl rfl k) ?_
    refine own_aln 11 X300 hx (hb hby own_d445) rfl rfl rfl ?_
    obtain ⟨cq301, kq301, q301a, q301b, q301c⟩ := isOf hZ e300 E_sx
    obtain ⟨_, T301, Lc301, X301, hQ301, st301⟩ := own_virtual X300 hx (y := (⟨"java/lang/String", "isLatin1", "()Z"⟩ : MethodName)) (z := (⟨"java/lang/String", "isLatin1", "()Z"⟩ : MethodName)) hown (mvT hZ (own_w hw 139 rfl)) (mvT hZ (own_w hw 140 rfl)) (notFace_of_selects (args := #[]) (mvT hZ (own_w hw 142 rfl))) (mvT hZ (own_w hw 142 rfl)) (mvT hZ (own_w hw 141 rfl)) (by decide) (backOf (W := 0) (own_rmIS_0 l Z a0 hw [] G1 sx h0 n0 (Nat.le_trans Z0 KP.1) OL Fc O2 P5) hZ (own_w hw 143 rfl) (own_w hw 6 rfl) (by decide) (by decide)) q301a q301c (g := (mkF m 11 #[rv sx, iv 0, iv 3] [(.ref sx)])) rfl (by rw [hml]; rfl) (argsL := []) (rest := []) (lenOf own_pd16 rfl) rfl (by show 2 * 0 + _ ≤ _; exact Nat.le_of_eq rfl) (hb hby own_d446) rfl e300 (kc := 0) (ks := 0) rfl rfl (by decide) (by decide)
    obtain ⟨rfl, N301q, e301⟩ := hQ301
    have N301 := Fr.app N300 N301q
    refine own_via (mkF m 14 #[rv sx, iv 0, iv 3] [(.int (1 : Int32))]) st301 ?_
    refine own_ifN 17 X301 hx (hb hby own_d447) ((if0 _ _).trans (feq (by decide : ¬ ((1 : Int32) = (0 : Int32)))).1) rfl ?_
    refine own_iln 18 X301 hx (hb hby own_d448) rfl rfl ?_
    refine own_iln 19 X301 hx (hb hby own_d449) rfl rfl ?_
    refine own_isub 20 X301 hx (hb hby own_d450) (z := (3 : Int32)) rfl rfl ?_
    exact own_retI X301 hx Bd.returns hlk (hb hby own_d451) (by decide) (by decide) (by rw [e301]; exact ⟨_, rfl, hA, N301, rfl⟩)
  · obtain ⟨E_sx, Fv, Fc, Va⟩ := id SG
    have SL : own_StrL Z h0 sx tx (3 : Int32) (6 : Int32) := ⟨_, _, _, _, SG, Or.inr ⟨rfl, rfl⟩⟩
    refine own_iln 1 X0 hx (hb hby own_d439) rfl rfl ?_
    refine own_iln 2 X0 hx (hb hby own_d440) rfl rfl ?_
    refine own_aln 3 X0 hx (hb hby own_d441) rfl rfl rfl ?_
    obtain ⟨cq302, kq302, q302a, q302b, q302c⟩ := isOf hZ e0 E_sx
    obtain ⟨_, T302, Lc302, X302, hQ302, st302⟩ := own_virtual X0 hx (y := (⟨"java/lang/String", "length", "()I"⟩ : MethodName)) (z := (⟨"java/lang/String", "length", "()I"⟩ : MethodName)) hown (mvT hZ (own_w hw 130 rfl)) (mvT hZ (own_w hw 116 rfl)) (notFace_of_selects (args := #[]) (mvT hZ (own_w hw 118 rfl))) (mvT hZ (own_w hw 118 rfl)) (mvT hZ (own_w hw 117 rfl)) (by decide) (backOf (W := 2) (own_rmLN_3 l Z a0 hw [] G1 sx tx h0 n0 (Nat.le_trans Z0 KP.1) OL SL O2 P5) hZ (own_w hw 119 rfl) (own_w hw 6 rfl) (by decide) (by decide)) q302a q302c (g := (mkF m 3 #[rv sx, iv 0, iv 3] [(.ref sx), (.int (3 : Int32)), (.int (0 : Int32))])) rfl (by rw [hml]; rfl) (argsL := []) (rest := [(.int (3 : Int32)), (.int (0 : Int32))]) (lenOf own_pd14 rfl) rfl (by show 2 * 0 + _ ≤ _; exact Nat.le_of_eq rfl) (hb hby own_d442) rfl e0 (kc := 0) (ks := 0) rfl rfl (by decide) (by decide)
    obtain ⟨rfl, N302q, e302⟩ := hQ302
    have N302 := Fr.app N0 N302q
    refine own_via (mkF m 6 #[rv sx, iv 0, iv 3] [(.int (3 : Int32)), (.int (3 : Int32)), (.int (0 : Int32))]) st302 ?_
    obtain ⟨_, T303, Lc303, X303, hQ303, st303⟩ := own_callS X302 hx (y := (⟨"java/util/Objects", "checkFromToIndex", "(III)I"⟩ : MethodName)) hown (mvT hZ (own_w hw 131 rfl)) (mvT hZ (own_w hw 132 rfl)) (mvT hZ (own_w hw 133 rfl)) (mvT hZ (own_w hw 134 rfl)) (by decide) (backOf (W := 0) (own_rmOC_3 l Z a0 hw []  h0 n0 (Nat.le_trans Z0 KP.1) OL ) hZ (own_w hw 134 rfl) (own_w hw 133 rfl) (by decide) (by decide)) (g := (mkF m 6 #[rv sx, iv 0, iv 3] [(.int (3 : Int32)), (.int (3 : Int32)), (.int (0 : Int32))])) rfl (by rw [hml]; rfl) (argsL := [(.int (0 : Int32)), (.int (3 : Int32)), (.int (3 : Int32))]) (rest := []) (lenOf own_pd15 rfl) rfl (by show 2 * 0 + _ ≤ _; exact Nat.le_of_eq rfl) (hb hby own_d443) rfl e302 (kc := 0) (ks := 0) rfl rfl (by decide) (by decide)
    obtain ⟨rfl, N303q, e303⟩ := hQ303
    have N303 := Fr.app N302 N303q
    refine own_to (mkF m 9 #[rv sx, iv 0, iv 3] [(.int (0 : Int32))]) st303 ?_
    refine own_to (T' := T303) (mkF m 10 #[rv sx, iv 0, iv 3] []) (fun _ k => XS.pop X303.here hx rfl (hb hby own_d444) rfl rfl k) ?_
    refine own_aln 11 X303 hx (hb hby own_d445) rfl rfl rfl ?_
    obtain ⟨cq304, kq304, q304a, q304b, q304c⟩ := isOf hZ e303 E_sx
    obtain ⟨_, T304, Lc304, X304, hQ304, st304⟩ := own_virtual X303 hx (y := (⟨"java/lang/String", "isLatin1", "()Z"⟩ : MethodName)) (z := (⟨"java/lang/String", "isLatin1", "()Z"⟩ : MethodName)) hown (mvT hZ (own_w hw 139 rfl)) (mvT hZ (own_w hw 140 rfl)) (notFace_of_selects (args := #[]) (mvT hZ (own_w hw 142 rfl))) (mvT hZ (own_w hw 142 rfl)) (mvT hZ (own_w hw 141 rfl)) (by decide) (backOf (W := 0) (own_rmIS_1 l Z a0 hw [] G1 sx h0 n0 (Nat.le_trans Z0 KP.1) OL Fc O2 P5) hZ (own_w hw 143 rfl) (own_w hw 6 rfl) (by decide) (by decide)) q304a q304c (g := (mkF m 11 #[rv sx, iv 0, iv 3] [(.ref sx)])) rfl (by rw [hml]; rfl) (argsL := []) (rest := []) (lenOf own_pd16 rfl) rfl (by show 2 * 0 + _ ≤ _; exact Nat.le_of_eq rfl) (hb hby own_d446) rfl e303 (kc := 0) (ks := 0) rfl rfl (by decide) (by decide)
    obtain ⟨rfl, N304q, e304⟩ := hQ304
    have N304 := Fr.app N303 N304q
    refine own_via (mkF m 14 #[rv sx, iv 0, iv 3] [(.int (0 : Int32))]) st304 ?_
    refine own_ifY 21 X304 hx (hb hby own_d447) ((if0 _ _).trans (teq (by decide : (0 : Int32) = (0 : Int32))).1) (by decide) (by decide) ?_
    refine own_aln 22 X304 hx (hb hby own_d452) rfl rfl rfl ?_
    obtain ⟨T305, X305, e305, st305⟩ := getF X304 hx hZ hown (host := "") (Or.inl (own_w hw 35 rfl)) Via.refl e304 Fv (g := (mkF m 22 #[rv sx, iv 0, iv 3] [(.ref sx)])) rfl rfl (hb hby own_d453)
    refine own_to (mkF m 25 #[rv sx, iv 0, iv 3] [(.ref tx)]) st305 ?_
    refine own_iln 26 X305 hx (hb hby own_d454) rfl rfl ?_
    refine own_iln 27 X305 hx (hb hby own_d455) rfl rfl ?_
    obtain ⟨_, T306, Lc306, X306, hQ306, st306⟩ := own_callS X305 hx (y := (⟨"java/lang/StringUTF16", "codePointCount", "([BII)I"⟩ : MethodName)) hown (mvT hZ (own_w hw 144 rfl)) (mvT hZ (own_w hw 145 rfl)) (mvT hZ (own_w hw 24 rfl)) (mvT hZ (own_w hw 146 rfl)) (by decide) (backOf (W := 0) (own_rmCU_3 l Z a0 hw [] x0 x1 x2 G1 tx kx h0 n0 (Nat.le_trans Z0 KP.1) OL hx0 hx1 hx2 Va O2 P5 OAD OHI OLO) hZ (own_w hw 146 rfl) (own_w hw 24 rfl) (by decide) (by decide)) (g := (mkF m 27 #[rv sx, iv 0, iv 3] [(.int (3 : Int32)), (.int (0 : Int32)), (.ref tx)])) rfl (by rw [hml]; rfl) (argsL := [(.ref tx), (.int (0 : Int32)), (.int (3 : Int32))]) (rest := []) (lenOf own_pd17 rfl) rfl (by show 2 * 0 + _ ≤ _; exact Nat.le_of_eq rfl) (hb hby own_d456) rfl e305 (kc := 0) (ks := 0) rfl rfl (by decide) (by decide)
    obtain ⟨rr, rfl, hrr, N306q, e306⟩ := hQ306
    have N306 := Fr.app N304 N306q
    refine own_to (mkF m 30 #[rv sx, iv 0, iv 3] [(.int rr)]) st306 ?_
    exact own_retI X306 hx Bd.returns hlk (hb hby own_d457) (by decide) (by decide) (by rw [e306]; exact ⟨_, rfl, hrr, N306, rfl⟩)
def own_QFO_3 (Z : State) (x0 x1 x2 : Int32) (G1 : Int32) (sx tx : Addr) (kx : ClassId) (tk pv : Addr) (l1 c1 l0 c0 : Int32) (h0 : Heap) (n0 : Nat) (v : Option Value) (h : Heap) (L : List Loc) : Prop := ∃ r : Int32, v = some (.int r) ∧ ((r = 1 ∧ l1 = l0 ∧ ∃ q, own_P3 x0 x1 x2 q ∧ c1 = (c0 + q)) ∨ (r = 0 ∧ (¬ l1 = l0 ∨ ∃ q, own_P3 x0 x1 x2 q ∧ ¬ c1 = (c0 + q)))) ∧ Fr n0 L ∧ h = h0
set_option maxRecDepth 65536 in
set_option maxHeartbeats 40000000 in
theorem own_rmFO_3 (l : Launch) (Z : State) (a0 : Array Value) (hw : ∀ d ∈ tables_1, d.before a0 Z = true) (ws : List Jvm.Cond) (x0 x1 x2 : Int32) (G1 : Int32) (sx tx : Addr) (kx : ClassId) (tk pv : Addr) (l1 c1 l0 c0 : Int32) (h0 : Heap) (n0 : Nat) (Z0 : n0 ≤ h0.size) (OL : Old Z n0 h0) (hx0 : own_C16 x0) (hx1 : own_C16 x1) (hx2 : own_C16 x2) (SS : own_S3 Z h0 sx tx kx x0 x1 x2) (O2 : Sta Z Z.heap "java/lang/String" "COMPACT_STRINGS" "Z" (.int G1)) (P5 : ¬ (G1 = (0 : Int32))) (OAD : Sta Z Z.heap "java/lang/StringUTF16" "$assertionsDisabled" "Z" (.int (1 : Int32))) (OHI : Sta Z Z.heap "java/lang/StringUTF16" "HI_BYTE_SHIFT" "I" (.int (0 : Int32))) (OLO : Sta Z Z.heap "java/lang/StringUTF16" "LO_BYTE_SHIFT" "I" (.int (8 : Int32))) (F_line_tk : Fld Z h0 tk "com/example/ianus/ianus/Token" "line" "I" (.int l1)) (F_column_tk : Fld Z h0 tk "com/example/ianus/ianus/Token" "column" "I" (.int c1)) (F_line_pv : Fld Z h0 pv "com/example/ianus/ianus/Token" "line" "I" (.int l0)) (F_column_pv : Fld Z h0 pv "com/example/ianus/ianus/Token" "column" "I" (.int c0)) (F_text_pv : Fld Z h0 pv "com/example/ianus/ianus/Token" "text" "Ljava/lang/String;" (.ref sx)) :
    own_MF l (⟨"com/example/ianus/ianus/Token", "follows", "(Lcom/example/ianus/ianus/Token;)Z"⟩ : MethodName) (Jvm.Cond.code (⟨"com/example/ianus/ianus/Token", "follows", "(Lcom/example/ianus/ianus/Token;)Z"⟩ : MethodName) prog_18_method_8_code 2 (some .boolean) :: ws) ({ frames := 4, cells := 0, slots := 0, locals := 100 } : Room) #[(.ref tk), (.ref pv)] Z h0 (own_QFO_3 Z x0 x1 x2 G1 sx tx kx tk pv l1 c1 l0 c0 h0 n0) := by
  refine MetFree.of_bodySF (plainFor_of_name own_pn5) hisR ?_
  intro p e s m args below meth c s₁ Bd hml0 hP hK
  obtain ⟨rfl, hZ, hh⟩ := hP
  have hx := Bd.exec
  have hby := Bd.bytes
  have hlk : meth.locks = false := BodyLoose.notSynchronized Bd
  have hml : c.maxLocals = 2 := hml0
  have hown : s.vm.findClass "com/example/ianus/ianus/Token" = some m.cls := findClass_of_methodNamed Bd.named
  have hnm := (name_of_methodNamed Bd.named Bd.method).1
  have X0 : Stand p l e ({ frames := 4, cells := 0, slots := 0, locals := 100 } : Room) s m #[(.ref tk), (.ref pv)] below meth c s₁ [] 0 0 := Stand.of_body Bd
  have e0 : s₁.heap = h0 := by rw [← hh, Bd.state]; rfl
  have N0 := Fr.nil n0
  have KP : Keep h0 h0 [] := Keep.refl _ _
  refine own_start (Fin := (own_Fin s (own_QFO_3 Z x0 x1 x2 G1 sx tx kx tk pv l1 c1 l0 c0 h0 n0) ({ frames := 4, cells := 0, slots := 0, locals := 100 } : Room).cells ({ frames := 4, cells := 0, slots := 0, locals := 100 } : Room).slots)) (own_from (mkF m 0 #[rv tk, rv pv] []) (castTop (own_ef_FO_3 m tk pv)) ?_)
  have SL := SS.sl
  refine own_aln 1 X0 hx (hb hby own_d458) rfl rfl rfl ?_
  obtain ⟨T307, X307, e307, st307⟩ := getF X0 hx hZ hown (host := "") (Or.inl (own_w hw 74 rfl)) Via.refl e0 F_line_tk (g := (mkF m 1 #[rv tk, rv pv] [(.ref tk)])) rfl rfl (hb hby own_d459)
  refine own_to (mkF m 4 #[rv tk, rv pv] [(.int l1)]) st307 ?_
  refine own_aln 5 X307 hx (hb hby own_d460) rfl rfl rfl ?_
  obtain ⟨T308, X308, e308, st308⟩ := getF X307 hx hZ hown (host := "") (Or.inl (own_w hw 74 rfl)) Via.refl e307 F_line_pv (g := (mkF m 5 #[rv tk, rv pv] [(.ref pv), (.int l1)])) rfl rfl (hb hby own_d461)
  refine own_to (mkF m 8 #[rv tk, rv pv] [(.int l0), (.int l1)]) st308 ?_
  by_cases hl : l1 = l0
  · refine own_icN 11 X308 hx (hb hby own_d462) (teq hl).2 rfl ?_
    refine own_aln 12 X308 hx (hb hby own_d465) rfl rfl rfl ?_
    obtain ⟨T309, X309, e309, st309⟩ := getF X308 hx hZ hown (host := "") (Or.inl (own_w hw 76 rfl)) Via.refl e308 F_column_tk (g := (mkF m 12 #[rv tk, rv pv] [(.ref tk)])) rfl rfl (hb hby own_d466)
    refine own_to (mkF m 15 #[rv tk, rv pv] [(.int c1)]) st309 ?_
    refine own_aln 16 X309 hx (hb hby own_d467) rfl rfl rfl ?_
    obtain ⟨T310, X310, e310, st310⟩ := getF X309 hx hZ hown (host := "") (Or.inl (own_w hw 76 rfl)) Via.refl e309 F_column_pv (g := (mkF m 16 #[rv tk, rv pv] [(.ref pv), (.int c1)])) rfl rfl (hb hby own_d468)
    refine own_to (mkF m 19 #[rv tk, rv pv] [(.int c0), (.int c1)]) st310 ?_
    refine own_aln 20 X310 hx (hb hby own_d469) rfl rfl rfl ?_
    obtain ⟨T311, X311, e311, st311⟩ := getF X310 hx hZ hown (host := "") (Or.inl (own_w hw 70 rfl)) Via.refl e310 F_text_pv (g := (mkF m 20 #[rv tk, rv pv] [(.ref pv), (.int c0), (.int c1)])) rfl rfl (hb hby own_d470)
    refine own_to (mkF m 23 #[rv tk, rv pv] [(.ref sx), (.int c0), (.int c1)]) st311 ?_
    refine own_ic 24 0 X311 hx (hb hby own_d471) rfl rfl ?_
    refine own_aln 25 X311 hx (hb hby own_d472) rfl rfl rfl ?_
    obtain ⟨T312, X312, e312, st312⟩ := getF X311 hx hZ hown (host := "") (Or.inl (own_w hw 70 rfl)) Via.refl e311 F_text_pv (g := (mkF m 25 #[rv tk, rv pv] [(.ref pv), (.int (0 : Int32)), (.ref sx), (.int c0), (.int c1)])) rfl rfl (hb hby own_d473)
    refine own_to (mkF m 28 #[rv tk, rv pv] [(.ref sx), (.int (0 : Int32)), (.ref sx), (.int c0), (.int c1)]) st312 ?_
    obtain ⟨cq313, kq313, q313a, q313b, q313c⟩ := isOf hZ e312 SL.exa
    obtain ⟨_, T313, Lc313, X313, hQ313, st313⟩ := own_virtual X312 hx (y := (⟨"java/lang/String", "length", "()I"⟩ : MethodName)) (z := (⟨"java/lang/String", "length", "()I"⟩ : MethodName)) hown (mvT hZ (own_w hw 115 rfl)) (mvT hZ (own_w hw 116 rfl)) (notFace_of_selects (args := #[]) (mvT hZ (own_w hw 118 rfl))) (mvT hZ (own_w hw 118 rfl)) (mvT hZ (own_w hw 117 rfl)) (by decide) (backOf (W := 4) (own_rmLN_3 l Z a0 hw [] G1 sx tx h0 n0 (Nat.le_trans Z0 KP.1) OL SL O2 P5) hZ (own_w hw 119 rfl) (own_w hw 6 rfl) (by decide) (by decide)) q313a q313c (g := (mkF m 28 #[rv tk, rv pv] [(.ref sx), (.int (0 : Int32)), (.ref sx), (.int c0), (.int c1)])) rfl (by rw [hml]; rfl) (argsL := []) (rest := [(.int (0 : Int32)), (.ref sx), (.int c0), (.int c1)]) (lenOf own_pd14 rfl) rfl (by show 2 * 0 + _ ≤ _; exact Nat.le_of_eq rfl) (hb hby own_d474) rfl e312 (kc := 0) (ks := 0) rfl rfl (by decide) (by decide)
    obtain ⟨rfl, N313q, e313⟩ := hQ313
    have N313 := Fr.app N0 N313q
    refine own_via (mkF m 31 #[rv tk, rv pv] [(.int (3 : Int32)), (.int (0 : Int32)), (.ref sx), (.int c0), (.int c1)]) st313 ?_
    obtain ⟨cq314, kq314, q314a, q314b, q314c⟩ := isOf hZ e313 SL.exa
    obtain ⟨_, T314, Lc314, X314, hQ314, st314⟩ := own_virtual X313 hx (y := (⟨"java/lang/String", "codePointCount", "(II)I"⟩ : MethodName)) (z := (⟨"java/lang/String", "codePointCount", "(II)I"⟩ : MethodName)) hown (mvT hZ (own_w hw 125 rfl)) (mvT hZ (own_w hw 126 rfl)) (notFace_of_selects (args := #[]) (mvT hZ (own_w hw 128 rfl))) (mvT hZ (own_w hw 128 rfl)) (mvT hZ (own_w hw 127 rfl)) (by decide) (backOf (W := 2) (own_rmCP_3 l Z a0 hw [] x0 x1 x2 G1 sx tx kx h0 n0 (Nat.le_trans Z0 KP.1) OL hx0 hx1 hx2 SS O2 P5 OAD OHI OLO) hZ (own_w hw 129 rfl) (own_w hw 6 rfl) (by decide) (by decide)) q314a q314c (g := (mkF m 31 #[rv tk, rv pv] [(.int (3 : Int32)), (.int (0 : Int32)), (.ref sx), (.int c0), (.int c1)])) rfl (by rw [hml]; rfl) (argsL := [(.int (0 : Int32)), (.int (3 : Int32))]) (rest := [(.int c0), (.int c1)]) (lenOf own_pd18 rfl) rfl (by show 2 * 0 + _ ≤ _; exact Nat.le_of_eq rfl) (hb hby own_d475) rfl e313 (kc := 0) (ks := 0) rfl rfl (by decide) (by decide)
    obtain ⟨rr, rfl, hrr, N314q, e314⟩ := hQ314
    have N314 := Fr.app N313 N314q
    refine own_via (mkF m 34 #[rv tk, rv pv] [(.int rr), (.int c0), (.int c1)]) st314 ?_
    refine own_iadd 35 X314 hx (hb hby own_d476) rfl rfl ?_
    by_cases hc : c1 = (c0 + rr)
    · refine own_icN 38 X314 hx (hb hby own_d477) (teq hc).2 rfl ?_
      refine own_ic 39 1 X314 hx (hb hby own_d478) rfl rfl ?_
      refine own_go 43 X314 hx (hb hby own_d479) (by decide) (by decide) ?_
      exact own_retN X314 hx (t := .boolean) Bd.returns (by simp) hlk (hb hby own_d464) (by decide) (by decide) (by rw [e314]; exact ⟨_, rfl, Or.inl ⟨rfl, hl, rr, hrr, hc⟩, N314, rfl⟩)
    · refine own_icY 42 X314 hx (hb hby own_d477) (feq hc).2 (by decide) (by decide) ?_
      refine own_ic 43 0 X314 hx (hb hby own_d463) rfl rfl ?_
      exact own_retN X314 hx (t := .boolean) Bd.returns (by simp) hlk (hb hby own_d464) (by decide) (by decide) (by rw [e314]; exact ⟨_, rfl, Or.inr ⟨rfl, Or.inr ⟨rr, hrr, hc⟩⟩, N314, rfl⟩)
  · refine own_icY 42 X308 hx (hb hby own_d462) (feq hl).2 (by decide) (by decide) ?_
    refine own_ic 43 0 X308 hx (hb hby own_d463) rfl rfl ?_
    exact own_retN X308 hx (t := .boolean) Bd.returns (by simp) hlk (hb hby own_d464) (by decide) (by decide) (by rw [e308]; exact ⟨_, rfl, Or.inr ⟨rfl, Or.inl hl⟩, N0, rfl⟩)
def own_Q0 (Z : State) (p0 p1 p2 p3 p4 p5 G1 : Int32) (aI aS aN aY aE : Addr) (h0 : Heap) (n0 : Nat) (v : Option Value) (h : Heap) (L : List Loc) : Prop := v = some (.int 1) ∧ Fr n0 L
set_option maxRecDepth 65536 in
set_option maxHeartbeats 40000000 in
theorem own_rm0 (l : Launch) (Z : State) (a0 : Array Value) (hw : ∀ d ∈ tables_1, d.before a0 Z = true) (ws : List Jvm.Cond) (p0 p1 p2 p3 p4 p5 G1 : Int32) (aI aS aN aY aE : Addr) (h0 : Heap) (n0 : Nat) (Z0 : n0 ≤ h0.size) (OL : Old Z n0 h0) (O2 : Sta Z Z.heap "java/lang/String" "COMPACT_STRINGS" "Z" (.int G1)) (P5 : ¬ (G1 = (0 : Int32))) (OAD : Sta Z Z.heap "java/lang/StringUTF16" "$assertionsDisabled" "Z" (.int (1 : Int32))) (OHI : Sta Z Z.heap "java/lang/StringUTF16" "HI_BYTE_SHIFT" "I" (.int (0 : Int32))) (OLO : Sta Z Z.heap "java/lang/StringUTF16" "LO_BYTE_SHIFT" "I" (.int (8 : Int32))) (SaI : Sta Z Z.heap "com/example/ianus/ianus/Token$Kind" "IDENTIFIER" "Lcom/example/ianus/ianus/Token$Kind;" (.ref aI)) (SaS : Sta Z Z.heap "com/example/ianus/ianus/Token$Kind" "STRING" "Lcom/example/ianus/ianus/Token$Kind;" (.ref aS)) (SaN : Sta Z Z.heap "com/example/ianus/ianus/Token$Kind" "NUMBER" "Lcom/example/ianus/ianus/Token$Kind;" (.ref aN)) (SaY : Sta Z Z.heap "com/example/ianus/ianus/Token$Kind" "SYMBOL" "Lcom/example/ianus/ianus/Token$Kind;" (.ref aY)) (SaE : Sta Z Z.heap "com/example/ianus/ianus/Token$Kind" "END" "Lcom/example/ianus/ianus/Token$Kind;" (.ref aE)) :
    MetFree l x (head1 (Jvm.Cond.code x code maxLocals ret :: ws) room_1) (fun aa_ U => aa_ = #[(.int p0), (.int p1), (.int p2), (.int p3), (.int p4), (.int p5)] ∧ Z.Warmed39 U.vm ∧ U.heap = h0 ∧ CHv Z own_EL U.vm h0) (fun _ _ _ _ _ => True) (fun _ U o U' => ∃ v L, o = .returned v ∧ own_Q0 Z p0 p1 p2 p3 p4 p5 G1 aI aS aN aY aE h0 n0 v U'.heap L ∧ CHr Z own_EL U.vm U.heap U'.vm U'.heap ∧ ReturnedEndW U o U' L room_1.cells room_1.slots) := by
  refine MetFree.of_bodySF (plainFor_of_name own_pn3) hisR ?_
  intro p e s m args below meth c s₁ Bd hml0 hP hK
  obtain ⟨rfl, hZ, hh, CH⟩ := hP
  have hx := Bd.exec
  have hby := Bd.bytes
  have hlk : meth.locks = false := BodyLoose.notSynchronized Bd
  have hml : c.maxLocals = 20 := hml0
  have hown : s.vm.findClass "com/example/ianus/ianus/TokenFollowsPinLaw" = some m.cls := findClass_of_methodNamed Bd.named
  have hnm := (name_of_methodNamed Bd.named Bd.method).1
  have X0 : Stand p l e room_1 s m #[(.int p0), (.int p1), (.int p2), (.int p3), (.int p4), (.int p5)] below meth c s₁ [] 0 0 := Stand.of_body Bd
  have e0 : s₁.heap = h0 := by rw [← hh, Bd.state]; rfl
  have N0 := Fr.nil n0
  have KP : Keep h0 h0 [] := Keep.refl _ _
  have hS : s.Since s.vm 0 := (State.WarmedH.refl s).since 0
  have hk1 : 0 ≤ h0.size := Nat.zero_le _
  have CHR : CHr Z own_EL s.vm h0 s.vm h0 := CHr.refl CH
  have hEW : EW Z a0 own_EL := own_EWof hw
  have hwsS : ∀ d ∈ Bundle.stringAtoms, d.before a0 Z = true := fun d hd => hw d (own_wS d hd)
  refine own_start (Fin := (own_FinH Z s (own_Q0 Z p0 p1 p2 p3 p4 p5 G1 aI aS aN aY aE h0 n0) room_1.cells room_1.slots)) (own_from (mkF m 0 #[iv p0, iv p1, iv p2, iv p3, iv p4, iv p5, .unset, .unset, .unset, .unset, .unset, .unset, .unset, .unset, .unset, .unset, .unset, .unset, .unset, .unset] []) (castTop (own_ef_0 m p0 p1 p2 p3 p4 p5)) ?_)
  refine own_il 2 X0 hx (hb hby at_0) rfl rfl ?_
  refine own_ic 3 3 X0 hx (hb hby at_2) rfl rfl ?_
  refine own_iand 4 X0 hx (hb hby at_3) rfl rfl ?_
  generalize hnn : (p5 &&& (3 : Int32)) = nn
  have h4nn := own_r4 _ hnn
  refine own_is 6 #[iv p0, iv p1, iv p2, iv p3, iv p4, iv p5, iv nn, .unset, .unset, .unset, .unset, .unset, .unset, .unset, .unset, .unset, .unset, .unset, .unset, .unset] X0 hx (hb hby at_4) rfl rfl ?_
  refine own_il 8 X0 hx (hb hby at_6) rfl rfl ?_
  refine own_ic 9 2 X0 hx (hb hby at_8) rfl rfl ?_
  refine own_iushr 10 X0 hx (hb hby at_9) rfl rfl ?_
  refine own_ic 11 3 X0 hx (hb hby at_10) rfl rfl ?_
  refine own_iand 12 X0 hx (hb hby at_11) rfl rfl ?_
  refine own_il 14 X0 hx (hb hby at_12) rfl rfl ?_
  refine own_si 17 255 X0 hx (hb hby at_14) rfl rfl ?_
  refine own_iand 18 X0 hx (hb hby at_17) rfl rfl ?_
  generalize hdk0 : (((p5.toUInt32 >>> ((2 : Int32) &&& 31).toUInt32).toInt32) &&& (3 : Int32)) = dk0
  generalize hdv0 : (p4 &&& (255 : Int32)) = dv0
  obtain ⟨_, T315, Lc315, X315, hQ315, st315⟩ := own_callS X0 hx (y := (⟨"com/example/ianus/ianus/TokenFollowsPinLaw", "draw", "(II)C"⟩ : MethodName)) hown (mvT hZ (own_w hw 0 rfl)) (mvT hZ (own_w hw 1 rfl)) (mvT hZ (own_w hw 2 rfl)) (mvT hZ (own_w hw 3 rfl)) (by decide) (backOf (W := 0) (own_rmDR l Z a0 hw [] dk0 dv0 h0 n0 (Nat.le_trans Z0 KP.1) OL ) hZ (own_w hw 3 rfl) (own_w hw 2 rfl) (by decide) (by decide)) (g := (mkF m 18 #[iv p0, iv p1, iv p2, iv p3, iv p4, iv p5, iv nn, .unset, .unset, .unset, .unset, .unset, .unset, .unset, .unset, .unset, .unset, .unset, .unset, .unset] [(.int dv0), (.int dk0)])) rfl (by rw [hml]; rfl) (argsL := [(.int dk0), (.int dv0)]) (rest := []) (lenOf own_pd19 rfl) rfl (by show 2 * 0 + _ ≤ _; exact Nat.le_of_eq rfl) (hb hby at_18) rfl e0 (kc := 0) (ks := 0) rfl rfl (by decide) (by decide)
  obtain ⟨y0, rfl, c16_y0, N315q, e315⟩ := hQ315
  have N315 := Fr.app N0 N315q
  refine own_to (mkF m 21 #[iv p0, iv p1, iv p2, iv p3, iv p4, iv p5, iv nn, .unset, .unset, .unset, .unset, .unset, .unset, .unset, .unset, .unset, .unset, .unset, .unset, .unset] [(.int y0)]) st315 ?_
  refine own_is 23 #[iv p0, iv p1, iv p2, iv p3, iv p4, iv p5, iv nn, iv y0, .unset, .unset, .unset, .unset, .unset, .unset, .unset, .unset, .unset, .unset, .unset, .unset] X315 hx (hb hby at_21) rfl rfl ?_
  refine own_il 25 X315 hx (hb hby at_23) rfl rfl ?_
  refine own_ic 26 4 X315 hx (hb hby at_25) rfl rfl ?_
  refine own_iushr 27 X315 hx (hb hby at_26) rfl rfl ?_
  refine own_ic 28 3 X315 hx (hb hby at_27) rfl rfl ?_
  refine own_iand 29 X315 hx (hb hby at_28) rfl rfl ?_
  refine own_il 31 X315 hx (hb hby at_29) rfl rfl ?_
  refine own_bi 33 8 X315 hx (hb hby at_31) rfl rfl ?_
  refine own_iushr 34 X315 hx (hb hby at_33) rfl rfl ?_
  refine own_si 37 255 X315 hx (hb hby at_34) rfl rfl ?_
  refine own_iand 38 X315 hx (hb hby at_37) rfl rfl ?_
  generalize hdk1 : (((p5.toUInt32 >>> ((4 : Int32) &&& 31).toUInt32).toInt32) &&& (3 : Int32)) = dk1
  generalize hdv1 : (((p4.toUInt32 >>> ((8 : Int32) &&& 31).toUInt32).toInt32) &&& (255 : Int32)) = dv1
  obtain ⟨_, T316, Lc316, X316, hQ316, st316⟩ := own_callS X315 hx (y := (⟨"com/example/ianus/ianus/TokenFollowsPinLaw", "draw", "(II)C"⟩ : MethodName)) hown (mvT hZ (own_w hw 0 rfl)) (mvT hZ (own_w hw 1 rfl)) (mvT hZ (own_w hw 2 rfl)) (mvT hZ (own_w hw 3 rfl)) (by decide) (backOf (W := 0) (own_rmDR l Z a0 hw [] dk1 dv1 h0 n0 (Nat.le_trans Z0 KP.1) OL ) hZ (own_w hw 3 rfl) (own_w hw 2 rfl) (by decide) (by decide)) (g := (mkF m 38 #[iv p0, iv p1, iv p2, iv p3, iv p4, iv p5, iv nn, iv y0, .unset, .unset, .unset, .unset, .unset, .unset, .unset, .unset, .unset, .unset, .unset, .unset] [(.int dv1), (.int dk1)])) rfl (by rw [hml]; rfl) (argsL := [(.int dk1), (.int dv1)]) (rest := []) (lenOf own_pd19 rfl) rfl (by show 2 * 0 + _ ≤ _; exact Nat.le_of_eq rfl) (hb hby at_38) rfl e315 (kc := 0) (ks := 0) rfl rfl (by decide) (by decide)
  obtain ⟨y1, rfl, c16_y1, N316q, e316⟩ := hQ316
  have N316 := Fr.app N315 N316q
  refine own_to (mkF m 41 #[iv p0, iv p1, iv p2, iv p3, iv p4, iv p5, iv nn, iv y0, .unset, .unset, .unset, .unset, .unset, .unset, .unset, .unset, .unset, .unset, .unset, .unset] [(.int y1)]) st316 ?_
  refine own_is 43 #[iv p0, iv p1, iv p2, iv p3, iv p4, iv p5, iv nn, iv y0, iv y1, .unset, .unset, .unset, .unset, .unset, .unset, .unset, .unset, .unset, .unset, .unset] X316 hx (hb hby at_41) rfl rfl ?_
  refine own_il 45 X316 hx (hb hby at_43) rfl rfl ?_
  refine own_bi 47 6 X316 hx (hb hby at_45) rfl rfl ?_
  refine own_iushr 48 X316 hx (hb hby at_47) rfl rfl ?_
  refine own_ic 49 3 X316 hx (hb hby at_48) rfl rfl ?_
  refine own_iand 50 X316 hx (hb hby at_49) rfl rfl ?_
  refine own_il 52 X316 hx (hb hby at_50) rfl rfl ?_
  refine own_bi 54 16 X316 hx (hb hby at_52) rfl rfl ?_
  refine own_iushr 55 X316 hx (hb hby at_54) rfl rfl ?_
  refine own_si 58 255 X316 hx (hb hby at_55) rfl rfl ?_
  refine own_iand 59 X316 hx (hb hby at_58) rfl rfl ?_
  generalize hdk2 : (((p5.toUInt32 >>> ((6 : Int32) &&& 31).toUInt32).toInt32) &&& (3 : Int32)) = dk2
  generalize hdv2 : (((p4.toUInt32 >>> ((16 : Int32) &&& 31).toUInt32).toInt32) &&& (255 : Int32)) = dv2
  obtain ⟨_, T317, Lc317, X317, hQ317, st317⟩ := own_callS X316 hx (y := (⟨"com/example/ianus/ianus/TokenFollowsPinLaw", "draw", "(II)C"⟩ : MethodName)) hown (mvT hZ (own_w hw 0 rfl)) (mvT hZ (own_w hw 1 rfl)) (mvT hZ (own_w hw 2 rfl)) (mvT hZ (own_w hw 3 rfl)) (by decide) (backOf (W := 0) (own_rmDR l Z a0 hw [] dk2 dv2 h0 n0 (Nat.le_trans Z0 KP.1) OL ) hZ (own_w hw 3 rfl) (own_w hw 2 rfl) (by decide) (by decide)) (g := (mkF m 59 #[iv p0, iv p1, iv p2, iv p3, iv p4, iv p5, iv nn, iv y0, iv y1, .unset, .unset, .unset, .unset, .unset, .unset, .unset, .unset, .unset, .unset, .unset] [(.int dv2), (.int dk2)])) rfl (by rw [hml]; rfl) (argsL := [(.int dk2), (.int dv2)]) (rest := []) (lenOf own_pd19 rfl) rfl (by show 2 * 0 + _ ≤ _; exact Nat.le_of_eq rfl) (hb hby at_59) rfl e316 (kc := 0) (ks := 0) rfl rfl (by decide) (by decide)
  obtain ⟨y2, rfl, c16_y2, N317q, e317⟩ := hQ317
  have N317 := Fr.app N316 N317q
  refine own_to (mkF m 62 #[iv p0, iv p1, iv p2, iv p3, iv p4, iv p5, iv nn, iv y0, iv y1, .unset, .unset, .unset, .unset, .unset, .unset, .unset, .unset, .unset, .unset, .unset] [(.int y2)]) st317 ?_
  refine own_is 64 #[iv p0, iv p1, iv p2, iv p3, iv p4, iv p5, iv nn, iv y0, iv y1, iv y2, .unset, .unset, .unset, .unset, .unset, .unset, .unset, .unset, .unset, .unset] X317 hx (hb hby at_62) rfl rfl ?_
  obtain ⟨T318, h318, X318, e318, E318, A318, D318, -, st318⟩ := newO X317 hx hZ hown (own_w hw 4 rfl) (own_w hw 5 rfl) (own_w hw 6 rfl) e317 (g := (mkF m 64 #[iv p0, iv p1, iv p2, iv p3, iv p4, iv p5, iv nn, iv y0, iv y1, iv y2, .unset, .unset, .unset, .unset, .unset, .unset, .unset, .unset, .unset, .unset] [])) rfl (hb hby at_64) (by decide) (by decide)
  obtain ⟨b318, g318⟩ : ∃ z, z = h0.size := ⟨_, rfl⟩
  rw [← g318] at A318 D318 st318
  have sz_b318 : h0.size ≤ b318 := Nat.le_trans KP.1 (Nat.le_of_eq g318.symm)
  have ge_b318 : n0 ≤ b318 := Nat.le_trans Z0 sz_b318
  have CHR := CHR.trans (CHr.ext E318 CH)
  have CH := CH.ext E318
  have OL := OL.ext E318
  have KP := KP.ext E318
  have hk1 := Nat.le_trans hk1 E318.1
  have E_b318 : Exa Z h318 b318 "java/lang/String" := A318
  have F_coder_b318 : Fld Z h318 b318 "java/lang/String" "coder" "B" (.int (0 : Int32)) := D318 (Or.inr (own_w hw 34 rfl)) (ty := .byte) (by decide)
  have F_value_b318 : Fld Z h318 b318 "java/lang/String" "value" "[B" .null := D318 (Or.inr (own_w hw 36 rfl)) (ty := (.array .byte)) (by decide)
  refine own_to (mkF m 67 #[iv p0, iv p1, iv p2, iv p3, iv p4, iv p5, iv nn, iv y0, iv y1, iv y2, .unset, .unset, .unset, .unset, .unset, .unset, .unset, .unset, .unset, .unset] [(.ref b318)]) st318 ?_
  refine own_dup 68 X318 hx (hb hby at_67) rfl rfl ?_
  refine own_il 70 X318 hx (hb hby at_68) rfl rfl ?_
  refine own_il 72 X318 hx (hb hby at_70) rfl rfl ?_
  refine own_il 74 X318 hx (hb hby at_72) rfl rfl ?_
  refine own_il 76 X318 hx (hb hby at_74) rfl rfl ?_
  rcases h4nn with q | q | q | q
  · subst q
    have KP0 := KP
    have lt0_b318 := E_b318.lt
    obtain ⟨_, T319, Lc319, X319, hQ319, st319⟩ := own_callS X318 hx (y := (⟨"com/example/ianus/ianus/TokenFollowsPinLaw", "pick", "(ICCC)[C"⟩ : MethodName)) hown (mvT hZ (own_w hw 7 rfl)) (mvT hZ (own_w hw 8 rfl)) (mvT hZ (own_w hw 2 rfl)) (mvT hZ (own_w hw 9 rfl)) (by decide) (backOf (W := 2) (own_rmPK_0 l Z a0 hw [] y0 y1 y2 h318 n0 (Nat.le_trans Z0 KP.1) OL c16_y0 c16_y1 c16_y2) hZ (own_w hw 9 rfl) (own_w hw 2 rfl) (by decide) (by decide)) (g := (mkF m 76 #[iv p0, iv p1, iv p2, iv p3, iv p4, iv p5, iv 0, iv y0, iv y1, iv y2, .unset, .unset, .unset, .unset, .unset, .unset, .unset, .unset, .unset, .unset] [(.int y2), (.int y1), (.int y0), (.int (0 : Int32)), (.ref b318), (.ref b318)])) rfl (by rw [hml]; rfl) (argsL := [(.int (0 : Int32)), (.int y0), (.int y1), (.int y2)]) (rest := [(.ref b318), (.ref b318)]) (lenOf own_pd20 rfl) rfl (by show 2 * 0 + _ ≤ _; exact Nat.le_of_eq rfl) (hb hby at_76) rfl e318 (kc := 2) (ks := 4) rfl rfl (by decide) (by decide)
    obtain ⟨ar, kar, rfl, N319q, K319, ge_ar, sz0_ar, V_ar⟩ := hQ319
    have N319 := Fr.app N317 N319q
    have CHR := CHR.trans (CHr.keep K319 sf0 CH)
    have CH := CH.keep K319 sf0
    have OL := OL.keep K319 all0
    have KP := KP.trans K319 all0
    have hk1 := Nat.le_trans hk1 K319.1
    have E_b318 := E_b318.keep K319
    have F_coder_b318 := F_coder_b318.keep K319 nin0
    have F_value_b318 := F_value_b318.keep K319 nin0
    refine own_to (mkF m 79 #[iv p0, iv p1, iv p2, iv p3, iv p4, iv p5, iv 0, iv y0, iv y1, iv y2, .unset, .unset, .unset, .unset, .unset, .unset, .unset, .unset, .unset, .unset] [(.ref ar), (.ref b318), (.ref b318)]) st319 ?_
    have sz_ar : h0.size ≤ ar := Nat.le_trans KP0.1 sz0_ar
    have ne_b318_ar : b318 ≠ ar := Nat.ne_of_lt (Nat.lt_of_lt_of_le lt0_b318 sz0_ar)
    obtain ⟨_, _, ⟨T320, L320, k320, n320⟩, -, X320, hS320, gr320, ⟨Lc320, hQ320, l320, y320, z320, CR320⟩, st320⟩ := Stand.specialBackS (s := s.setVm s.vm) X319 hx (y := (⟨"java/lang/String", "<init>", "([C)V"⟩ : MethodName)) rfl hown (mvT hZ (own_w hw 11 rfl)) (mvT hZ (own_w hw 12 rfl)) (mvT hZ (own_w hw 13 rfl)) (by decide) (backOfSH (s := s) (vm0 := s.vm) (W := 1) (own_rmI1_0 l Z a0 hw [] b318 ar kar T319.heap n0 (Nat.le_trans Z0 KP.1) OL ge_b318 E_b318 F_value_b318 F_coder_b318 V_ar) hZ (own_w hw 13 rfl) (own_w hw 6 rfl) (by decide) (by decide) hEW CH) (g := (mkF m 79 #[iv p0, iv p1, iv p2, iv p3, iv p4, iv p5, iv 0, iv y0, iv y1, iv y2, .unset, .unset, .unset, .unset, .unset, .unset, .unset, .unset, .unset, .unset] [(.ref ar), (.ref b318), (.ref b318)])) rfl (by rw [hml]; rfl) (Steps.refl _) (a := b318) (argsL := [(.ref ar)]) (rest := [(.ref b318)]) (lenOf own_pd21 rfl) rfl (by show 2 * 0 + _ ≤ _; exact Nat.le_of_eq rfl) (hb hby at_79) (fun _ _ => ⟨rfl, rfl, (by decide : 2 + 4 ≤ _), (by decide : 4 + 8 ≤ _)⟩)
    dsimp only [Pt.U, Pt.locs, Pt.cells, Pt.slots] at X320 hS320 gr320 l320 y320 z320 CR320 st320 hQ320
    subst l320 y320 z320
    obtain ⟨rfl, N320q, K320, t_px, kb_px, S_px⟩ := hQ320
    have N320 := Fr.app N319 N320q
    obtain ⟨X320, hS, hZ, hown⟩ := rebS hS (hk1 : _ ≤ (T319.heap).size) X320 hS320 (gr320) hZ hown
    have OL := OL.keep K320 (allS ge_b318 all0)
    have KP := KP.trans K320 (allS (Or.inr sz_b318) all0)
    have E_b318 := E_b318.keep K320
    have V_ar := V_ar.keep K320 (ninS (Ne.symm ne_b318_ar) nin0)
    have hk1 : T320.heap.size ≤ T320.heap.size := Nat.le_refl _
    have CHR := CHR.trans CR320
    have CH := CR320.1
    have X320 : Stand p l e room_1 (s.setVm T320.vm) m #[(.int p0), (.int p1), (.int p2), (.int p3), (.int p4), (.int p5)] below meth c T320 _ 6 12 := X320
    refine own_via (mkF m 82 #[iv p0, iv p1, iv p2, iv p3, iv p4, iv p5, iv 0, iv y0, iv y1, iv y2, .unset, .unset, .unset, .unset, .unset, .unset, .unset, .unset, .unset, .unset] [(.ref b318)]) st320 ?_
    have SS : own_S0 Z T320.heap b318 t_px kb_px  := Or.inl ⟨rfl, S_px.1, S_px.2.1, S_px.2.2.1, S_px.2.2.2.1⟩
    refine own_as 84 #[iv p0, iv p1, iv p2, iv p3, iv p4, iv p5, iv 0, iv y0, iv y1, iv y2, rv b318, .unset, .unset, .unset, .unset, .unset, .unset, .unset, .unset, .unset] X320 hx (hb hby at_82) rfl rfl rfl ?_
    refine own_ic 85 0 X320 hx (hb hby at_84) rfl rfl ?_
    refine own_is 87 #[iv p0, iv p1, iv p2, iv p3, iv p4, iv p5, iv 0, iv y0, iv y1, iv y2, rv b318, iv 0, .unset, .unset, .unset, .unset, .unset, .unset, .unset, .unset] X320 hx (hb hby at_85) rfl rfl ?_
    refine own_il 89 X320 hx (hb hby at_87) rfl rfl ?_
    refine own_ic 90 2 X320 hx (hb hby at_89) rfl rfl ?_
    refine own_icY 115 X320 hx (hb hby at_90) (tlt (by decide : (0 : Int32) < (2 : Int32))).1 (by decide) (by decide) ?_
    refine own_il 117 X320 hx (hb hby at_115) rfl rfl ?_
    refine own_ic 118 3 X320 hx (hb hby at_117) rfl rfl ?_
    refine own_icY 143 X320 hx (hb hby at_118) (tlt (by decide : (0 : Int32) < (3 : Int32))).1 (by decide) (by decide) ?_
    refine own_il 145 X320 hx (hb hby at_143) rfl rfl ?_
    refine own_il 147 X320 hx (hb hby at_145) rfl rfl ?_
    refine own_isub 148 X320 hx (hb hby at_147) (z := (0 : Int32)) rfl rfl ?_
    refine own_is 150 #[iv p0, iv p1, iv p2, iv p3, iv p4, iv p5, iv 0, iv y0, iv y1, iv y2, rv b318, iv 0, iv 0, .unset, .unset, .unset, .unset, .unset, .unset, .unset] X320 hx (hb hby at_148) rfl rfl ?_
    refine own_il 152 X320 hx (hb hby at_150) rfl rfl ?_
    refine own_bi 154 8 X320 hx (hb hby at_152) rfl rfl ?_
    refine own_iushr 155 X320 hx (hb hby at_154) rfl rfl ?_
    refine own_ic 156 1 X320 hx (hb hby at_155) rfl rfl ?_
    refine own_iand 157 X320 hx (hb hby at_156) rfl rfl ?_
    suffices jn321 : ∀ tl : Int32, ((((p5.toUInt32 >>> ((8 : Int32) &&& 31).toUInt32).toInt32) &&& (1 : Int32)) = (0 : Int32) → tl = p1) → (¬ (((p5.toUInt32 >>> ((8 : Int32) &&& 31).toUInt32).toInt32) &&& (1 : Int32)) = (0 : Int32) → tl = p0) → own_E p e below (own_FinH Z s (own_Q0 Z p0 p1 p2 p3 p4 p5 G1 aI aS aN aY aE h0 n0) room_1.cells room_1.slots) T320 (mkF m 165 #[iv p0, iv p1, iv p2, iv p3, iv p4, iv p5, iv 0, iv y0, iv y1, iv y2, rv b318, iv 0, iv 0, .unset, .unset, .unset, .unset, .unset, .unset, .unset] [(.int tl)]) from by
      by_cases hf8 : (((p5.toUInt32 >>> ((8 : Int32) &&& 31).toUInt32).toInt32) &&& (1 : Int32)) = (0 : Int32)
      · refine own_ifY 164 X320 hx (hb hby at_157) ((if0 _ _).trans (teq hf8).1) (by decide) (by decide) ?_
        refine own_iln 165 X320 hx (hb hby at_164) rfl rfl ?_
        exact jn321 p1 (fun _ => rfl) (fun q => absurd hf8 q)
      · refine own_ifN 160 X320 hx (hb hby at_157) ((if0 _ _).trans (feq hf8).1) rfl ?_
        refine own_iln 161 X320 hx (hb hby at_160) rfl rfl ?_
        refine own_go 165 X320 hx (hb hby at_161) (by decide) (by decide) ?_
        exact jn321 p0 (fun q => absurd q hf8) (fun _ => rfl)
    intro tl htlt htlf
    refine own_is 167 #[iv p0, iv p1, iv p2, iv p3, iv p4, iv p5, iv 0, iv y0, iv y1, iv y2, rv b318, iv 0, iv 0, iv tl, .unset, .unset, .unset, .unset, .unset, .unset] X320 hx (hb hby at_165) rfl rfl ?_
    refine own_il 169 X320 hx (hb hby at_167) rfl rfl ?_
    refine own_bi 171 10 X320 hx (hb hby at_169) rfl rfl ?_
    refine own_iushr 172 X320 hx (hb hby at_171) rfl rfl ?_
    refine own_ic 173 3 X320 hx (hb hby at_172) rfl rfl ?_
    refine own_iand 174 X320 hx (hb hby at_173) rfl rfl ?_
    refine own_ic 175 1 X320 hx (hb hby at_174) rfl rfl ?_
    refine own_isub 176 X320 hx (hb hby at_175) rfl rfl ?_
    refine own_is 178 #[iv p0, iv p1, iv p2, iv p3, iv p4, iv p5, iv 0, iv y0, iv y1, iv y2, rv b318, iv 0, iv 0, iv tl, iv ((((p5.toUInt32 >>> ((10 : Int32) &&& 31).toUInt32).toInt32) &&& (3 : Int32)) - (1 : Int32)), .unset, .unset, .unset, .unset, .unset] X320 hx (hb hby at_176) rfl rfl ?_
    refine own_il 180 X320 hx (hb hby at_178) rfl rfl ?_
    refine own_bi 182 9 X320 hx (hb hby at_180) rfl rfl ?_
    refine own_iushr 183 X320 hx (hb hby at_182) rfl rfl ?_
    refine own_ic 184 1 X320 hx (hb hby at_183) rfl rfl ?_
    refine own_iand 185 X320 hx (hb hby at_184) rfl rfl ?_
    suffices jn322 : ∀ tc : Int32, ((((p5.toUInt32 >>> ((9 : Int32) &&& 31).toUInt32).toInt32) &&& (1 : Int32)) = (0 : Int32) → tc = p3) → (¬ (((p5.toUInt32 >>> ((9 : Int32) &&& 31).toUInt32).toInt32) &&& (1 : Int32)) = (0 : Int32) → tc = ((p2 + (0 : Int32)) + ((((p5.toUInt32 >>> ((10 : Int32) &&& 31).toUInt32).toInt32) &&& (3 : Int32)) - (1 : Int32)))) → own_E p e below (own_FinH Z s (own_Q0 Z p0 p1 p2 p3 p4 p5 G1 aI aS aN aY aE h0 n0) room_1.cells room_1.slots) T320 (mkF m 199 #[iv p0, iv p1, iv p2, iv p3, iv p4, iv p5, iv 0, iv y0, iv y1, iv y2, rv b318, iv 0, iv 0, iv tl, iv ((((p5.toUInt32 >>> ((10 : Int32) &&& 31).toUInt32).toInt32) &&& (3 : Int32)) - (1 : Int32)), .unset, .unset, .unset, .unset, .unset] [(.int tc)]) from by
      by_cases hf9 : (((p5.toUInt32 >>> ((9 : Int32) &&& 31).toUInt32).toInt32) &&& (1 : Int32)) = (0 : Int32)
      · refine own_ifY 198 X320 hx (hb hby at_185) ((if0 _ _).trans (teq hf9).1) (by decide) (by decide) ?_
        refine own_iln 199 X320 hx (hb hby at_198) rfl rfl ?_
        exact jn322 p3 (fun _ => rfl) (fun q => absurd hf9 q)
      · refine own_ifN 188 X320 hx (hb hby at_185) ((if0 _ _).trans (feq hf9).1) rfl ?_
        refine own_iln 189 X320 hx (hb hby at_188) rfl rfl ?_
        refine own_il 191 X320 hx (hb hby at_189) rfl rfl ?_
        refine own_iadd 192 X320 hx (hb hby at_191) rfl rfl ?_
        refine own_il 194 X320 hx (hb hby at_192) rfl rfl ?_
        refine own_iadd 195 X320 hx (hb hby at_194) rfl rfl ?_
        refine own_go 199 X320 hx (hb hby at_195) (by decide) (by decide) ?_
        exact jn322 ((p2 + (0 : Int32)) + ((((p5.toUInt32 >>> ((10 : Int32) &&& 31).toUInt32).toInt32) &&& (3 : Int32)) - (1 : Int32))) (fun q => absurd q hf9) (fun _ => rfl)
    intro tc htct htcf
    refine own_is 201 #[iv p0, iv p1, iv p2, iv p3, iv p4, iv p5, iv 0, iv y0, iv y1, iv y2, rv b318, iv 0, iv 0, iv tl, iv ((((p5.toUInt32 >>> ((10 : Int32) &&& 31).toUInt32).toInt32) &&& (3 : Int32)) - (1 : Int32)), iv tc, .unset, .unset, .unset, .unset] X320 hx (hb hby at_199) rfl rfl ?_
    refine own_il 203 X320 hx (hb hby at_201) rfl rfl ?_
    refine own_bi 205 24 X320 hx (hb hby at_203) rfl rfl ?_
    refine own_iushr 206 X320 hx (hb hby at_205) rfl rfl ?_
    refine own_si 209 255 X320 hx (hb hby at_206) rfl rfl ?_
    refine own_iand 210 X320 hx (hb hby at_209) rfl rfl ?_
    refine own_i2c 211 X320 hx (hb hby at_210) rfl rfl ?_
    generalize hvc : ((((p4.toUInt32 >>> ((24 : Int32) &&& 31).toUInt32).toInt32) &&& (255 : Int32)).toUInt32.toUInt16.toUInt32.toInt32) = vc
    have c8_vc : own_C8 vc := own_ch8 hvc
    obtain ⟨_, T323, Lc323, X323, hQ323, st323⟩ := own_callS X320 hx (y := (⟨"java/lang/String", "valueOf", "(C)Ljava/lang/String;"⟩ : MethodName)) hown (mvT hZ (own_w hw 41 rfl)) (mvT hZ (own_w hw 42 rfl)) (mvT hZ (own_w hw 6 rfl)) (mvT hZ (own_w hw 43 rfl)) (by decide) (backOf (W := 0) (own_rmVO l Z a0 hw [] vc G1 T320.heap n0 (Nat.le_trans Z0 KP.1) OL c8_vc.2 O2 P5) hZ (own_w hw 43 rfl) (own_w hw 6 rfl) (by decide) (by decide)) (g := (mkF m 211 #[iv p0, iv p1, iv p2, iv p3, iv p4, iv p5, iv 0, iv y0, iv y1, iv y2, rv b318, iv 0, iv 0, iv tl, iv ((((p5.toUInt32 >>> ((10 : Int32) &&& 31).toUInt32).toInt32) &&& (3 : Int32)) - (1 : Int32)), iv tc, .unset, .unset, .unset, .unset] [(.int vc)])) rfl (by rw [hml]; rfl) (argsL := [(.int vc)]) (rest := []) (lenOf own_pd22 rfl) rfl (by show 2 * 0 + _ ≤ _; exact Nat.le_of_eq rfl) (hb hby at_211) rfl rfl (kc := 8) (ks := 18) rfl rfl (by decide) (by decide)
    obtain ⟨vx, rfl, N323q, K323⟩ := hQ323
    have N323 := Fr.app N320 N323q
    have CHR := CHR.trans (CHr.keep K323 sf0 CH)
    have CH := CH.keep K323 sf0
    have OL := OL.keep K323 all0
    have KP := KP.trans K323 all0
    have hk1 := Nat.le_trans hk1 K323.1
    have SS := SS.keep K323 nin0 nin0
    refine own_to (mkF m 214 #[iv p0, iv p1, iv p2, iv p3, iv p4, iv p5, iv 0, iv y0, iv y1, iv y2, rv b318, iv 0, iv 0, iv tl, iv ((((p5.toUInt32 >>> ((10 : Int32) &&& 31).toUInt32).toInt32) &&& (3 : Int32)) - (1 : Int32)), iv tc, .unset, .unset, .unset, .unset] [(.ref vx)]) st323 ?_
    refine own_as 216 #[iv p0, iv p1, iv p2, iv p3, iv p4, iv p5, iv 0, iv y0, iv y1, iv y2, rv b318, iv 0, iv 0, iv tl, iv ((((p5.toUInt32 >>> ((10 : Int32) &&& 31).toUInt32).toInt32) &&& (3 : Int32)) - (1 : Int32)), iv tc, rv vx, .unset, .unset, .unset] X323 hx (hb hby at_214) rfl rfl rfl ?_
    obtain ⟨T324, h324, X324, e324, E324, A324, D324, -, st324⟩ := newO X323 hx hZ hown (own_w hw 55 rfl) (own_w hw 56 rfl) (own_w hw 57 rfl) rfl (g := (mkF m 216 #[iv p0, iv p1, iv p2, iv p3, iv p4, iv p5, iv 0, iv y0, iv y1, iv y2, rv b318, iv 0, iv 0, iv tl, iv ((((p5.toUInt32 >>> ((10 : Int32) &&& 31).toUInt32).toInt32) &&& (3 : Int32)) - (1 : Int32)), iv tc, rv vx, .unset, .unset, .unset] [])) rfl (hb hby at_216) (by decide) (by decide)
    obtain ⟨b324, g324⟩ : ∃ z, z = T323.heap.size := ⟨_, rfl⟩
    rw [← g324] at A324 D324 st324
    have sz_b324 : h0.size ≤ b324 := Nat.le_trans KP.1 (Nat.le_of_eq g324.symm)
    have ge_b324 : n0 ≤ b324 := Nat.le_trans Z0 sz_b324
    have ne_b318_b324 : b318 ≠ b324 := Nat.ne_of_lt (Nat.lt_of_lt_of_le SS.lt (Nat.le_of_eq g324.symm))
    have ne_t_px_b324 : t_px ≠ b324 := Nat.ne_of_lt (Nat.lt_of_lt_of_le SS.ltT (Nat.le_of_eq g324.symm))
    have CHR := CHR.trans (CHr.ext E324 CH)
    have CH := CH.ext E324
    have OL := OL.ext E324
    have KP := KP.ext E324
    have hk1 := Nat.le_trans hk1 E324.1
    have SS := SS.ext E324
    have E_b324 : Exa Z h324 b324 "com/example/ianus/ianus/Token" := A324
    have F_kind_b324 : Fld Z h324 b324 "com/example/ianus/ianus/Token" "kind" "Lcom/example/ianus/ianus/Token$Kind;" .null := D324 (Or.inr (own_w hw 69 rfl)) (ty := (.object "com/example/ianus/ianus/Token$Kind")) (by decide)
    have F_text_b324 : Fld Z h324 b324 "com/example/ianus/ianus/Token" "text" "Ljava/lang/String;" .null := D324 (Or.inr (own_w hw 71 rfl)) (ty := (.object "java/lang/String")) (by decide)
    have F_value_b324 : Fld Z h324 b324 "com/example/ianus/ianus/Token" "value" "Ljava/lang/String;" .null := D324 (Or.inr (own_w hw 73 rfl)) (ty := (.object "java/lang/String")) (by decide)
    have F_line_b324 : Fld Z h324 b324 "com/example/ianus/ianus/Token" "line" "I" (.int (0 : Int32)) := D324 (Or.inr (own_w hw 75 rfl)) (ty := .int) (by decide)
    have F_column_b324 : Fld Z h324 b324 "com/example/ianus/ianus/Token" "column" "I" (.int (0 : Int32)) := D324 (Or.inr (own_w hw 77 rfl)) (ty := .int) (by decide)
    refine own_to (mkF m 219 #[iv p0, iv p1, iv p2, iv p3, iv p4, iv p5, iv 0, iv y0, iv y1, iv y2, rv b318, iv 0, iv 0, iv tl, iv ((((p5.toUInt32 >>> ((10 : Int32) &&& 31).toUInt32).toInt32) &&& (3 : Int32)) - (1 : Int32)), iv tc, rv vx, .unset, .unset, .unset] [(.ref b324)]) st324 ?_
    refine own_dup 220 X324 hx (hb hby at_219) rfl rfl ?_
    refine own_il 222 X324 hx (hb hby at_220) rfl rfl ?_
    refine own_bi 224 12 X324 hx (hb hby at_222) rfl rfl ?_
    refine own_iushr 225 X324 hx (hb hby at_224) rfl rfl ?_
    refine own_bi 227 7 X324 hx (hb hby at_225) rfl rfl ?_
    refine own_iand 228 X324 hx (hb hby at_227) rfl rfl ?_
    generalize hkxP : (((p5.toUInt32 >>> ((12 : Int32) &&& 31).toUInt32).toInt32) &&& (7 : Int32)) = kxP
    obtain ⟨_, T325, Lc325, X325, hQ325, st325⟩ := own_callS X324 hx (y := (⟨"com/example/ianus/ianus/TokenFollowsPinLaw", "kindOf", "(I)Lcom/example/ianus/ianus/Token$Kind;"⟩ : MethodName)) hown (mvT hZ (own_w hw 58 rfl)) (mvT hZ (own_w hw 59 rfl)) (mvT hZ (own_w hw 2 rfl)) (mvT hZ (own_w hw 60 rfl)) (by decide) (backOf (W := 2) (own_rmKO l Z a0 hw [] kxP aI aS aN aY aE h324 n0 (Nat.le_trans Z0 KP.1) OL SaI SaS SaN SaY SaE) hZ (own_w hw 60 rfl) (own_w hw 2 rfl) (by decide) (by decide)) (g := (mkF m 228 #[iv p0, iv p1, iv p2, iv p3, iv p4, iv p5, iv 0, iv y0, iv y1, iv y2, rv b318, iv 0, iv 0, iv tl, iv ((((p5.toUInt32 >>> ((10 : Int32) &&& 31).toUInt32).toInt32) &&& (3 : Int32)) - (1 : Int32)), iv tc, rv vx, .unset, .unset, .unset] [(.int kxP), (.ref b324), (.ref b324)])) rfl (by rw [hml]; rfl) (argsL := [(.int kxP)]) (rest := [(.ref b324), (.ref b324)]) (lenOf own_pd23 rfl) rfl (by show 2 * 0 + _ ≤ _; exact Nat.le_of_eq rfl) (hb hby at_228) rfl e324 (kc := 9) (ks := 23) rfl rfl (by decide) (by decide)
    obtain ⟨akP, rfl, N325q, e325⟩ := hQ325
    have N325 := Fr.app N323 N325q
    refine own_to (mkF m 231 #[iv p0, iv p1, iv p2, iv p3, iv p4, iv p5, iv 0, iv y0, iv y1, iv y2, rv b318, iv 0, iv 0, iv tl, iv ((((p5.toUInt32 >>> ((10 : Int32) &&& 31).toUInt32).toInt32) &&& (3 : Int32)) - (1 : Int32)), iv tc, rv vx, .unset, .unset, .unset] [(.ref akP), (.ref b324), (.ref b324)]) st325 ?_
    refine own_al 233 X325 hx (hb hby at_231) rfl rfl rfl ?_
    refine own_al 235 X325 hx (hb hby at_233) rfl rfl rfl ?_
    refine own_iln 236 X325 hx (hb hby at_235) rfl rfl ?_
    refine own_iln 237 X325 hx (hb hby at_236) rfl rfl ?_
    obtain ⟨_, T326, Lc326, X326, hQ326, st326⟩ := own_special X325 hx (y := (⟨"com/example/ianus/ianus/Token", "<init>", "(Lcom/example/ianus/ianus/Token$Kind;Ljava/lang/String;Ljava/lang/String;II)V"⟩ : MethodName)) rfl hown (mvT hZ (own_w hw 64 rfl)) (mvT hZ (own_w hw 65 rfl)) (mvT hZ (own_w hw 66 rfl)) (by decide) (backOf (W := 1) (own_rmCT l Z a0 hw [] b324 akP b318 b318 p0 p2 h324 n0 (Nat.le_trans Z0 KP.1) OL ge_b324 E_b324 F_kind_b324 F_text_b324 F_value_b324 F_line_b324 F_column_b324) hZ (own_w hw 66 rfl) (own_w hw 57 rfl) (by decide) (by decide)) (g := (mkF m 237 #[iv p0, iv p1, iv p2, iv p3, iv p4, iv p5, iv 0, iv y0, iv y1, iv y2, rv b318, iv 0, iv 0, iv tl, iv ((((p5.toUInt32 >>> ((10 : Int32) &&& 31).toUInt32).toInt32) &&& (3 : Int32)) - (1 : Int32)), iv tc, rv vx, .unset, .unset, .unset] [(.int p2), (.int p0), (.ref b318), (.ref b318), (.ref akP), (.ref b324), (.ref b324)])) rfl (by rw [hml]; rfl) (a := b324) (argsL := [(.ref akP), (.ref b318), (.ref b318), (.int p0), (.int p2)]) (rest := [(.ref b324)]) (lenOf own_pd24 rfl) rfl (by show 2 * 0 + _ ≤ _; exact Nat.le_of_eq rfl) (hb hby at_237) rfl e325 (kc := 9) (ks := 23) rfl rfl (by decide) (by decide)
    obtain ⟨rfl, N326q, K326, Ek326, -, Ft326, Fl326, Fc326⟩ := hQ326
    have N326 := Fr.app N325 N326q
    have SFk : ∀ x ∈ [b324], Safe Z own_EL T320.vm h324 x := (sfS (Safe.exa hZ.alike E_b324 (by decide) (by decide)) sf0)
    have CHR := CHR.trans (CHr.keep K326 SFk CH)
    have CH := CH.keep K326 SFk
    have OL := OL.keep K326 (allS ge_b324 all0)
    have KP := KP.trans K326 (allS (Or.inr sz_b324) all0)
    have hk1 := Nat.le_trans hk1 K326.1
    have SS := SS.keep K326 (ninS ne_b318_b324 nin0) (ninS ne_t_px_b324 nin0)
    have E_b324 := E_b324.keep K326
    refine own_via (mkF m 240 #[iv p0, iv p1, iv p2, iv p3, iv p4, iv p5, iv 0, iv y0, iv y1, iv y2, rv b318, iv 0, iv 0, iv tl, iv ((((p5.toUInt32 >>> ((10 : Int32) &&& 31).toUInt32).toInt32) &&& (3 : Int32)) - (1 : Int32)), iv tc, rv vx, .unset, .unset, .unset] [(.ref b324)]) st326 ?_
    have EP : Exa Z T326.heap b324 "com/example/ianus/ianus/Token" := Ek326
    have FtP : Fld Z T326.heap b324 "com/example/ianus/ianus/Token" "text" "Ljava/lang/String;" (.ref b318) := Ft326
    have FlP : Fld Z T326.heap b324 "com/example/ianus/ianus/Token" "line" "I" (.int p0) := Fl326
    have FcP : Fld Z T326.heap b324 "com/example/ianus/ianus/Token" "column" "I" (.int p2) := Fc326
    refine own_as 242 #[iv p0, iv p1, iv p2, iv p3, iv p4, iv p5, iv 0, iv y0, iv y1, iv y2, rv b318, iv 0, iv 0, iv tl, iv ((((p5.toUInt32 >>> ((10 : Int32) &&& 31).toUInt32).toInt32) &&& (3 : Int32)) - (1 : Int32)), iv tc, rv vx, rv b324, .unset, .unset] X326 hx (hb hby at_240) rfl rfl rfl ?_
    obtain ⟨T327, h327, X327, e327, E327, A327, D327, -, st327⟩ := newO X326 hx hZ hown (own_w hw 55 rfl) (own_w hw 56 rfl) (own_w hw 57 rfl) rfl (g := (mkF m 242 #[iv p0, iv p1, iv p2, iv p3, iv p4, iv p5, iv 0, iv y0, iv y1, iv y2, rv b318, iv 0, iv 0, iv tl, iv ((((p5.toUInt32 >>> ((10 : Int32) &&& 31).toUInt32).toInt32) &&& (3 : Int32)) - (1 : Int32)), iv tc, rv vx, rv b324, .unset, .unset] [])) rfl (hb hby at_242) (by decide) (by decide)
    obtain ⟨b327, g327⟩ : ∃ z, z = T326.heap.size := ⟨_, rfl⟩
    rw [← g327] at A327 D327 st327
    have sz_b327 : h0.size ≤ b327 := Nat.le_trans KP.1 (Nat.le_of_eq g327.symm)
    have ge_b327 : n0 ≤ b327 := Nat.le_trans Z0 sz_b327
    have ne_b318_b327 : b318 ≠ b327 := Nat.ne_of_lt (Nat.lt_of_lt_of_le SS.lt (Nat.le_of_eq g327.symm))
    have ne_t_px_b327 : t_px ≠ b327 := Nat.ne_of_lt (Nat.lt_of_lt_of_le SS.ltT (Nat.le_of_eq g327.symm))
    have ne_b324_b327 : b324 ≠ b327 := Nat.ne_of_lt (Nat.lt_of_lt_of_le EP.lt (Nat.le_of_eq g327.symm))
    have CHR := CHR.trans (CHr.ext E327 CH)
    have CH := CH.ext E327
    have OL := OL.ext E327
    have KP := KP.ext E327
    have hk1 := Nat.le_trans hk1 E327.1
    have SS := SS.ext E327
    have EP := EP.ext E327
    have FtP := FtP.ext E327
    have FlP := FlP.ext E327
    have FcP := FcP.ext E327
    have E_b327 : Exa Z h327 b327 "com/example/ianus/ianus/Token" := A327
    have F_kind_b327 : Fld Z h327 b327 "com/example/ianus/ianus/Token" "kind" "Lcom/example/ianus/ianus/Token$Kind;" .null := D327 (Or.inr (own_w hw 69 rfl)) (ty := (.object "com/example/ianus/ianus/Token$Kind")) (by decide)
    have F_text_b327 : Fld Z h327 b327 "com/example/ianus/ianus/Token" "text" "Ljava/lang/String;" .null := D327 (Or.inr (own_w hw 71 rfl)) (ty := (.object "java/lang/String")) (by decide)
    have F_value_b327 : Fld Z h327 b327 "com/example/ianus/ianus/Token" "value" "Ljava/lang/String;" .null := D327 (Or.inr (own_w hw 73 rfl)) (ty := (.object "java/lang/String")) (by decide)
    have F_line_b327 : Fld Z h327 b327 "com/example/ianus/ianus/Token" "line" "I" (.int (0 : Int32)) := D327 (Or.inr (own_w hw 75 rfl)) (ty := .int) (by decide)
    have F_column_b327 : Fld Z h327 b327 "com/example/ianus/ianus/Token" "column" "I" (.int (0 : Int32)) := D327 (Or.inr (own_w hw 77 rfl)) (ty := .int) (by decide)
    refine own_to (mkF m 245 #[iv p0, iv p1, iv p2, iv p3, iv p4, iv p5, iv 0, iv y0, iv y1, iv y2, rv b318, iv 0, iv 0, iv tl, iv ((((p5.toUInt32 >>> ((10 : Int32) &&& 31).toUInt32).toInt32) &&& (3 : Int32)) - (1 : Int32)), iv tc, rv vx, rv b324, .unset, .unset] [(.ref b327)]) st327 ?_
    refine own_dup 246 X327 hx (hb hby at_245) rfl rfl ?_
    refine own_il 248 X327 hx (hb hby at_246) rfl rfl ?_
    refine own_bi 250 15 X327 hx (hb hby at_248) rfl rfl ?_
    refine own_iushr 251 X327 hx (hb hby at_250) rfl rfl ?_
    refine own_bi 253 7 X327 hx (hb hby at_251) rfl rfl ?_
    refine own_iand 254 X327 hx (hb hby at_253) rfl rfl ?_
    generalize hkxT : (((p5.toUInt32 >>> ((15 : Int32) &&& 31).toUInt32).toInt32) &&& (7 : Int32)) = kxT
    obtain ⟨_, T328, Lc328, X328, hQ328, st328⟩ := own_callS X327 hx (y := (⟨"com/example/ianus/ianus/TokenFollowsPinLaw", "kindOf", "(I)Lcom/example/ianus/ianus/Token$Kind;"⟩ : MethodName)) hown (mvT hZ (own_w hw 58 rfl)) (mvT hZ (own_w hw 59 rfl)) (mvT hZ (own_w hw 2 rfl)) (mvT hZ (own_w hw 60 rfl)) (by decide) (backOf (W := 2) (own_rmKO l Z a0 hw [] kxT aI aS aN aY aE h327 n0 (Nat.le_trans Z0 KP.1) OL SaI SaS SaN SaY SaE) hZ (own_w hw 60 rfl) (own_w hw 2 rfl) (by decide) (by decide)) (g := (mkF m 254 #[iv p0, iv p1, iv p2, iv p3, iv p4, iv p5, iv 0, iv y0, iv y1, iv y2, rv b318, iv 0, iv 0, iv tl, iv ((((p5.toUInt32 >>> ((10 : Int32) &&& 31).toUInt32).toInt32) &&& (3 : Int32)) - (1 : Int32)), iv tc, rv vx, rv b324, .unset, .unset] [(.int kxT), (.ref b327), (.ref b327)])) rfl (by rw [hml]; rfl) (argsL := [(.int kxT)]) (rest := [(.ref b327), (.ref b327)]) (lenOf own_pd23 rfl) rfl (by show 2 * 0 + _ ≤ _; exact Nat.le_of_eq rfl) (hb hby at_254) rfl e327 (kc := 10) (ks := 28) rfl rfl (by decide) (by decide)
    obtain ⟨akT, rfl, N328q, e328⟩ := hQ328
    have N328 := Fr.app N326 N328q
    refine own_to (mkF m 257 #[iv p0, iv p1, iv p2, iv p3, iv p4, iv p5, iv 0, iv y0, iv y1, iv y2, rv b318, iv 0, iv 0, iv tl, iv ((((p5.toUInt32 >>> ((10 : Int32) &&& 31).toUInt32).toInt32) &&& (3 : Int32)) - (1 : Int32)), iv tc, rv vx, rv b324, .unset, .unset] [(.ref akT), (.ref b327), (.ref b327)]) st328 ?_
    refine own_al 259 X328 hx (hb hby at_257) rfl rfl rfl ?_
    refine own_al 261 X328 hx (hb hby at_259) rfl rfl rfl ?_
    refine own_il 263 X328 hx (hb hby at_261) rfl rfl ?_
    refine own_il 265 X328 hx (hb hby at_263) rfl rfl ?_
    obtain ⟨_, T329, Lc329, X329, hQ329, st329⟩ := own_special X328 hx (y := (⟨"com/example/ianus/ianus/Token", "<init>", "(Lcom/example/ianus/ianus/Token$Kind;Ljava/lang/String;Ljava/lang/String;II)V"⟩ : MethodName)) rfl hown (mvT hZ (own_w hw 64 rfl)) (mvT hZ (own_w hw 65 rfl)) (mvT hZ (own_w hw 66 rfl)) (by decide) (backOf (W := 1) (own_rmCT l Z a0 hw [] b327 akT vx vx tl tc h327 n0 (Nat.le_trans Z0 KP.1) OL ge_b327 E_b327 F_kind_b327 F_text_b327 F_value_b327 F_line_b327 F_column_b327) hZ (own_w hw 66 rfl) (own_w hw 57 rfl) (by decide) (by decide)) (g := (mkF m 265 #[iv p0, iv p1, iv p2, iv p3, iv p4, iv p5, iv 0, iv y0, iv y1, iv y2, rv b318, iv 0, iv 0, iv tl, iv ((((p5.toUInt32 >>> ((10 : Int32) &&& 31).toUInt32).toInt32) &&& (3 : Int32)) - (1 : Int32)), iv tc, rv vx, rv b324, .unset, .unset] [(.int tc), (.int tl), (.ref vx), (.ref vx), (.ref akT), (.ref b327), (.ref b327)])) rfl (by rw [hml]; rfl) (a := b327) (argsL := [(.ref akT), (.ref vx), (.ref vx), (.int tl), (.int tc)]) (rest := [(.ref b327)]) (lenOf own_pd24 rfl) rfl (by show 2 * 0 + _ ≤ _; exact Nat.le_of_eq rfl) (hb hby at_265) rfl e328 (kc := 10) (ks := 28) rfl rfl (by decide) (by decide)
    obtain ⟨rfl, N329q, K329, Ek329, -, Ft329, Fl329, Fc329⟩ := hQ329
    have N329 := Fr.app N328 N329q
    have SFk : ∀ x ∈ [b327], Safe Z own_EL T320.vm h327 x := (sfS (Safe.exa hZ.alike E_b327 (by decide) (by decide)) sf0)
    have CHR := CHR.trans (CHr.keep K329 SFk CH)
    have CH := CH.keep K329 SFk
    have OL := OL.keep K329 (allS ge_b327 all0)
    have KP := KP.trans K329 (allS (Or.inr sz_b327) all0)
    have hk1 := Nat.le_trans hk1 K329.1
    have SS := SS.keep K329 (ninS ne_b318_b327 nin0) (ninS ne_t_px_b327 nin0)
    have EP := EP.keep K329
    have FtP := FtP.keep K329 (ninS ne_b324_b327 nin0)
    have FlP := FlP.keep K329 (ninS ne_b324_b327 nin0)
    have FcP := FcP.keep K329 (ninS ne_b324_b327 nin0)
    have E_b327 := E_b327.keep K329
    refine own_via (mkF m 268 #[iv p0, iv p1, iv p2, iv p3, iv p4, iv p5, iv 0, iv y0, iv y1, iv y2, rv b318, iv 0, iv 0, iv tl, iv ((((p5.toUInt32 >>> ((10 : Int32) &&& 31).toUInt32).toInt32) &&& (3 : Int32)) - (1 : Int32)), iv tc, rv vx, rv b324, .unset, .unset] [(.ref b327)]) st329 ?_
    have ET : Exa Z T329.heap b327 "com/example/ianus/ianus/Token" := Ek329
    have FlT : Fld Z T329.heap b327 "com/example/ianus/ianus/Token" "line" "I" (.int tl) := Fl329
    have FcT : Fld Z T329.heap b327 "com/example/ianus/ianus/Token" "column" "I" (.int tc) := Fc329
    refine own_as 270 #[iv p0, iv p1, iv p2, iv p3, iv p4, iv p5, iv 0, iv y0, iv y1, iv y2, rv b318, iv 0, iv 0, iv tl, iv ((((p5.toUInt32 >>> ((10 : Int32) &&& 31).toUInt32).toInt32) &&& (3 : Int32)) - (1 : Int32)), iv tc, rv vx, rv b324, rv b327, .unset] X329 hx (hb hby at_268) rfl rfl rfl ?_
    refine own_il 272 X329 hx (hb hby at_270) rfl rfl ?_
    refine own_iln 273 X329 hx (hb hby at_272) rfl rfl ?_
    suffices jn330 : ∀ xx : Int32, ((xx = 1 ∧ tl = p0 ∧ tc = (p2 + (0 : Int32))) ∨ (xx = 0 ∧ (¬ tl = p0 ∨ ¬ tc = (p2 + (0 : Int32))))) → own_E p e below (own_FinH Z s (own_Q0 Z p0 p1 p2 p3 p4 p5 G1 aI aS aN aY aE h0 n0) room_1.cells room_1.slots) T329 (mkF m 290 #[iv p0, iv p1, iv p2, iv p3, iv p4, iv p5, iv 0, iv y0, iv y1, iv y2, rv b318, iv 0, iv 0, iv tl, iv ((((p5.toUInt32 >>> ((10 : Int32) &&& 31).toUInt32).toInt32) &&& (3 : Int32)) - (1 : Int32)), iv tc, rv vx, rv b324, rv b327, .unset] [(.int xx)]) from by
      by_cases hxa0 : tl = p0
      · refine own_icN 276 X329 hx (hb hby at_273) (teq hxa0).2 rfl ?_
        refine own_il 278 X329 hx (hb hby at_276) rfl rfl ?_
        refine own_iln 279 X329 hx (hb hby at_278) rfl rfl ?_
        refine own_il 281 X329 hx (hb hby at_279) rfl rfl ?_
        refine own_iadd 282 X329 hx (hb hby at_281) rfl rfl ?_
        by_cases hxa1 : tc = (p2 + (0 : Int32))
        · refine own_icN 285 X329 hx (hb hby at_282) (teq hxa1).2 rfl ?_
          refine own_ic 286 1 X329 hx (hb hby at_285) rfl rfl ?_
          refine own_go 290 X329 hx (hb hby at_286) (by decide) (by decide) ?_
          exact jn330 (1 : Int32) (Or.inl ⟨rfl, hxa0, hxa1⟩)
        · refine own_icY 289 X329 hx (hb hby at_282) (feq hxa1).2 (by decide) (by decide) ?_
          refine own_ic 290 0 X329 hx (hb hby at_289) rfl rfl ?_
          exact jn330 (0 : Int32) (Or.inr ⟨rfl, Or.inr hxa1⟩)
      · refine own_icY 289 X329 hx (hb hby at_273) (feq hxa0).2 (by decide) (by decide) ?_
        refine own_ic 290 0 X329 hx (hb hby at_289) rfl rfl ?_
        exact jn330 (0 : Int32) (Or.inr ⟨rfl, Or.inl hxa0⟩)
    intro xx hxx
    refine own_is 292 #[iv p0, iv p1, iv p2, iv p3, iv p4, iv p5, iv 0, iv y0, iv y1, iv y2, rv b318, iv 0, iv 0, iv tl, iv ((((p5.toUInt32 >>> ((10 : Int32) &&& 31).toUInt32).toInt32) &&& (3 : Int32)) - (1 : Int32)), iv tc, rv vx, rv b324, rv b327, iv xx] X329 hx (hb hby at_290) rfl rfl ?_
    refine own_al 294 X329 hx (hb hby at_292) rfl rfl rfl ?_
    refine own_al 296 X329 hx (hb hby at_294) rfl rfl rfl ?_
    obtain ⟨cq331, kq331, q331a, q331b, q331c⟩ := isOf hZ rfl ET
    obtain ⟨_, T331, Lc331, X331, hQ331, st331⟩ := own_virtual X329 hx (y := (⟨"com/example/ianus/ianus/Token", "follows", "(Lcom/example/ianus/ianus/Token;)Z"⟩ : MethodName)) (z := (⟨"com/example/ianus/ianus/Token", "follows", "(Lcom/example/ianus/ianus/Token;)Z"⟩ : MethodName)) hown (mvT hZ (own_w hw 78 rfl)) (mvT hZ (own_w hw 79 rfl)) (notFace_of_selects (args := #[]) (mvT hZ (own_w hw 81 rfl))) (mvT hZ (own_w hw 81 rfl)) (mvT hZ (own_w hw 80 rfl)) (by decide) (backOf (W := 0) (own_rmFO_0 l Z a0 hw [] G1 b318 t_px kb_px b327 b324 tl tc p0 p2 T329.heap n0 (Nat.le_trans Z0 KP.1) OL  SS O2 P5 OAD OHI OLO FlT FcT FlP FcP FtP) hZ (own_w hw 82 rfl) (own_w hw 57 rfl) (by decide) (by decide)) q331a q331c (g := (mkF m 296 #[iv p0, iv p1, iv p2, iv p3, iv p4, iv p5, iv 0, iv y0, iv y1, iv y2, rv b318, iv 0, iv 0, iv tl, iv ((((p5.toUInt32 >>> ((10 : Int32) &&& 31).toUInt32).toInt32) &&& (3 : Int32)) - (1 : Int32)), iv tc, rv vx, rv b324, rv b327, iv xx] [(.ref b324), (.ref b327)])) rfl (by rw [hml]; rfl) (argsL := [(.ref b324)]) (rest := []) (lenOf own_pd25 rfl) rfl (by show 2 * 0 + _ ≤ _; exact Nat.le_of_eq rfl) (hb hby at_296) rfl rfl (kc := 10) (ks := 28) rfl rfl (by decide) (by decide)
    obtain ⟨rr, rfl, hrr, N331q, e331⟩ := hQ331
    have N331 := Fr.app N329 N331q
    refine own_via (mkF m 299 #[iv p0, iv p1, iv p2, iv p3, iv p4, iv p5, iv 0, iv y0, iv y1, iv y2, rv b318, iv 0, iv 0, iv tl, iv ((((p5.toUInt32 >>> ((10 : Int32) &&& 31).toUInt32).toInt32) &&& (3 : Int32)) - (1 : Int32)), iv tc, rv vx, rv b324, rv b327, iv xx] [(.int rr)]) st331 ?_
    refine own_il 301 X331 hx (hb hby at_299) rfl rfl ?_
    refine own_icN 304 X331 hx (hb hby at_301) (teq (own_fin (P := fun q => own_P0 q) own_U0 (rfl : own_P0 (0 : Int32)) hrr hxx)).2 rfl ?_
    refine own_ic 305 1 X331 hx (hb hby at_304) rfl rfl ?_
    refine own_go 309 X331 hx (hb hby at_305) (by decide) (by decide) ?_
    exact own_retNH (s := s) (vm₁ := T320.vm) X331 hS (by rw [e331]; exact hk1) hZ hEW (by rw [e331]; exact CH) (by rw [hh, e331]; exact CHR) hx (t := .boolean) Bd.returns (by simp) hlk (hb hby at_309) (by decide) (by decide) (by rw [e331]; exact ⟨rfl, N331⟩)
  · subst q
    have KP0 := KP
    have lt0_b318 := E_b318.lt
    obtain ⟨_, T332, Lc332, X332, hQ332, st332⟩ := own_callS X318 hx (y := (⟨"com/example/ianus/ianus/TokenFollowsPinLaw", "pick", "(ICCC)[C"⟩ : MethodName)) hown (mvT hZ (own_w hw 7 rfl)) (mvT hZ (own_w hw 8 rfl)) (mvT hZ (own_w hw 2 rfl)) (mvT hZ (own_w hw 9 rfl)) (by decide) (backOf (W := 2) (own_rmPK_1 l Z a0 hw [] y0 y1 y2 h318 n0 (Nat.le_trans Z0 KP.1) OL c16_y0 c16_y1 c16_y2) hZ (own_w hw 9 rfl) (own_w hw 2 rfl) (by decide) (by decide)) (g := (mkF m 76 #[iv p0, iv p1, iv p2, iv p3, iv p4, iv p5, iv 1, iv y0, iv y1, iv y2, .unset, .unset, .unset, .unset, .unset, .unset, .unset, .unset, .unset, .unset] [(.int y2), (.int y1), (.int y0), (.int (1 : Int32)), (.ref b318), (.ref b318)])) rfl (by rw [hml]; rfl) (argsL := [(.int (1 : Int32)), (.int y0), (.int y1), (.int y2)]) (rest := [(.ref b318), (.ref b318)]) (lenOf own_pd20 rfl) rfl (by show 2 * 0 + _ ≤ _; exact Nat.le_of_eq rfl) (hb hby at_76) rfl e318 (kc := 2) (ks := 5) rfl rfl (by decide) (by decide)
    obtain ⟨ar, kar, rfl, N332q, K332, ge_ar, sz0_ar, V_ar⟩ := hQ332
    have N332 := Fr.app N317 N332q
    have CHR := CHR.trans (CHr.keep K332 sf0 CH)
    have CH := CH.keep K332 sf0
    have OL := OL.keep K332 all0
    have KP := KP.trans K332 all0
    have hk1 := Nat.le_trans hk1 K332.1
    have E_b318 := E_b318.keep K332
    have F_coder_b318 := F_coder_b318.keep K332 nin0
    have F_value_b318 := F_value_b318.keep K332 nin0
    refine own_to (mkF m 79 #[iv p0, iv p1, iv p2, iv p3, iv p4, iv p5, iv 1, iv y0, iv y1, iv y2, .unset, .unset, .unset, .unset, .unset, .unset, .unset, .unset, .unset, .unset] [(.ref ar), (.ref b318), (.ref b318)]) st332 ?_
    have sz_ar : h0.size ≤ ar := Nat.le_trans KP0.1 sz0_ar
    have ne_b318_ar : b318 ≠ ar := Nat.ne_of_lt (Nat.lt_of_lt_of_le lt0_b318 sz0_ar)
    have KP0 := KP
    have lt0_b318 := E_b318.lt
    have lt0_ar := V_ar.lt
    obtain ⟨_, T333, Lc333, X333, hQ333, st333⟩ := own_special X332 hx (y := (⟨"java/lang/String", "<init>", "([C)V"⟩ : MethodName)) rfl hown (mvT hZ (own_w hw 11 rfl)) (mvT hZ (own_w hw 12 rfl)) (mvT hZ (own_w hw 13 rfl)) (by decide) (backOf (W := 1) (own_rmI1_1 l Z a0 hw [] y0 G1 b318 ar kar T332.heap n0 (Nat.le_trans Z0 KP.1) OL ge_b318 ne_b318_ar E_b318 F_value_b318 F_coder_b318 c16_y0 V_ar O2 P5 OAD OHI OLO) hZ (own_w hw 13 rfl) (own_w hw 6 rfl) (by decide) (by decide)) (g := (mkF m 79 #[iv p0, iv p1, iv p2, iv p3, iv p4, iv p5, iv 1, iv y0, iv y1, iv y2, .unset, .unset, .unset, .unset, .unset, .unset, .unset, .unset, .unset, .unset] [(.ref ar), (.ref b318), (.ref b318)])) rfl (by rw [hml]; rfl) (a := b318) (argsL := [(.ref ar)]) (rest := [(.ref b318)]) (lenOf own_pd21 rfl) rfl (by show 2 * 0 + _ ≤ _; exact Nat.le_of_eq rfl) (hb hby at_79) rfl rfl (kc := 4) (ks := 8) rfl rfl (by decide) (by decide)
    obtain ⟨rfl, N333q, K333, tx, kx, ge_tx, sz0_tx, hor333⟩ := hQ333
    have N333 := Fr.app N332 N333q
    have SFk : ∀ x ∈ [b318], Safe Z own_EL s.vm T332.heap x := (sfS (own_safeN hZ.alike E_b318 F_value_b318) sf0)
    have CHR := CHR.trans (CHr.keep K333 SFk CH)
    have CH := CH.keep K333 SFk
    have OL := OL.keep K333 (allS ge_b318 all0)
    have KP := KP.trans K333 (allS (Or.inr sz_b318) all0)
    have hk1 := Nat.le_trans hk1 K333.1
    have E_b318 := E_b318.keep K333
    have V_ar := V_ar.keep K333 (ninS (Ne.symm ne_b318_ar) nin0)
    refine own_via (mkF m 82 #[iv p0, iv p1, iv p2, iv p3, iv p4, iv p5, iv 1, iv y0, iv y1, iv y2, .unset, .unset, .unset, .unset, .unset, .unset, .unset, .unset, .unset, .unset] [(.ref b318)]) st333 ?_
    have sz_tx : h0.size ≤ tx := Nat.le_trans KP0.1 sz0_tx
    have ne_ar_tx : ar ≠ tx := Nat.ne_of_lt (Nat.lt_of_lt_of_le lt0_ar sz0_tx)
    have SS : own_S1 Z T333.heap b318 tx kx y0 := (by rcases hor333 with ⟨g0, g⟩ | g; exact Or.inl ⟨rfl, g⟩; exact Or.inr g)
    refine own_as 84 #[iv p0, iv p1, iv p2, iv p3, iv p4, iv p5, iv 1, iv y0, iv y1, iv y2, rv b318, .unset, .unset, .unset, .unset, .unset, .unset, .unset, .unset, .unset] X333 hx (hb hby at_82) rfl rfl rfl ?_
    refine own_ic 85 0 X333 hx (hb hby at_84) rfl rfl ?_
    refine own_is 87 #[iv p0, iv p1, iv p2, iv p3, iv p4, iv p5, iv 1, iv y0, iv y1, iv y2, rv b318, iv 0, .unset, .unset, .unset, .unset, .unset, .unset, .unset, .unset] X333 hx (hb hby at_85) rfl rfl ?_
    refine own_il 89 X333 hx (hb hby at_87) rfl rfl ?_
    refine own_ic 90 2 X333 hx (hb hby at_89) rfl rfl ?_
    refine own_icY 115 X333 hx (hb hby at_90) (tlt (by decide : (1 : Int32) < (2 : Int32))).1 (by decide) (by decide) ?_
    refine own_il 117 X333 hx (hb hby at_115) rfl rfl ?_
    refine own_ic 118 3 X333 hx (hb hby at_117) rfl rfl ?_
    refine own_icY 143 X333 hx (hb hby at_118) (tlt (by decide : (1 : Int32) < (3 : Int32))).1 (by decide) (by decide) ?_
    refine own_il 145 X333 hx (hb hby at_143) rfl rfl ?_
    refine own_il 147 X333 hx (hb hby at_145) rfl rfl ?_
    refine own_isub 148 X333 hx (hb hby at_147) (z := (1 : Int32)) rfl rfl ?_
    refine own_is 150 #[iv p0, iv p1, iv p2, iv p3, iv p4, iv p5, iv 1, iv y0, iv y1, iv y2, rv b318, iv 0, iv 1, .unset, .unset, .unset, .unset, .unset, .unset, .unset] X333 hx (hb hby at_148) rfl rfl ?_
    refine own_il 152 X333 hx (hb hby at_150) rfl rfl ?_
    refine own_bi 154 8 X333 hx (hb hby at_152) rfl rfl ?_
    refine own_iushr 155 X333 hx (hb hby at_154) rfl rfl ?_
    refine own_ic 156 1 X333 hx (hb hby at_155) rfl rfl ?_
    refine own_iand 157 X333 hx (hb hby at_156) rfl rfl ?_
    suffices jn334 : ∀ tl : Int32, ((((p5.toUInt32 >>> ((8 : Int32) &&& 31).toUInt32).toInt32) &&& (1 : Int32)) = (0 : Int32) → tl = p1) → (¬ (((p5.toUInt32 >>> ((8 : Int32) &&& 31).toUInt32).toInt32) &&& (1 : Int32)) = (0 : Int32) → tl = p0) → own_E p e below (own_FinH Z s (own_Q0 Z p0 p1 p2 p3 p4 p5 G1 aI aS aN aY aE h0 n0) room_1.cells room_1.slots) T333 (mkF m 165 #[iv p0, iv p1, iv p2, iv p3, iv p4, iv p5, iv 1, iv y0, iv y1, iv y2, rv b318, iv 0, iv 1, .unset, .unset, .unset, .unset, .unset, .unset, .unset] [(.int tl)]) from by
      by_cases hf8 : (((p5.toUInt32 >>> ((8 : Int32) &&& 31).toUInt32).toInt32) &&& (1 : Int32)) = (0 : Int32)
      · refine own_ifY 164 X333 hx (hb hby at_157) ((if0 _ _).trans (teq hf8).1) (by decide) (by decide) ?_
        refine own_iln 165 X333 hx (hb hby at_164) rfl rfl ?_
        exact jn334 p1 (fun _ => rfl) (fun q => absurd hf8 q)
      · refine own_ifN 160 X333 hx (hb hby at_157) ((if0 _ _).trans (feq hf8).1) rfl ?_
        refine own_iln 161 X333 hx (hb hby at_160) rfl rfl ?_
        refine own_go 165 X333 hx (hb hby at_161) (by decide) (by decide) ?_
        exact jn334 p0 (fun q => absurd q hf8) (fun _ => rfl)
    intro tl htlt htlf
    refine own_is 167 #[iv p0, iv p1, iv p2, iv p3, iv p4, iv p5, iv 1, iv y0, iv y1, iv y2, rv b318, iv 0, iv 1, iv tl, .unset, .unset, .unset, .unset, .unset, .unset] X333 hx (hb hby at_165) rfl rfl ?_
    refine own_il 169 X333 hx (hb hby at_167) rfl rfl ?_
    refine own_bi 171 10 X333 hx (hb hby at_169) rfl rfl ?_
    refine own_iushr 172 X333 hx (hb hby at_171) rfl rfl ?_
    refine own_ic 173 3 X333 hx (hb hby at_172) rfl rfl ?_
    refine own_iand 174 X333 hx (hb hby at_173) rfl rfl ?_
    refine own_ic 175 1 X333 hx (hb hby at_174) rfl rfl ?_
    refine own_isub 176 X333 hx (hb hby at_175) rfl rfl ?_
    refine own_is 178 #[iv p0, iv p1, iv p2, iv p3, iv p4, iv p5, iv 1, iv y0, iv y1, iv y2, rv b318, iv 0, iv 1, iv tl, iv ((((p5.toUInt32 >>> ((10 : Int32) &&& 31).toUInt32).toInt32) &&& (3 : Int32)) - (1 : Int32)), .unset, .unset, .unset, .unset, .unset] X333 hx (hb hby at_176) rfl rfl ?_
    refine own_il 180 X333 hx (hb hby at_178) rfl rfl ?_
    refine own_bi 182 9 X333 hx (hb hby at_180) rfl rfl ?_
    refine own_iushr 183 X333 hx (hb hby at_182) rfl rfl ?_
    refine own_ic 184 1 X333 hx (hb hby at_183) rfl rfl ?_
    refine own_iand 185 X333 hx (hb hby at_184) rfl rfl ?_
    suffices jn335 : ∀ tc : Int32, ((((p5.toUInt32 >>> ((9 : Int32) &&& 31).toUInt32).toInt32) &&& (1 : Int32)) = (0 : Int32) → tc = p3) → (¬ (((p5.toUInt32 >>> ((9 : Int32) &&& 31).toUInt32).toInt32) &&& (1 : Int32)) = (0 : Int32) → tc = ((p2 + (1 : Int32)) + ((((p5.toUInt32 >>> ((10 : Int32) &&& 31).toUInt32).toInt32) &&& (3 : Int32)) - (1 : Int32)))) → own_E p e below (own_FinH Z s (own_Q0 Z p0 p1 p2 p3 p4 p5 G1 aI aS aN aY aE h0 n0) room_1.cells room_1.slots) T333 (mkF m 199 #[iv p0, iv p1, iv p2, iv p3, iv p4, iv p5, iv 1, iv y0, iv y1, iv y2, rv b318, iv 0, iv 1, iv tl, iv ((((p5.toUInt32 >>> ((10 : Int32) &&& 31).toUInt32).toInt32) &&& (3 : Int32)) - (1 : Int32)), .unset, .unset, .unset, .unset, .unset] [(.int tc)]) from by
      by_cases hf9 : (((p5.toUInt32 >>> ((9 : Int32) &&& 31).toUInt32).toInt32) &&& (1 : Int32)) = (0 : Int32)
      · refine own_ifY 198 X333 hx (hb hby at_185) ((if0 _ _).trans (teq hf9).1) (by decide) (by decide) ?_
        refine own_iln 199 X333 hx (hb hby at_198) rfl rfl ?_
        exact jn335 p3 (fun _ => rfl) (fun q => absurd hf9 q)
      · refine own_ifN 188 X333 hx (hb hby at_185) ((if0 _ _).trans (feq hf9).1) rfl ?_
        refine own_iln 189 X333 hx (hb hby at_188) rfl rfl ?_
        refine own_il 191 X333 hx (hb hby at_189) rfl rfl ?_
        refine own_iadd 192 X333 hx (hb hby at_191) rfl rfl ?_
        refine own_il 194 X333 hx (hb hby at_192) rfl rfl ?_
        refine own_iadd 195 X333 hx (hb hby at_194) rfl rfl ?_
        refine own_go 199 X333 hx (hb hby at_195) (by decide) (by decide) ?_
        exact jn335 ((p2 + (1 : Int32)) + ((((p5.toUInt32 >>> ((10 : Int32) &&& 31).toUInt32).toInt32) &&& (3 : Int32)) - (1 : Int32))) (fun q => absurd q hf9) (fun _ => rfl)
    intro tc htct htcf
    refine own_is 201 #[iv p0, iv p1, iv p2, iv p3, iv p4, iv p5, iv 1, iv y0, iv y1, iv y2, rv b318, iv 0, iv 1, iv tl, iv ((((p5.toUInt32 >>> ((10 : Int32) &&& 31).toUInt32).toInt32) &&& (3 : Int32)) - (1 : Int32)), iv tc, .unset, .unset, .unset, .unset] X333 hx (hb hby at_199) rfl rfl ?_
    refine own_il 203 X333 hx (hb hby at_201) rfl rfl ?_
    refine own_bi 205 24 X333 hx (hb hby at_203) rfl rfl ?_
    refine own_iushr 206 X333 hx (hb hby at_205) rfl rfl ?_
    refine own_si 209 255 X333 hx (hb hby at_206) rfl rfl ?_
    refine own_iand 210 X333 hx (hb hby at_209) rfl rfl ?_
    refine own_i2c 211 X333 hx (hb hby at_210) rfl rfl ?_
    generalize hvc : ((((p4.toUInt32 >>> ((24 : Int32) &&& 31).toUInt32).toInt32) &&& (255 : Int32)).toUInt32.toUInt16.toUInt32.toInt32) = vc
    have c8_vc : own_C8 vc := own_ch8 hvc
    obtain ⟨_, T336, Lc336, X336, hQ336, st336⟩ := own_callS X333 hx (y := (⟨"java/lang/String", "valueOf", "(C)Ljava/lang/String;"⟩ : MethodName)) hown (mvT hZ (own_w hw 41 rfl)) (mvT hZ (own_w hw 42 rfl)) (mvT hZ (own_w hw 6 rfl)) (mvT hZ (own_w hw 43 rfl)) (by decide) (backOf (W := 0) (own_rmVO l Z a0 hw [] vc G1 T333.heap n0 (Nat.le_trans Z0 KP.1) OL c8_vc.2 O2 P5) hZ (own_w hw 43 rfl) (own_w hw 6 rfl) (by decide) (by decide)) (g := (mkF m 211 #[iv p0, iv p1, iv p2, iv p3, iv p4, iv p5, iv 1, iv y0, iv y1, iv y2, rv b318, iv 0, iv 1, iv tl, iv ((((p5.toUInt32 >>> ((10 : Int32) &&& 31).toUInt32).toInt32) &&& (3 : Int32)) - (1 : Int32)), iv tc, .unset, .unset, .unset, .unset] [(.int vc)])) rfl (by rw [hml]; rfl) (argsL := [(.int vc)]) (rest := []) (lenOf own_pd22 rfl) rfl (by show 2 * 0 + _ ≤ _; exact Nat.le_of_eq rfl) (hb hby at_211) rfl rfl (kc := 6) (ks := 14) rfl rfl (by decide) (by decide)
    obtain ⟨vx, rfl, N336q, K336⟩ := hQ336
    have N336 := Fr.app N333 N336q
    have CHR := CHR.trans (CHr.keep K336 sf0 CH)
    have CH := CH.keep K336 sf0
    have OL := OL.keep K336 all0
    have KP := KP.trans K336 all0
    have hk1 := Nat.le_trans hk1 K336.1
    have SS := SS.keep K336 nin0 nin0
    refine own_to (mkF m 214 #[iv p0, iv p1, iv p2, iv p3, iv p4, iv p5, iv 1, iv y0, iv y1, iv y2, rv b318, iv 0, iv 1, iv tl, iv ((((p5.toUInt32 >>> ((10 : Int32) &&& 31).toUInt32).toInt32) &&& (3 : Int32)) - (1 : Int32)), iv tc, .unset, .unset, .unset, .unset] [(.ref vx)]) st336 ?_
    refine own_as 216 #[iv p0, iv p1, iv p2, iv p3, iv p4, iv p5, iv 1, iv y0, iv y1, iv y2, rv b318, iv 0, iv 1, iv tl, iv ((((p5.toUInt32 >>> ((10 : Int32) &&& 31).toUInt32).toInt32) &&& (3 : Int32)) - (1 : Int32)), iv tc, rv vx, .unset, .unset, .unset] X336 hx (hb hby at_214) rfl rfl rfl ?_
    obtain ⟨T337, h337, X337, e337, E337, A337, D337, -, st337⟩ := newO X336 hx hZ hown (own_w hw 55 rfl) (own_w hw 56 rfl) (own_w hw 57 rfl) rfl (g := (mkF m 216 #[iv p0, iv p1, iv p2, iv p3, iv p4, iv p5, iv 1, iv y0, iv y1, iv y2, rv b318, iv 0, iv 1, iv tl, iv ((((p5.toUInt32 >>> ((10 : Int32) &&& 31).toUInt32).toInt32) &&& (3 : Int32)) - (1 : Int32)), iv tc, rv vx, .unset, .unset, .unset] [])) rfl (hb hby at_216) (by decide) (by decide)
    obtain ⟨b337, g337⟩ : ∃ z, z = T336.heap.size := ⟨_, rfl⟩
    rw [← g337] at A337 D337 st337
    have sz_b337 : h0.size ≤ b337 := Nat.le_trans KP.1 (Nat.le_of_eq g337.symm)
    have ge_b337 : n0 ≤ b337 := Nat.le_trans Z0 sz_b337
    have ne_b318_b337 : b318 ≠ b337 := Nat.ne_of_lt (Nat.lt_of_lt_of_le SS.lt (Nat.le_of_eq g337.symm))
    have ne_tx_b337 : tx ≠ b337 := Nat.ne_of_lt (Nat.lt_of_lt_of_le SS.ltT (Nat.le_of_eq g337.symm))
    have CHR := CHR.trans (CHr.ext E337 CH)
    have CH := CH.ext E337
    have OL := OL.ext E337
    have KP := KP.ext E337
    have hk1 := Nat.le_trans hk1 E337.1
    have SS := SS.ext E337
    have E_b337 : Exa Z h337 b337 "com/example/ianus/ianus/Token" := A337
    have F_kind_b337 : Fld Z h337 b337 "com/example/ianus/ianus/Token" "kind" "Lcom/example/ianus/ianus/Token$Kind;" .null := D337 (Or.inr (own_w hw 69 rfl)) (ty := (.object "com/example/ianus/ianus/Token$Kind")) (by decide)
    have F_text_b337 : Fld Z h337 b337 "com/example/ianus/ianus/Token" "text" "Ljava/lang/String;" .null := D337 (Or.inr (own_w hw 71 rfl)) (ty := (.object "java/lang/String")) (by decide)
    have F_value_b337 : Fld Z h337 b337 "com/example/ianus/ianus/Token" "value" "Ljava/lang/String;" .null := D337 (Or.inr (own_w hw 73 rfl)) (ty := (.object "java/lang/String")) (by decide)
    have F_line_b337 : Fld Z h337 b337 "com/example/ianus/ianus/Token" "line" "I" (.int (0 : Int32)) := D337 (Or.inr (own_w hw 75 rfl)) (ty := .int) (by decide)
    have F_column_b337 : Fld Z h337 b337 "com/example/ianus/ianus/Token" "column" "I" (.int (0 : Int32)) := D337 (Or.inr (own_w hw 77 rfl)) (ty := .int) (by decide)
    refine own_to (mkF m 219 #[iv p0, iv p1, iv p2, iv p3, iv p4, iv p5, iv 1, iv y0, iv y1, iv y2, rv b318, iv 0, iv 1, iv tl, iv ((((p5.toUInt32 >>> ((10 : Int32) &&& 31).toUInt32).toInt32) &&& (3 : Int32)) - (1 : Int32)), iv tc, rv vx, .unset, .unset, .unset] [(.ref b337)]) st337 ?_
    refine own_dup 220 X337 hx (hb hby at_219) rfl rfl ?_
    refine own_il 222 X337 hx (hb hby at_220) rfl rfl ?_
    refine own_bi 224 12 X337 hx (hb hby at_222) rfl rfl ?_
    refine own_iushr 225 X337 hx (hb hby at_224) rfl rfl ?_
    refine own_bi 227 7 X337 hx (hb hby at_225) rfl rfl ?_
    refine own_iand 228 X337 hx (hb hby at_227) rfl rfl ?_
    generalize hkxP : (((p5.toUInt32 >>> ((12 : Int32) &&& 31).toUInt32).toInt32) &&& (7 : Int32)) = kxP
    obtain ⟨_, T338, Lc338, X338, hQ338, st338⟩ := own_callS X337 hx (y := (⟨"com/example/ianus/ianus/TokenFollowsPinLaw", "kindOf", "(I)Lcom/example/ianus/ianus/Token$Kind;"⟩ : MethodName)) hown (mvT hZ (own_w hw 58 rfl)) (mvT hZ (own_w hw 59 rfl)) (mvT hZ (own_w hw 2 rfl)) (mvT hZ (own_w hw 60 rfl)) (by decide) (backOf (W := 2) (own_rmKO l Z a0 hw [] kxP aI aS aN aY aE h337 n0 (Nat.le_trans Z0 KP.1) OL SaI SaS SaN SaY SaE) hZ (own_w hw 60 rfl) (own_w hw 2 rfl) (by decide) (by decide)) (g := (mkF m 228 #[iv p0, iv p1, iv p2, iv p3, iv p4, iv p5, iv 1, iv y0, iv y1, iv y2, rv b318, iv 0, iv 1, iv tl, iv ((((p5.toUInt32 >>> ((10 : Int32) &&& 31).toUInt32).toInt32) &&& (3 : Int32)) - (1 : Int32)), iv tc, rv vx, .unset, .unset, .unset] [(.int kxP), (.ref b337), (.ref b337)])) rfl (by rw [hml]; rfl) (argsL := [(.int kxP)]) (rest := [(.ref b337), (.ref b337)]) (lenOf own_pd23 rfl) rfl (by show 2 * 0 + _ ≤ _; exact Nat.le_of_eq rfl) (hb hby at_228) rfl e337 (kc := 7) (ks := 19) rfl rfl (by decide) (by decide)
    obtain ⟨akP, rfl, N338q, e338⟩ := hQ338
    have N338 := Fr.app N336 N338q
    refine own_to (mkF m 231 #[iv p0, iv p1, iv p2, iv p3, iv p4, iv p5, iv 1, iv y0, iv y1, iv y2, rv b318, iv 0, iv 1, iv tl, iv ((((p5.toUInt32 >>> ((10 : Int32) &&& 31).toUInt32).toInt32) &&& (3 : Int32)) - (1 : Int32)), iv tc, rv vx, .unset, .unset, .unset] [(.ref akP), (.ref b337), (.ref b337)]) st338 ?_
    refine own_al 233 X338 hx (hb hby at_231) rfl rfl rfl ?_
    refine own_al 235 X338 hx (hb hby at_233) rfl rfl rfl ?_
    refine own_iln 236 X338 hx (hb hby at_235) rfl rfl ?_
    refine own_iln 237 X338 hx (hb hby at_236) rfl rfl ?_
    obtain ⟨_, T339, Lc339, X339, hQ339, st339⟩ := own_special X338 hx (y := (⟨"com/example/ianus/ianus/Token", "<init>", "(Lcom/example/ianus/ianus/Token$Kind;Ljava/lang/String;Ljava/lang/String;II)V"⟩ : MethodName)) rfl hown (mvT hZ (own_w hw 64 rfl)) (mvT hZ (own_w hw 65 rfl)) (mvT hZ (own_w hw 66 rfl)) (by decide) (backOf (W := 1) (own_rmCT l Z a0 hw [] b337 akP b318 b318 p0 p2 h337 n0 (Nat.le_trans Z0 KP.1) OL ge_b337 E_b337 F_kind_b337 F_text_b337 F_value_b337 F_line_b337 F_column_b337) hZ (own_w hw 66 rfl) (own_w hw 57 rfl) (by decide) (by decide)) (g := (mkF m 237 #[iv p0, iv p1, iv p2, iv p3, iv p4, iv p5, iv 1, iv y0, iv y1, iv y2, rv b318, iv 0, iv 1, iv tl, iv ((((p5.toUInt32 >>> ((10 : Int32) &&& 31).toUInt32).toInt32) &&& (3 : Int32)) - (1 : Int32)), iv tc, rv vx, .unset, .unset, .unset] [(.int p2), (.int p0), (.ref b318), (.ref b318), (.ref akP), (.ref b337), (.ref b337)])) rfl (by rw [hml]; rfl) (a := b337) (argsL := [(.ref akP), (.ref b318), (.ref b318), (.int p0), (.int p2)]) (rest := [(.ref b337)]) (lenOf own_pd24 rfl) rfl (by show 2 * 0 + _ ≤ _; exact Nat.le_of_eq rfl) (hb hby at_237) rfl e338 (kc := 7) (ks := 19) rfl rfl (by decide) (by decide)
    obtain ⟨rfl, N339q, K339, Ek339, -, Ft339, Fl339, Fc339⟩ := hQ339
    have N339 := Fr.app N338 N339q
    have SFk : ∀ x ∈ [b337], Safe Z own_EL s.vm h337 x := (sfS (Safe.exa hZ.alike E_b337 (by decide) (by decide)) sf0)
    have CHR := CHR.trans (CHr.keep K339 SFk CH)
    have CH := CH.keep K339 SFk
    have OL := OL.keep K339 (allS ge_b337 all0)
    have KP := KP.trans K339 (allS (Or.inr sz_b337) all0)
    have hk1 := Nat.le_trans hk1 K339.1
    have SS := SS.keep K339 (ninS ne_b318_b337 nin0) (ninS ne_tx_b337 nin0)
    have E_b337 := E_b337.keep K339
    refine own_via (mkF m 240 #[iv p0, iv p1, iv p2, iv p3, iv p4, iv p5, iv 1, iv y0, iv y1, iv y2, rv b318, iv 0, iv 1, iv tl, iv ((((p5.toUInt32 >>> ((10 : Int32) &&& 31).toUInt32).toInt32) &&& (3 : Int32)) - (1 : Int32)), iv tc, rv vx, .unset, .unset, .unset] [(.ref b337)]) st339 ?_
    have EP : Exa Z T339.heap b337 "com/example/ianus/ianus/Token" := Ek339
    have FtP : Fld Z T339.heap b337 "com/example/ianus/ianus/Token" "text" "Ljava/lang/String;" (.ref b318) := Ft339
    have FlP : Fld Z T339.heap b337 "com/example/ianus/ianus/Token" "line" "I" (.int p0) := Fl339
    have FcP : Fld Z T339.heap b337 "com/example/ianus/ianus/Token" "column" "I" (.int p2) := Fc339
    refine own_as 242 #[iv p0, iv p1, iv p2, iv p3, iv p4, iv p5, iv 1, iv y0, iv y1, iv y2, rv b318, iv 0, iv 1, iv tl, iv ((((p5.toUInt32 >>> ((10 : Int32) &&& 31).toUInt32).toInt32) &&& (3 : Int32)) - (1 : Int32)), iv tc, rv vx, rv b337, .unset, .unset] X339 hx (hb hby at_240) rfl rfl rfl ?_
    obtain ⟨T340, h340, X340, e340, E340, A340, D340, -, st340⟩ := newO X339 hx hZ hown (own_w hw 55 rfl) (own_w hw 56 rfl) (own_w hw 57 rfl) rfl (g := (mkF m 242 #[iv p0, iv p1, iv p2, iv p3, iv p4, iv p5, iv 1, iv y0, iv y1, iv y2, rv b318, iv 0, iv 1, iv tl, iv ((((p5.toUInt32 >>> ((10 : Int32) &&& 31).toUInt32).toInt32) &&& (3 : Int32)) - (1 : Int32)), iv tc, rv vx, rv b337, .unset, .unset] [])) rfl (hb hby at_242) (by decide) (by decide)
    obtain ⟨b340, g340⟩ : ∃ z, z = T339.heap.size := ⟨_, rfl⟩
    rw [← g340] at A340 D340 st340
    have sz_b340 : h0.size ≤ b340 := Nat.le_trans KP.1 (Nat.le_of_eq g340.symm)
    have ge_b340 : n0 ≤ b340 := Nat.le_trans Z0 sz_b340
    have ne_b318_b340 : b318 ≠ b340 := Nat.ne_of_lt (Nat.lt_of_lt_of_le SS.lt (Nat.le_of_eq g340.symm))
    have ne_tx_b340 : tx ≠ b340 := Nat.ne_of_lt (Nat.lt_of_lt_of_le SS.ltT (Nat.le_of_eq g340.symm))
    have ne_b337_b340 : b337 ≠ b340 := Nat.ne_of_lt (Nat.lt_of_lt_of_le EP.lt (Nat.le_of_eq g340.symm))
    have CHR := CHR.trans (CHr.ext E340 CH)
    have CH := CH.ext E340
    have OL := OL.ext E340
    have KP := KP.ext E340
    have hk1 := Nat.le_trans hk1 E340.1
    have SS := SS.ext E340
    have EP := EP.ext E340
    have FtP := FtP.ext E340
    have FlP := FlP.ext E340
    have FcP := FcP.ext E340
    have E_b340 : Exa Z h340 b340 "com/example/ianus/ianus/Token" := A340
    have F_kind_b340 : Fld Z h340 b340 "com/example/ianus/ianus/Token" "kind" "Lcom/example/ianus/ianus/Token$Kind;" .null := D340 (Or.inr (own_w hw 69 rfl)) (ty := (.object "com/example/ianus/ianus/Token$Kind")) (by decide)
    have F_text_b340 : Fld Z h340 b340 "com/example/ianus/ianus/Token" "text" "Ljava/lang/String;" .null := D340 (Or.inr (own_w hw 71 rfl)) (ty := (.object "java/lang/String")) (by decide)
    have F_value_b340 : Fld Z h340 b340 "com/example/ianus/ianus/Token" "value" "Ljava/lang/String;" .null := D340 (Or.inr (own_w hw 73 rfl)) (ty := (.object "java/lang/String")) (by decide)
    have F_line_b340 : Fld Z h340 b340 "com/example/ianus/ianus/Token" "line" "I" (.int (0 : Int32)) := D340 (Or.inr (own_w hw 75 rfl)) (ty := .int) (by decide)
    have F_column_b340 : Fld Z h340 b340 "com/example/ianus/ianus/Token" "column" "I" (.int (0 : Int32)) := D340 (Or.inr (own_w hw 77 rfl)) (ty := .int) (by decide)
    refine own_to (mkF m 245 #[iv p0, iv p1, iv p2, iv p3, iv p4, iv p5, iv 1, iv y0, iv y1, iv y2, rv b318, iv 0, iv 1, iv tl, iv ((((p5.toUInt32 >>> ((10 : Int32) &&& 31).toUInt32).toInt32) &&& (3 : Int32)) - (1 : Int32)), iv tc, rv vx, rv b337, .unset, .unset] [(.ref b340)]) st340 ?_
    refine own_dup 246 X340 hx (hb hby at_245) rfl rfl ?_
    refine own_il 248 X340 hx (hb hby at_246) rfl rfl ?_
    refine own_bi 250 15 X340 hx (hb hby at_248) rfl rfl ?_
    refine own_iushr 251 X340 hx (hb hby at_250) rfl rfl ?_
    refine own_bi 253 7 X340 hx (hb hby at_251) rfl rfl ?_
    refine own_iand 254 X340 hx (hb hby at_253) rfl rfl ?_
    generalize hkxT : (((p5.toUInt32 >>> ((15 : Int32) &&& 31).toUInt32).toInt32) &&& (7 : Int32)) = kxT
    obtain ⟨_, T341, Lc341, X341, hQ341, st341⟩ := own_callS X340 hx (y := (⟨"com/example/ianus/ianus/TokenFollowsPinLaw", "kindOf", "(I)Lcom/example/ianus/ianus/Token$Kind;"⟩ : MethodName)) hown (mvT hZ (own_w hw 58 rfl)) (mvT hZ (own_w hw 59 rfl)) (mvT hZ (own_w hw 2 rfl)) (mvT hZ (own_w hw 60 rfl)) (by decide) (backOf (W := 2) (own_rmKO l Z a0 hw [] kxT aI aS aN aY aE h340 n0 (Nat.le_trans Z0 KP.1) OL SaI SaS SaN SaY SaE) hZ (own_w hw 60 rfl) (own_w hw 2 rfl) (by decide) (by decide)) (g := (mkF m 254 #[iv p0, iv p1, iv p2, iv p3, iv p4, iv p5, iv 1, iv y0, iv y1, iv y2, rv b318, iv 0, iv 1, iv tl, iv ((((p5.toUInt32 >>> ((10 : Int32) &&& 31).toUInt32).toInt32) &&& (3 : Int32)) - (1 : Int32)), iv tc, rv vx, rv b337, .unset, .unset] [(.int kxT), (.ref b340), (.ref b340)])) rfl (by rw [hml]; rfl) (argsL := [(.int kxT)]) (rest := [(.ref b340), (.ref b340)]) (lenOf own_pd23 rfl) rfl (by show 2 * 0 + _ ≤ _; exact Nat.le_of_eq rfl) (hb hby at_254) rfl e340 (kc := 8) (ks := 24) rfl rfl (by decide) (by decide)
    obtain ⟨akT, rfl, N341q, e341⟩ := hQ341
    have N341 := Fr.app N339 N341q
    refine own_to (mkF m 257 #[iv p0, iv p1, iv p2, iv p3, iv p4, iv p5, iv 1, iv y0, iv y1, iv y2, rv b318, iv 0, iv 1, iv tl, iv ((((p5.toUInt32 >>> ((10 : Int32) &&& 31).toUInt32).toInt32) &&& (3 : Int32)) - (1 : Int32)), iv tc, rv vx, rv b337, .unset, .unset] [(.ref akT), (.ref b340), (.ref b340)]) st341 ?_
    refine own_al 259 X341 hx (hb hby at_257) rfl rfl rfl ?_
    refine own_al 261 X341 hx (hb hby at_259) rfl rfl rfl ?_
    refine own_il 263 X341 hx (hb hby at_261) rfl rfl ?_
    refine own_il 265 X341 hx (hb hby at_263) rfl rfl ?_
    obtain ⟨_, T342, Lc342, X342, hQ342, st342⟩ := own_special X341 hx (y := (⟨"com/example/ianus/ianus/Token", "<init>", "(Lcom/example/ianus/ianus/Token$Kind;Ljava/lang/String;Ljava/lang/String;II)V"⟩ : MethodName)) rfl hown (mvT hZ (own_w hw 64 rfl)) (mvT hZ (own_w hw 65 rfl)) (mvT hZ (own_w hw 66 rfl)) (by decide) (backOf (W := 1) (own_rmCT l Z a0 hw [] b340 akT vx vx tl tc h340 n0 (Nat.le_trans Z0 KP.1) OL ge_b340 E_b340 F_kind_b340 F_text_b340 F_value_b340 F_line_b340 F_column_b340) hZ (own_w hw 66 rfl) (own_w hw 57 rfl) (by decide) (by decide)) (g := (mkF m 265 #[iv p0, iv p1, iv p2, iv p3, iv p4, iv p5, iv 1, iv y0, iv y1, iv y2, rv b318, iv 0, iv 1, iv tl, iv ((((p5.toUInt32 >>> ((10 : Int32) &&& 31).toUInt32).toInt32) &&& (3 : Int32)) - (1 : Int32)), iv tc, rv vx, rv b337, .unset, .unset] [(.int tc), (.int tl), (.ref vx), (.ref vx), (.ref akT), (.ref b340), (.ref b340)])) rfl (by rw [hml]; rfl) (a := b340) (argsL := [(.ref akT), (.ref vx), (.ref vx), (.int tl), (.int tc)]) (rest := [(.ref b340)]) (lenOf own_pd24 rfl) rfl (by show 2 * 0 + _ ≤ _; exact Nat.le_of_eq rfl) (hb hby at_265) rfl e341 (kc := 8) (ks := 24) rfl rfl (by decide) (by decide)
    obtain ⟨rfl, N342q, K342, Ek342, -, Ft342, Fl342, Fc342⟩ := hQ342
    have N342 := Fr.app N341 N342q
    have SFk : ∀ x ∈ [b340], Safe Z own_EL s.vm h340 x := (sfS (Safe.exa hZ.alike E_b340 (by decide) (by decide)) sf0)
    have CHR := CHR.trans (CHr.keep K342 SFk CH)
    have CH := CH.keep K342 SFk
    have OL := OL.keep K342 (allS ge_b340 all0)
    have KP := KP.trans K342 (allS (Or.inr sz_b340) all0)
    have hk1 := Nat.le_trans hk1 K342.1
    have SS := SS.keep K342 (ninS ne_b318_b340 nin0) (ninS ne_tx_b340 nin0)
    have EP := EP.keep K342
    have FtP := FtP.keep K342 (ninS ne_b337_b340 nin0)
    have FlP := FlP.keep K342 (ninS ne_b337_b340 nin0)
    have FcP := FcP.keep K342 (ninS ne_b337_b340 nin0)
    have E_b340 := E_b340.keep K342
    refine own_via (mkF m 268 #[iv p0, iv p1, iv p2, iv p3, iv p4, iv p5, iv 1, iv y0, iv y1, iv y2, rv b318, iv 0, iv 1, iv tl, iv ((((p5.toUInt32 >>> ((10 : Int32) &&& 31).toUInt32).toInt32) &&& (3 : Int32)) - (1 : Int32)), iv tc, rv vx, rv b337, .unset, .unset] [(.ref b340)]) st342 ?_
    have ET : Exa Z T342.heap b340 "com/example/ianus/ianus/Token" := Ek342
    have FlT : Fld Z T342.heap b340 "com/example/ianus/ianus/Token" "line" "I" (.int tl) := Fl342
    have FcT : Fld Z T342.heap b340 "com/example/ianus/ianus/Token" "column" "I" (.int tc) := Fc342
    refine own_as 270 #[iv p0, iv p1, iv p2, iv p3, iv p4, iv p5, iv 1, iv y0, iv y1, iv y2, rv b318, iv 0, iv 1, iv tl, iv ((((p5.toUInt32 >>> ((10 : Int32) &&& 31).toUInt32).toInt32) &&& (3 : Int32)) - (1 : Int32)), iv tc, rv vx, rv b337, rv b340, .unset] X342 hx (hb hby at_268) rfl rfl rfl ?_
    refine own_il 272 X342 hx (hb hby at_270) rfl rfl ?_
    refine own_iln 273 X342 hx (hb hby at_272) rfl rfl ?_
    suffices jn343 : ∀ xx : Int32, ((xx = 1 ∧ tl = p0 ∧ tc = (p2 + (1 : Int32))) ∨ (xx = 0 ∧ (¬ tl = p0 ∨ ¬ tc = (p2 + (1 : Int32))))) → own_E p e below (own_FinH Z s (own_Q0 Z p0 p1 p2 p3 p4 p5 G1 aI aS aN aY aE h0 n0) room_1.cells room_1.slots) T342 (mkF m 290 #[iv p0, iv p1, iv p2, iv p3, iv p4, iv p5, iv 1, iv y0, iv y1, iv y2, rv b318, iv 0, iv 1, iv tl, iv ((((p5.toUInt32 >>> ((10 : Int32) &&& 31).toUInt32).toInt32) &&& (3 : Int32)) - (1 : Int32)), iv tc, rv vx, rv b337, rv b340, .unset] [(.int xx)]) from by
      by_cases hxa0 : tl = p0
      · refine own_icN 276 X342 hx (hb hby at_273) (teq hxa0).2 rfl ?_
        refine own_il 278 X342 hx (hb hby at_276) rfl rfl ?_
        refine own_iln 279 X342 hx (hb hby at_278) rfl rfl ?_
        refine own_il 281 X342 hx (hb hby at_279) rfl rfl ?_
        refine own_iadd 282 X342 hx (hb hby at_281) rfl rfl ?_
        by_cases hxa1 : tc = (p2 + (1 : Int32))
        · refine own_icN 285 X342 hx (hb hby at_282) (teq hxa1).2 rfl ?_
          refine own_ic 286 1 X342 hx (hb hby at_285) rfl rfl ?_
          refine own_go 290 X342 hx (hb hby at_286) (by decide) (by decide) ?_
          exact jn343 (1 : Int32) (Or.inl ⟨rfl, hxa0, hxa1⟩)
        · refine own_icY 289 X342 hx (hb hby at_282) (feq hxa1).2 (by decide) (by decide) ?_
          refine own_ic 290 0 X342 hx (hb hby at_289) rfl rfl ?_
          exact jn343 (0 : Int32) (Or.inr ⟨rfl, Or.inr hxa1⟩)
      · refine own_icY 289 X342 hx (hb hby at_273) (feq hxa0).2 (by decide) (by decide) ?_
        refine own_ic 290 0 X342 hx (hb hby at_289) rfl rfl ?_
        exact jn343 (0 : Int32) (Or.inr ⟨rfl, Or.inl hxa0⟩)
    intro xx hxx
    refine own_is 292 #[iv p0, iv p1, iv p2, iv p3, iv p4, iv p5, iv 1, iv y0, iv y1, iv y2, rv b318, iv 0, iv 1, iv tl, iv ((((p5.toUInt32 >>> ((10 : Int32) &&& 31).toUInt32).toInt32) &&& (3 : Int32)) - (1 : Int32)), iv tc, rv vx, rv b337, rv b340, iv xx] X342 hx (hb hby at_290) rfl rfl ?_
    refine own_al 294 X342 hx (hb hby at_292) rfl rfl rfl ?_
    refine own_al 296 X342 hx (hb hby at_294) rfl rfl rfl ?_
    obtain ⟨cq344, kq344, q344a, q344b, q344c⟩ := isOf hZ rfl ET
    obtain ⟨_, T344, Lc344, X344, hQ344, st344⟩ := own_virtual X342 hx (y := (⟨"com/example/ianus/ianus/Token", "follows", "(Lcom/example/ianus/ianus/Token;)Z"⟩ : MethodName)) (z := (⟨"com/example/ianus/ianus/Token", "follows", "(Lcom/example/ianus/ianus/Token;)Z"⟩ : MethodName)) hown (mvT hZ (own_w hw 78 rfl)) (mvT hZ (own_w hw 79 rfl)) (notFace_of_selects (args := #[]) (mvT hZ (own_w hw 81 rfl))) (mvT hZ (own_w hw 81 rfl)) (mvT hZ (own_w hw 80 rfl)) (by decide) (backOf (W := 0) (own_rmFO_1 l Z a0 hw [] y0 G1 b318 tx kx b340 b337 tl tc p0 p2 T342.heap n0 (Nat.le_trans Z0 KP.1) OL c16_y0 SS O2 P5 OAD OHI OLO FlT FcT FlP FcP FtP) hZ (own_w hw 82 rfl) (own_w hw 57 rfl) (by decide) (by decide)) q344a q344c (g := (mkF m 296 #[iv p0, iv p1, iv p2, iv p3, iv p4, iv p5, iv 1, iv y0, iv y1, iv y2, rv b318, iv 0, iv 1, iv tl, iv ((((p5.toUInt32 >>> ((10 : Int32) &&& 31).toUInt32).toInt32) &&& (3 : Int32)) - (1 : Int32)), iv tc, rv vx, rv b337, rv b340, iv xx] [(.ref b337), (.ref b340)])) rfl (by rw [hml]; rfl) (argsL := [(.ref b337)]) (rest := []) (lenOf own_pd25 rfl) rfl (by show 2 * 0 + _ ≤ _; exact Nat.le_of_eq rfl) (hb hby at_296) rfl rfl (kc := 8) (ks := 24) rfl rfl (by decide) (by decide)
    obtain ⟨rr, rfl, hrr, N344q, e344⟩ := hQ344
    have N344 := Fr.app N342 N344q
    refine own_via (mkF m 299 #[iv p0, iv p1, iv p2, iv p3, iv p4, iv p5, iv 1, iv y0, iv y1, iv y2, rv b318, iv 0, iv 1, iv tl, iv ((((p5.toUInt32 >>> ((10 : Int32) &&& 31).toUInt32).toInt32) &&& (3 : Int32)) - (1 : Int32)), iv tc, rv vx, rv b337, rv b340, iv xx] [(.int rr)]) st344 ?_
    refine own_il 301 X344 hx (hb hby at_299) rfl rfl ?_
    refine own_icN 304 X344 hx (hb hby at_301) (teq (own_fin (P := fun q => own_P1 y0 q) own_U1 (rfl : own_P1 y0 (1 : Int32)) hrr hxx)).2 rfl ?_
    refine own_ic 305 1 X344 hx (hb hby at_304) rfl rfl ?_
    refine own_go 309 X344 hx (hb hby at_305) (by decide) (by decide) ?_
    exact own_retNH (s := s) (vm₁ := s.vm) X344 hS (by rw [e344]; exact hk1) hZ hEW (by rw [e344]; exact CH) (by rw [hh, e344]; exact CHR) hx (t := .boolean) Bd.returns (by simp) hlk (hb hby at_309) (by decide) (by decide) (by rw [e344]; exact ⟨rfl, N344⟩)
  · subst q
    have KP0 := KP
    have lt0_b318 := E_b318.lt
    obtain ⟨_, T345, Lc345, X345, hQ345, st345⟩ := own_callS X318 hx (y := (⟨"com/example/ianus/ianus/TokenFollowsPinLaw", "pick", "(ICCC)[C"⟩ : MethodName)) hown (mvT hZ (own_w hw 7 rfl)) (mvT hZ (own_w hw 8 rfl)) (mvT hZ (own_w hw 2 rfl)) (mvT hZ (own_w hw 9 rfl)) (by decide) (backOf (W := 2) (own_rmPK_2 l Z a0 hw [] y0 y1 y2 h318 n0 (Nat.le_trans Z0 KP.1) OL c16_y0 c16_y1 c16_y2) hZ (own_w hw 9 rfl) (own_w hw 2 rfl) (by decide) (by decide)) (g := (mkF m 76 #[iv p0, iv p1, iv p2, iv p3, iv p4, iv p5, iv 2, iv y0, iv y1, iv y2, .unset, .unset, .unset, .unset, .unset, .unset, .unset, .unset, .unset, .unset] [(.int y2), (.int y1), (.int y0), (.int (2 : Int32)), (.ref b318), (.ref b318)])) rfl (by rw [hml]; rfl) (argsL := [(.int (2 : Int32)), (.int y0), (.int y1), (.int y2)]) (rest := [(.ref b318), (.ref b318)]) (lenOf own_pd20 rfl) rfl (by show 2 * 0 + _ ≤ _; exact Nat.le_of_eq rfl) (hb hby at_76) rfl e318 (kc := 2) (ks := 6) rfl rfl (by decide) (by decide)
    obtain ⟨ar, kar, rfl, N345q, K345, ge_ar, sz0_ar, V_ar⟩ := hQ345
    have N345 := Fr.app N317 N345q
    have CHR := CHR.trans (CHr.keep K345 sf0 CH)
    have CH := CH.keep K345 sf0
    have OL := OL.keep K345 all0
    have KP := KP.trans K345 all0
    have hk1 := Nat.le_trans hk1 K345.1
    have E_b318 := E_b318.keep K345
    have F_coder_b318 := F_coder_b318.keep K345 nin0
    have F_value_b318 := F_value_b318.keep K345 nin0
    refine own_to (mkF m 79 #[iv p0, iv p1, iv p2, iv p3, iv p4, iv p5, iv 2, iv y0, iv y1, iv y2, .unset, .unset, .unset, .unset, .unset, .unset, .unset, .unset, .unset, .unset] [(.ref ar), (.ref b318), (.ref b318)]) st345 ?_
    have sz_ar : h0.size ≤ ar := Nat.le_trans KP0.1 sz0_ar
    have ne_b318_ar : b318 ≠ ar := Nat.ne_of_lt (Nat.lt_of_lt_of_le lt0_b318 sz0_ar)
    have KP0 := KP
    have lt0_b318 := E_b318.lt
    have lt0_ar := V_ar.lt
    obtain ⟨_, T346, Lc346, X346, hQ346, st346⟩ := own_special X345 hx (y := (⟨"java/lang/String", "<init>", "([C)V"⟩ : MethodName)) rfl hown (mvT hZ (own_w hw 11 rfl)) (mvT hZ (own_w hw 12 rfl)) (mvT hZ (own_w hw 13 rfl)) (by decide) (backOf (W := 1) (own_rmI1_2 l Z a0 hw [] y0 y1 G1 b318 ar kar T345.heap n0 (Nat.le_trans Z0 KP.1) OL ge_b318 ne_b318_ar E_b318 F_value_b318 F_coder_b318 c16_y0 c16_y1 V_ar O2 P5 OAD OHI OLO) hZ (own_w hw 13 rfl) (own_w hw 6 rfl) (by decide) (by decide)) (g := (mkF m 79 #[iv p0, iv p1, iv p2, iv p3, iv p4, iv p5, iv 2, iv y0, iv y1, iv y2, .unset, .unset, .unset, .unset, .unset, .unset, .unset, .unset, .unset, .unset] [(.ref ar), (.ref b318), (.ref b318)])) rfl (by rw [hml]; rfl) (a := b318) (argsL := [(.ref ar)]) (rest := [(.ref b318)]) (lenOf own_pd21 rfl) rfl (by show 2 * 0 + _ ≤ _; exact Nat.le_of_eq rfl) (hb hby at_79) rfl rfl (kc := 4) (ks := 12) rfl rfl (by decide) (by decide)
    obtain ⟨rfl, N346q, K346, tx, kx, ge_tx, sz0_tx, hor346⟩ := hQ346
    have N346 := Fr.app N345 N346q
    have SFk : ∀ x ∈ [b318], Safe Z own_EL s.vm T345.heap x := (sfS (own_safeN hZ.alike E_b318 F_value_b318) sf0)
    have CHR := CHR.trans (CHr.keep K346 SFk CH)
    have CH := CH.keep K346 SFk
    have OL := OL.keep K346 (allS ge_b318 all0)
    have KP := KP.trans K346 (allS (Or.inr sz_b318) all0)
    have hk1 := Nat.le_trans hk1 K346.1
    have E_b318 := E_b318.keep K346
    have V_ar := V_ar.keep K346 (ninS (Ne.symm ne_b318_ar) nin0)
    refine own_via (mkF m 82 #[iv p0, iv p1, iv p2, iv p3, iv p4, iv p5, iv 2, iv y0, iv y1, iv y2, .unset, .unset, .unset, .unset, .unset, .unset, .unset, .unset, .unset, .unset] [(.ref b318)]) st346 ?_
    have sz_tx : h0.size ≤ tx := Nat.le_trans KP0.1 sz0_tx
    have ne_ar_tx : ar ≠ tx := Nat.ne_of_lt (Nat.lt_of_lt_of_le lt0_ar sz0_tx)
    have SS : own_S2 Z T346.heap b318 tx kx y0 y1 := (by rcases hor346 with ⟨g0, g1, g⟩ | g; exact Or.inl ⟨own_P2c (fun q => own_nhs g0 q.1), g⟩; exact Or.inr g)
    refine own_as 84 #[iv p0, iv p1, iv p2, iv p3, iv p4, iv p5, iv 2, iv y0, iv y1, iv y2, rv b318, .unset, .unset, .unset, .unset, .unset, .unset, .unset, .unset, .unset] X346 hx (hb hby at_82) rfl rfl rfl ?_
    refine own_ic 85 0 X346 hx (hb hby at_84) rfl rfl ?_
    refine own_is 87 #[iv p0, iv p1, iv p2, iv p3, iv p4, iv p5, iv 2, iv y0, iv y1, iv y2, rv b318, iv 0, .unset, .unset, .unset, .unset, .unset, .unset, .unset, .unset] X346 hx (hb hby at_85) rfl rfl ?_
    refine own_il 89 X346 hx (hb hby at_87) rfl rfl ?_
    refine own_ic 90 2 X346 hx (hb hby at_89) rfl rfl ?_
    refine own_icN 93 X346 hx (hb hby at_90) (flt (by decide : ¬ ((2 : Int32) < (2 : Int32)))).1 rfl ?_
    refine own_il 95 X346 hx (hb hby at_93) rfl rfl ?_
    suffices jn347 : ∀ (pr : Int32) (T348 : State) (L348 : List Loc) (N348 : Fr n0 L348) (X348 : Stand p l e room_1 s m #[(.int p0), (.int p1), (.int p2), (.int p3), (.int p4), (.int p5)] below meth c T348 L348 4 12) (e348 : T348.heap = T346.heap), (own_P2 y0 y1 ((2 : Int32) - pr)) → own_E p e below (own_FinH Z s (own_Q0 Z p0 p1 p2 p3 p4 p5 G1 aI aS aN aY aE h0 n0) room_1.cells room_1.slots) T348 (mkF m 143 #[iv p0, iv p1, iv p2, iv p3, iv p4, iv p5, iv 2, iv y0, iv y1, iv y2, rv b318, iv pr, .unset, .unset, .unset, .unset, .unset, .unset, .unset, .unset] []) from by
      obtain ⟨_, T349, Lc349, X349, hQ349, st349⟩ := own_callS X346 hx (y := (⟨"com/example/ianus/ianus/TokenFollowsPinLaw", "isHigh", "(C)Z"⟩ : MethodName)) hown (mvT hZ (own_w hw 37 rfl)) (mvT hZ (own_w hw 38 rfl)) (mvT hZ (own_w hw 2 rfl)) (mvT hZ (own_w hw 39 rfl)) (by decide) (backOf (W := 0) (own_rmIH l Z a0 hw [] y0 T346.heap n0 (Nat.le_trans Z0 KP.1) OL ) hZ (own_w hw 39 rfl) (own_w hw 2 rfl) (by decide) (by decide)) (g := (mkF m 95 #[iv p0, iv p1, iv p2, iv p3, iv p4, iv p5, iv 2, iv y0, iv y1, iv y2, rv b318, iv 0, .unset, .unset, .unset, .unset, .unset, .unset, .unset, .unset] [(.int y0)])) rfl (by rw [hml]; rfl) (argsL := [(.int y0)]) (rest := []) (lenOf own_pd9 rfl) rfl (by show 2 * 0 + _ ≤ _; exact Nat.le_of_eq rfl) (hb hby at_95) rfl rfl (kc := 4) (ks := 12) rfl rfl (by decide) (by decide)
      obtain ⟨N349q, e349, hor349⟩ := hQ349
      have N349 := Fr.app N346 N349q
      rcases hor349 with ⟨rfl, hs0⟩ | ⟨rfl, hs0⟩
      · refine own_to (mkF m 98 #[iv p0, iv p1, iv p2, iv p3, iv p4, iv p5, iv 2, iv y0, iv y1, iv y2, rv b318, iv 0, .unset, .unset, .unset, .unset, .unset, .unset, .unset, .unset] [(.int (1 : Int32))]) st349 ?_
        refine own_ifN 101 X349 hx (hb hby at_98) ((if0 _ _).trans (feq (by decide : ¬ ((1 : Int32) = (0 : Int32)))).1) rfl ?_
        refine own_il 103 X349 hx (hb hby at_101) rfl rfl ?_
        obtain ⟨_, T350, Lc350, X350, hQ350, st350⟩ := own_callS X349 hx (y := (⟨"com/example/ianus/ianus/TokenFollowsPinLaw", "isLow", "(C)Z"⟩ : MethodName)) hown (mvT hZ (own_w hw 104 rfl)) (mvT hZ (own_w hw 105 rfl)) (mvT hZ (own_w hw 2 rfl)) (mvT hZ (own_w hw 106 rfl)) (by decide) (backOf (W := 0) (own_rmIL l Z a0 hw [] y1 T346.heap n0 (Nat.le_trans Z0 KP.1) OL ) hZ (own_w hw 106 rfl) (own_w hw 2 rfl) (by decide) (by decide)) (g := (mkF m 103 #[iv p0, iv p1, iv p2, iv p3, iv p4, iv p5, iv 2, iv y0, iv y1, iv y2, rv b318, iv 0, .unset, .unset, .unset, .unset, .unset, .unset, .unset, .unset] [(.int y1)])) rfl (by rw [hml]; rfl) (argsL := [(.int y1)]) (rest := []) (lenOf own_pd9 rfl) rfl (by show 2 * 0 + _ ≤ _; exact Nat.le_of_eq rfl) (hb hby at_103) rfl e349 (kc := 4) (ks := 12) rfl rfl (by decide) (by decide)
        obtain ⟨N350q, e350, hor350⟩ := hQ350
        have N350 := Fr.app N349 N350q
        rcases hor350 with ⟨rfl, ls0⟩ | ⟨rfl, ls0⟩
        · refine own_to (mkF m 106 #[iv p0, iv p1, iv p2, iv p3, iv p4, iv p5, iv 2, iv y0, iv y1, iv y2, rv b318, iv 0, .unset, .unset, .unset, .unset, .unset, .unset, .unset, .unset] [(.int (1 : Int32))]) st350 ?_
          refine own_ifN 109 X350 hx (hb hby at_106) ((if0 _ _).trans (feq (by decide : ¬ ((1 : Int32) = (0 : Int32)))).1) rfl ?_
          refine own_il 111 X350 hx (hb hby at_109) rfl rfl ?_
          refine own_ic 112 1 X350 hx (hb hby at_111) rfl rfl ?_
          refine own_iadd 113 X350 hx (hb hby at_112) (z := (1 : Int32)) rfl rfl ?_
          refine own_is 115 #[iv p0, iv p1, iv p2, iv p3, iv p4, iv p5, iv 2, iv y0, iv y1, iv y2, rv b318, iv 1, .unset, .unset, .unset, .unset, .unset, .unset, .unset, .unset] X350 hx (hb hby at_113) rfl rfl ?_
          refine own_il 117 X350 hx (hb hby at_115) rfl rfl ?_
          refine own_ic 118 3 X350 hx (hb hby at_117) rfl rfl ?_
          refine own_icY 143 X350 hx (hb hby at_118) (tlt (by decide : (2 : Int32) < (3 : Int32))).1 (by decide) (by decide) ?_
          exact jn347 (1 : Int32) T350 _ N350 X350 e350 (own_P2a hs0 ls0)
        · refine own_to (mkF m 106 #[iv p0, iv p1, iv p2, iv p3, iv p4, iv p5, iv 2, iv y0, iv y1, iv y2, rv b318, iv 0, .unset, .unset, .unset, .unset, .unset, .unset, .unset, .unset] [(.int (0 : Int32))]) st350 ?_
          refine own_ifY 115 X350 hx (hb hby at_106) ((if0 _ _).trans (teq (by decide : (0 : Int32) = (0 : Int32))).1) (by decide) (by decide) ?_
          refine own_il 117 X350 hx (hb hby at_115) rfl rfl ?_
          refine own_ic 118 3 X350 hx (hb hby at_117) rfl rfl ?_
          refine own_icY 143 X350 hx (hb hby at_118) (tlt (by decide : (2 : Int32) < (3 : Int32))).1 (by decide) (by decide) ?_
          exact jn347 (0 : Int32) T350 _ N350 X350 e350 (own_P2c (fun q => ls0 q.2))
      · refine own_to (mkF m 98 #[iv p0, iv p1, iv p2, iv p3, iv p4, iv p5, iv 2, iv y0, iv y1, iv y2, rv b318, iv 0, .unset, .unset, .unset, .unset, .unset, .unset, .unset, .unset] [(.int (0 : Int32))]) st349 ?_
        refine own_ifY 115 X349 hx (hb hby at_98) ((if0 _ _).trans (teq (by decide : (0 : Int32) = (0 : Int32))).1) (by decide) (by decide) ?_
        refine own_il 117 X349 hx (hb hby at_115) rfl rfl ?_
        refine own_ic 118 3 X349 hx (hb hby at_117) rfl rfl ?_
        refine own_icY 143 X349 hx (hb hby at_118) (tlt (by decide : (2 : Int32) < (3 : Int32))).1 (by decide) (by decide) ?_
        exact jn347 (0 : Int32) T349 _ N349 X349 e349 (own_P2c (fun q => hs0 q.1))
    intro pr T348 L348 N348 X348 e348 hpr
    refine own_il 145 X348 hx (hb hby at_143) rfl rfl ?_
    refine own_il 147 X348 hx (hb hby at_145) rfl rfl ?_
    refine own_isub 148 X348 hx (hb hby at_147) rfl rfl ?_
    refine own_is 150 #[iv p0, iv p1, iv p2, iv p3, iv p4, iv p5, iv 2, iv y0, iv y1, iv y2, rv b318, iv pr, iv ((2 : Int32) - pr), .unset, .unset, .unset, .unset, .unset, .unset, .unset] X348 hx (hb hby at_148) rfl rfl ?_
    refine own_il 152 X348 hx (hb hby at_150) rfl rfl ?_
    refine own_bi 154 8 X348 hx (hb hby at_152) rfl rfl ?_
    refine own_iushr 155 X348 hx (hb hby at_154) rfl rfl ?_
    refine own_ic 156 1 X348 hx (hb hby at_155) rfl rfl ?_
    refine own_iand 157 X348 hx (hb hby at_156) rfl rfl ?_
    suffices jn351 : ∀ tl : Int32, ((((p5.toUInt32 >>> ((8 : Int32) &&& 31).toUInt32).toInt32) &&& (1 : Int32)) = (0 : Int32) → tl = p1) → (¬ (((p5.toUInt32 >>> ((8 : Int32) &&& 31).toUInt32).toInt32) &&& (1 : Int32)) = (0 : Int32) → tl = p0) → own_E p e below (own_FinH Z s (own_Q0 Z p0 p1 p2 p3 p4 p5 G1 aI aS aN aY aE h0 n0) room_1.cells room_1.slots) T348 (mkF m 165 #[iv p0, iv p1, iv p2, iv p3, iv p4, iv p5, iv 2, iv y0, iv y1, iv y2, rv b318, iv pr, iv ((2 : Int32) - pr), .unset, .unset, .unset, .unset, .unset, .unset, .unset] [(.int tl)]) from by
      by_cases hf8 : (((p5.toUInt32 >>> ((8 : Int32) &&& 31).toUInt32).toInt32) &&& (1 : Int32)) = (0 : Int32)
      · refine own_ifY 164 X348 hx (hb hby at_157) ((if0 _ _).trans (teq hf8).1) (by decide) (by decide) ?_
        refine own_iln 165 X348 hx (hb hby at_164) rfl rfl ?_
        exact jn351 p1 (fun _ => rfl) (fun q => absurd hf8 q)
      · refine own_ifN 160 X348 hx (hb hby at_157) ((if0 _ _).trans (feq hf8).1) rfl ?_
        refine own_iln 161 X348 hx (hb hby at_160) rfl rfl ?_
        refine own_go 165 X348 hx (hb hby at_161) (by decide) (by decide) ?_
        exact jn351 p0 (fun q => absurd q hf8) (fun _ => rfl)
    intro tl htlt htlf
    refine own_is 167 #[iv p0, iv p1, iv p2, iv p3, iv p4, iv p5, iv 2, iv y0, iv y1, iv y2, rv b318, iv pr, iv ((2 : Int32) - pr), iv tl, .unset, .unset, .unset, .unset, .unset, .unset] X348 hx (hb hby at_165) rfl rfl ?_
    refine own_il 169 X348 hx (hb hby at_167) rfl rfl ?_
    refine own_bi 171 10 X348 hx (hb hby at_169) rfl rfl ?_
    refine own_iushr 172 X348 hx (hb hby at_171) rfl rfl ?_
    refine own_ic 173 3 X348 hx (hb hby at_172) rfl rfl ?_
    refine own_iand 174 X348 hx (hb hby at_173) rfl rfl ?_
    refine own_ic 175 1 X348 hx (hb hby at_174) rfl rfl ?_
    refine own_isub 176 X348 hx (hb hby at_175) rfl rfl ?_
    refine own_is 178 #[iv p0, iv p1, iv p2, iv p3, iv p4, iv p5, iv 2, iv y0, iv y1, iv y2, rv b318, iv pr, iv ((2 : Int32) - pr), iv tl, iv ((((p5.toUInt32 >>> ((10 : Int32) &&& 31).toUInt32).toInt32) &&& (3 : Int32)) - (1 : Int32)), .unset, .unset, .unset, .unset, .unset] X348 hx (hb hby at_176) rfl rfl ?_
    refine own_il 180 X348 hx (hb hby at_178) rfl rfl ?_
    refine own_bi 182 9 X348 hx (hb hby at_180) rfl rfl ?_
    refine own_iushr 183 X348 hx (hb hby at_182) rfl rfl ?_
    refine own_ic 184 1 X348 hx (hb hby at_183) rfl rfl ?_
    refine own_iand 185 X348 hx (hb hby at_184) rfl rfl ?_
    suffices jn352 : ∀ tc : Int32, ((((p5.toUInt32 >>> ((9 : Int32) &&& 31).toUInt32).toInt32) &&& (1 : Int32)) = (0 : Int32) → tc = p3) → (¬ (((p5.toUInt32 >>> ((9 : Int32) &&& 31).toUInt32).toInt32) &&& (1 : Int32)) = (0 : Int32) → tc = ((p2 + ((2 : Int32) - pr)) + ((((p5.toUInt32 >>> ((10 : Int32) &&& 31).toUInt32).toInt32) &&& (3 : Int32)) - (1 : Int32)))) → own_E p e below (own_FinH Z s (own_Q0 Z p0 p1 p2 p3 p4 p5 G1 aI aS aN aY aE h0 n0) room_1.cells room_1.slots) T348 (mkF m 199 #[iv p0, iv p1, iv p2, iv p3, iv p4, iv p5, iv 2, iv y0, iv y1, iv y2, rv b318, iv pr, iv ((2 : Int32) - pr), iv tl, iv ((((p5.toUInt32 >>> ((10 : Int32) &&& 31).toUInt32).toInt32) &&& (3 : Int32)) - (1 : Int32)), .unset, .unset, .unset, .unset, .unset] [(.int tc)]) from by
      by_cases hf9 : (((p5.toUInt32 >>> ((9 : Int32) &&& 31).toUInt32).toInt32) &&& (1 : Int32)) = (0 : Int32)
      · refine own_ifY 198 X348 hx (hb hby at_185) ((if0 _ _).trans (teq hf9).1) (by decide) (by decide) ?_
        refine own_iln 199 X348 hx (hb hby at_198) rfl rfl ?_
        exact jn352 p3 (fun _ => rfl) (fun q => absurd hf9 q)
      · refine own_ifN 188 X348 hx (hb hby at_185) ((if0 _ _).trans (feq hf9).1) rfl ?_
        refine own_iln 189 X348 hx (hb hby at_188) rfl rfl ?_
        refine own_il 191 X348 hx (hb hby at_189) rfl rfl ?_
        refine own_iadd 192 X348 hx (hb hby at_191) rfl rfl ?_
        refine own_il 194 X348 hx (hb hby at_192) rfl rfl ?_
        refine own_iadd 195 X348 hx (hb hby at_194) rfl rfl ?_
        refine own_go 199 X348 hx (hb hby at_195) (by decide) (by decide) ?_
        exact jn352 ((p2 + ((2 : Int32) - pr)) + ((((p5.toUInt32 >>> ((10 : Int32) &&& 31).toUInt32).toInt32) &&& (3 : Int32)) - (1 : Int32))) (fun q => absurd q hf9) (fun _ => rfl)
    intro tc htct htcf
    refine own_is 201 #[iv p0, iv p1, iv p2, iv p3, iv p4, iv p5, iv 2, iv y0, iv y1, iv y2, rv b318, iv pr, iv ((2 : Int32) - pr), iv tl, iv ((((p5.toUInt32 >>> ((10 : Int32) &&& 31).toUInt32).toInt32) &&& (3 : Int32)) - (1 : Int32)), iv tc, .unset, .unset, .unset, .unset] X348 hx (hb hby at_199) rfl rfl ?_
    refine own_il 203 X348 hx (hb hby at_201) rfl rfl ?_
    refine own_bi 205 24 X348 hx (hb hby at_203) rfl rfl ?_
    refine own_iushr 206 X348 hx (hb hby at_205) rfl rfl ?_
    refine own_si 209 255 X348 hx (hb hby at_206) rfl rfl ?_
    refine own_iand 210 X348 hx (hb hby at_209) rfl rfl ?_
    refine own_i2c 211 X348 hx (hb hby at_210) rfl rfl ?_
    generalize hvc : ((((p4.toUInt32 >>> ((24 : Int32) &&& 31).toUInt32).toInt32) &&& (255 : Int32)).toUInt32.toUInt16.toUInt32.toInt32) = vc
    have c8_vc : own_C8 vc := own_ch8 hvc
    obtain ⟨_, T353, Lc353, X353, hQ353, st353⟩ := own_callS X348 hx (y := (⟨"java/lang/String", "valueOf", "(C)Ljava/lang/String;"⟩ : MethodName)) hown (mvT hZ (own_w hw 41 rfl)) (mvT hZ (own_w hw 42 rfl)) (mvT hZ (own_w hw 6 rfl)) (mvT hZ (own_w hw 43 rfl)) (by decide) (backOf (W := 0) (own_rmVO l Z a0 hw [] vc G1 T346.heap n0 (Nat.le_trans Z0 KP.1) OL c8_vc.2 O2 P5) hZ (own_w hw 43 rfl) (own_w hw 6 rfl) (by decide) (by decide)) (g := (mkF m 211 #[iv p0, iv p1, iv p2, iv p3, iv p4, iv p5, iv 2, iv y0, iv y1, iv y2, rv b318, iv pr, iv ((2 : Int32) - pr), iv tl, iv ((((p5.toUInt32 >>> ((10 : Int32) &&& 31).toUInt32).toInt32) &&& (3 : Int32)) - (1 : Int32)), iv tc, .unset, .unset, .unset, .unset] [(.int vc)])) rfl (by rw [hml]; rfl) (argsL := [(.int vc)]) (rest := []) (lenOf own_pd22 rfl) rfl (by show 2 * 0 + _ ≤ _; exact Nat.le_of_eq rfl) (hb hby at_211) rfl e348 (kc := 6) (ks := 18) rfl rfl (by decide) (by decide)
    obtain ⟨vx, rfl, N353q, K353⟩ := hQ353
    have N353 := Fr.app N348 N353q
    have CHR := CHR.trans (CHr.keep K353 sf0 CH)
    have CH := CH.keep K353 sf0
    have OL := OL.keep K353 all0
    have KP := KP.trans K353 all0
    have hk1 := Nat.le_trans hk1 K353.1
    have SS := SS.keep K353 nin0 nin0
    refine own_to (mkF m 214 #[iv p0, iv p1, iv p2, iv p3, iv p4, iv p5, iv 2, iv y0, iv y1, iv y2, rv b318, iv pr, iv ((2 : Int32) - pr), iv tl, iv ((((p5.toUInt32 >>> ((10 : Int32) &&& 31).toUInt32).toInt32) &&& (3 : Int32)) - (1 : Int32)), iv tc, .unset, .unset, .unset, .unset] [(.ref vx)]) st353 ?_
    refine own_as 216 #[iv p0, iv p1, iv p2, iv p3, iv p4, iv p5, iv 2, iv y0, iv y1, iv y2, rv b318, iv pr, iv ((2 : Int32) - pr), iv tl, iv ((((p5.toUInt32 >>> ((10 : Int32) &&& 31).toUInt32).toInt32) &&& (3 : Int32)) - (1 : Int32)), iv tc, rv vx, .unset, .unset, .unset] X353 hx (hb hby at_214) rfl rfl rfl ?_
    obtain ⟨T354, h354, X354, e354, E354, A354, D354, -, st354⟩ := newO X353 hx hZ hown (own_w hw 55 rfl) (own_w hw 56 rfl) (own_w hw 57 rfl) rfl (g := (mkF m 216 #[iv p0, iv p1, iv p2, iv p3, iv p4, iv p5, iv 2, iv y0, iv y1, iv y2, rv b318, iv pr, iv ((2 : Int32) - pr), iv tl, iv ((((p5.toUInt32 >>> ((10 : Int32) &&& 31).toUInt32).toInt32) &&& (3 : Int32)) - (1 : Int32)), iv tc, rv vx, .unset, .unset, .unset] [])) rfl (hb hby at_216) (by decide) (by decide)
    obtain ⟨b354, g354⟩ : ∃ z, z = T353.heap.size := ⟨_, rfl⟩
    rw [← g354] at A354 D354 st354
    have sz_b354 : h0.size ≤ b354 := Nat.le_trans KP.1 (Nat.le_of_eq g354.symm)
    have ge_b354 : n0 ≤ b354 := Nat.le_trans Z0 sz_b354
    have ne_b318_b354 : b318 ≠ b354 := Nat.ne_of_lt (Nat.lt_of_lt_of_le SS.lt (Nat.le_of_eq g354.symm))
    have ne_tx_b354 : tx ≠ b354 := Nat.ne_of_lt (Nat.lt_of_lt_of_le SS.ltT (Nat.le_of_eq g354.symm))
    have CHR := CHR.trans (CHr.ext E354 CH)
    have CH := CH.ext E354
    have OL := OL.ext E354
    have KP := KP.ext E354
    have hk1 := Nat.le_trans hk1 E354.1
    have SS := SS.ext E354
    have E_b354 : Exa Z h354 b354 "com/example/ianus/ianus/Token" := A354
    have F_kind_b354 : Fld Z h354 b354 "com/example/ianus/ianus/Token" "kind" "Lcom/example/ianus/ianus/Token$Kind;" .null := D354 (Or.inr (own_w hw 69 rfl)) (ty := (.object "com/example/ianus/ianus/Token$Kind")) (by decide)
    have F_text_b354 : Fld Z h354 b354 "com/example/ianus/ianus/Token" "text" "Ljava/lang/String;" .null := D354 (Or.inr (own_w hw 71 rfl)) (ty := (.object "java/lang/String")) (by decide)
    have F_value_b354 : Fld Z h354 b354 "com/example/ianus/ianus/Token" "value" "Ljava/lang/String;" .null := D354 (Or.inr (own_w hw 73 rfl)) (ty := (.object "java/lang/String")) (by decide)
    have F_line_b354 : Fld Z h354 b354 "com/example/ianus/ianus/Token" "line" "I" (.int (0 : Int32)) := D354 (Or.inr (own_w hw 75 rfl)) (ty := .int) (by decide)
    have F_column_b354 : Fld Z h354 b354 "com/example/ianus/ianus/Token" "column" "I" (.int (0 : Int32)) := D354 (Or.inr (own_w hw 77 rfl)) (ty := .int) (by decide)
    refine own_to (mkF m 219 #[iv p0, iv p1, iv p2, iv p3, iv p4, iv p5, iv 2, iv y0, iv y1, iv y2, rv b318, iv pr, iv ((2 : Int32) - pr), iv tl, iv ((((p5.toUInt32 >>> ((10 : Int32) &&& 31).toUInt32).toInt32) &&& (3 : Int32)) - (1 : Int32)), iv tc, rv vx, .unset, .unset, .unset] [(.ref b354)]) st354 ?_
    refine own_dup 220 X354 hx (hb hby at_219) rfl rfl ?_
    refine own_il 222 X354 hx (hb hby at_220) rfl rfl ?_
    refine own_bi 224 12 X354 hx (hb hby at_222) rfl rfl ?_
    refine own_iushr 225 X354 hx (hb hby at_224) rfl rfl ?_
    refine own_bi 227 7 X354 hx (hb hby at_225) rfl rfl ?_
    refine own_iand 228 X354 hx (hb hby at_227) rfl rfl ?_
    generalize hkxP : (((p5.toUInt32 >>> ((12 : Int32) &&& 31).toUInt32).toInt32) &&& (7 : Int32)) = kxP
    obtain ⟨_, T355, Lc355, X355, hQ355, st355⟩ := own_callS X354 hx (y := (⟨"com/example/ianus/ianus/TokenFollowsPinLaw", "kindOf", "(I)Lcom/example/ianus/ianus/Token$Kind;"⟩ : MethodName)) hown (mvT hZ (own_w hw 58 rfl)) (mvT hZ (own_w hw 59 rfl)) (mvT hZ (own_w hw 2 rfl)) (mvT hZ (own_w hw 60 rfl)) (by decide) (backOf (W := 2) (own_rmKO l Z a0 hw [] kxP aI aS aN aY aE h354 n0 (Nat.le_trans Z0 KP.1) OL SaI SaS SaN SaY SaE) hZ (own_w hw 60 rfl) (own_w hw 2 rfl) (by decide) (by decide)) (g := (mkF m 228 #[iv p0, iv p1, iv p2, iv p3, iv p4, iv p5, iv 2, iv y0, iv y1, iv y2, rv b318, iv pr, iv ((2 : Int32) - pr), iv tl, iv ((((p5.toUInt32 >>> ((10 : Int32) &&& 31).toUInt32).toInt32) &&& (3 : Int32)) - (1 : Int32)), iv tc, rv vx, .unset, .unset, .unset] [(.int kxP), (.ref b354), (.ref b354)])) rfl (by rw [hml]; rfl) (argsL := [(.int kxP)]) (rest := [(.ref b354), (.ref b354)]) (lenOf own_pd23 rfl) rfl (by show 2 * 0 + _ ≤ _; exact Nat.le_of_eq rfl) (hb hby at_228) rfl e354 (kc := 7) (ks := 23) rfl rfl (by decide) (by decide)
    obtain ⟨akP, rfl, N355q, e355⟩ := hQ355
    have N355 := Fr.app N353 N355q
    refine own_to (mkF m 231 #[iv p0, iv p1, iv p2, iv p3, iv p4, iv p5, iv 2, iv y0, iv y1, iv y2, rv b318, iv pr, iv ((2 : Int32) - pr), iv tl, iv ((((p5.toUInt32 >>> ((10 : Int32) &&& 31).toUInt32).toInt32) &&& (3 : Int32)) - (1 : Int32)), iv tc, rv vx, .unset, .unset, .unset] [(.ref akP), (.ref b354), (.ref b354)]) st355 ?_
    refine own_al 233 X355 hx (hb hby at_231) rfl rfl rfl ?_
    refine own_al 235 X355 hx (hb hby at_233) rfl rfl rfl ?_
    refine own_iln 236 X355 hx (hb hby at_235) rfl rfl ?_
    refine own_iln 237 X355 hx (hb hby at_236) rfl rfl ?_
    obtain ⟨_, T356, Lc356, X356, hQ356, st356⟩ := own_special X355 hx (y := (⟨"com/example/ianus/ianus/Token", "<init>", "(Lcom/example/ianus/ianus/Token$Kind;Ljava/lang/String;Ljava/lang/String;II)V"⟩ : MethodName)) rfl hown (mvT hZ (own_w hw 64 rfl)) (mvT hZ (own_w hw 65 rfl)) (mvT hZ (own_w hw 66 rfl)) (by decide) (backOf (W := 1) (own_rmCT l Z a0 hw [] b354 akP b318 b318 p0 p2 h354 n0 (Nat.le_trans Z0 KP.1) OL ge_b354 E_b354 F_kind_b354 F_text_b354 F_value_b354 F_line_b354 F_column_b354) hZ (own_w hw 66 rfl) (own_w hw 57 rfl) (by decide) (by decide)) (g := (mkF m 237 #[iv p0, iv p1, iv p2, iv p3, iv p4, iv p5, iv 2, iv y0, iv y1, iv y2, rv b318, iv pr, iv ((2 : Int32) - pr), iv tl, iv ((((p5.toUInt32 >>> ((10 : Int32) &&& 31).toUInt32).toInt32) &&& (3 : Int32)) - (1 : Int32)), iv tc, rv vx, .unset, .unset, .unset] [(.int p2), (.int p0), (.ref b318), (.ref b318), (.ref akP), (.ref b354), (.ref b354)])) rfl (by rw [hml]; rfl) (a := b354) (argsL := [(.ref akP), (.ref b318), (.ref b318), (.int p0), (.int p2)]) (rest := [(.ref b354)]) (lenOf own_pd24 rfl) rfl (by show 2 * 0 + _ ≤ _; exact Nat.le_of_eq rfl) (hb hby at_237) rfl e355 (kc := 7) (ks := 23) rfl rfl (by decide) (by decide)
    obtain ⟨rfl, N356q, K356, Ek356, -, Ft356, Fl356, Fc356⟩ := hQ356
    have N356 := Fr.app N355 N356q
    have SFk : ∀ x ∈ [b354], Safe Z own_EL s.vm h354 x := (sfS (Safe.exa hZ.alike E_b354 (by decide) (by decide)) sf0)
    have CHR := CHR.trans (CHr.keep K356 SFk CH)
    have CH := CH.keep K356 SFk
    have OL := OL.keep K356 (allS ge_b354 all0)
    have KP := KP.trans K356 (allS (Or.inr sz_b354) all0)
    have hk1 := Nat.le_trans hk1 K356.1
    have SS := SS.keep K356 (ninS ne_b318_b354 nin0) (ninS ne_tx_b354 nin0)
    have E_b354 := E_b354.keep K356
    refine own_via (mkF m 240 #[iv p0, iv p1, iv p2, iv p3, iv p4, iv p5, iv 2, iv y0, iv y1, iv y2, rv b318, iv pr, iv ((2 : Int32) - pr), iv tl, iv ((((p5.toUInt32 >>> ((10 : Int32) &&& 31).toUInt32).toInt32) &&& (3 : Int32)) - (1 : Int32)), iv tc, rv vx, .unset, .unset, .unset] [(.ref b354)]) st356 ?_
    have EP : Exa Z T356.heap b354 "com/example/ianus/ianus/Token" := Ek356
    have FtP : Fld Z T356.heap b354 "com/example/ianus/ianus/Token" "text" "Ljava/lang/String;" (.ref b318) := Ft356
    have FlP : Fld Z T356.heap b354 "com/example/ianus/ianus/Token" "line" "I" (.int p0) := Fl356
    have FcP : Fld Z T356.heap b354 "com/example/ianus/ianus/Token" "column" "I" (.int p2) := Fc356
    refine own_as 242 #[iv p0, iv p1, iv p2, iv p3, iv p4, iv p5, iv 2, iv y0, iv y1, iv y2, rv b318, iv pr, iv ((2 : Int32) - pr), iv tl, iv ((((p5.toUInt32 >>> ((10 : Int32) &&& 31).toUInt32).toInt32) &&& (3 : Int32)) - (1 : Int32)), iv tc, rv vx, rv b354, .unset, .unset] X356 hx (hb hby at_240) rfl rfl rfl ?_
    obtain ⟨T357, h357, X357, e357, E357, A357, D357, -, st357⟩ := newO X356 hx hZ hown (own_w hw 55 rfl) (own_w hw 56 rfl) (own_w hw 57 rfl) rfl (g := (mkF m 242 #[iv p0, iv p1, iv p2, iv p3, iv p4, iv p5, iv 2, iv y0, iv y1, iv y2, rv b318, iv pr, iv ((2 : Int32) - pr), iv tl, iv ((((p5.toUInt32 >>> ((10 : Int32) &&& 31).toUInt32).toInt32) &&& (3 : Int32)) - (1 : Int32)), iv tc, rv vx, rv b354, .unset, .unset] [])) rfl (hb hby at_242) (by decide) (by decide)
    obtain ⟨b357, g357⟩ : ∃ z, z = T356.heap.size := ⟨_, rfl⟩
    rw [← g357] at A357 D357 st357
    have sz_b357 : h0.size ≤ b357 := Nat.le_trans KP.1 (Nat.le_of_eq g357.symm)
    have ge_b357 : n0 ≤ b357 := Nat.le_trans Z0 sz_b357
    have ne_b318_b357 : b318 ≠ b357 := Nat.ne_of_lt (Nat.lt_of_lt_of_le SS.lt (Nat.le_of_eq g357.symm))
    have ne_tx_b357 : tx ≠ b357 := Nat.ne_of_lt (Nat.lt_of_lt_of_le SS.ltT (Nat.le_of_eq g357.symm))
    have ne_b354_b357 : b354 ≠ b357 := Nat.ne_of_lt (Nat.lt_of_lt_of_le EP.lt (Nat.le_of_eq g357.symm))
    have CHR := CHR.trans (CHr.ext E357 CH)
    have CH := CH.ext E357
    have OL := OL.ext E357
    have KP := KP.ext E357
    have hk1 := Nat.le_trans hk1 E357.1
    have SS := SS.ext E357
    have EP := EP.ext E357
    have FtP := FtP.ext E357
    have FlP := FlP.ext E357
    have FcP := FcP.ext E357
    have E_b357 : Exa Z h357 b357 "com/example/ianus/ianus/Token" := A357
    have F_kind_b357 : Fld Z h357 b357 "com/example/ianus/ianus/Token" "kind" "Lcom/example/ianus/ianus/Token$Kind;" .null := D357 (Or.inr (own_w hw 69 rfl)) (ty := (.object "com/example/ianus/ianus/Token$Kind")) (by decide)
    have F_text_b357 : Fld Z h357 b357 "com/example/ianus/ianus/Token" "text" "Ljava/lang/String;" .null := D357 (Or.inr (own_w hw 71 rfl)) (ty := (.object "java/lang/String")) (by decide)
    have F_value_b357 : Fld Z h357 b357 "com/example/ianus/ianus/Token" "value" "Ljava/lang/String;" .null := D357 (Or.inr (own_w hw 73 rfl)) (ty := (.object "java/lang/String")) (by decide)
    have F_line_b357 : Fld Z h357 b357 "com/example/ianus/ianus/Token" "line" "I" (.int (0 : Int32)) := D357 (Or.inr (own_w hw 75 rfl)) (ty := .int) (by decide)
    have F_column_b357 : Fld Z h357 b357 "com/example/ianus/ianus/Token" "column" "I" (.int (0 : Int32)) := D357 (Or.inr (own_w hw 77 rfl)) (ty := .int) (by decide)
    refine own_to (mkF m 245 #[iv p0, iv p1, iv p2, iv p3, iv p4, iv p5, iv 2, iv y0, iv y1, iv y2, rv b318, iv pr, iv ((2 : Int32) - pr), iv tl, iv ((((p5.toUInt32 >>> ((10 : Int32) &&& 31).toUInt32).toInt32) &&& (3 : Int32)) - (1 : Int32)), iv tc, rv vx, rv b354, .unset, .unset] [(.ref b357)]) st357 ?_
    refine own_dup 246 X357 hx (hb hby at_245) rfl rfl ?_
    refine own_il 248 X357 hx (hb hby at_246) rfl rfl ?_
    refine own_bi 250 15 X357 hx (hb hby at_248) rfl rfl ?_
    refine own_iushr 251 X357 hx (hb hby at_250) rfl rfl ?_
    refine own_bi 253 7 X357 hx (hb hby at_251) rfl rfl ?_
    refine own_iand 254 X357 hx (hb hby at_253) rfl rfl ?_
    generalize hkxT : (((p5.toUInt32 >>> ((15 : Int32) &&& 31).toUInt32).toInt32) &&& (7 : Int32)) = kxT
    obtain ⟨_, T358, Lc358, X358, hQ358, st358⟩ := own_callS X357 hx (y := (⟨"com/example/ianus/ianus/TokenFollowsPinLaw", "kindOf", "(I)Lcom/example/ianus/ianus/Token$Kind;"⟩ : MethodName)) hown (mvT hZ (own_w hw 58 rfl)) (mvT hZ (own_w hw 59 rfl)) (mvT hZ (own_w hw 2 rfl)) (mvT hZ (own_w hw 60 rfl)) (by decide) (backOf (W := 2) (own_rmKO l Z a0 hw [] kxT aI aS aN aY aE h357 n0 (Nat.le_trans Z0 KP.1) OL SaI SaS SaN SaY SaE) hZ (own_w hw 60 rfl) (own_w hw 2 rfl) (by decide) (by decide)) (g := (mkF m 254 #[iv p0, iv p1, iv p2, iv p3, iv p4, iv p5, iv 2, iv y0, iv y1, iv y2, rv b318, iv pr, iv ((2 : Int32) - pr), iv tl, iv ((((p5.toUInt32 >>> ((10 : Int32) &&& 31).toUInt32).toInt32) &&& (3 : Int32)) - (1 : Int32)), iv tc, rv vx, rv b354, .unset, .unset] [(.int kxT), (.ref b357), (.ref b357)])) rfl (by rw [hml]; rfl) (argsL := [(.int kxT)]) (rest := [(.ref b357), (.ref b357)]) (lenOf own_pd23 rfl) rfl (by show 2 * 0 + _ ≤ _; exact Nat.le_of_eq rfl) (hb hby at_254) rfl e357 (kc := 8) (ks := 28) rfl rfl (by decide) (by decide)
    obtain ⟨akT, rfl, N358q, e358⟩ := hQ358
    have N358 := Fr.app N356 N358q
    refine own_to (mkF m 257 #[iv p0, iv p1, iv p2, iv p3, iv p4, iv p5, iv 2, iv y0, iv y1, iv y2, rv b318, iv pr, iv ((2 : Int32) - pr), iv tl, iv ((((p5.toUInt32 >>> ((10 : Int32) &&& 31).toUInt32).toInt32) &&& (3 : Int32)) - (1 : Int32)), iv tc, rv vx, rv b354, .unset, .unset] [(.ref akT), (.ref b357), (.ref b357)]) st358 ?_
    refine own_al 259 X358 hx (hb hby at_257) rfl rfl rfl ?_
    refine own_al 261 X358 hx (hb hby at_259) rfl rfl rfl ?_
    refine own_il 263 X358 hx (hb hby at_261) rfl rfl ?_
    refine own_il 265 X358 hx (hb hby at_263) rfl rfl ?_
    obtain ⟨_, T359, Lc359, X359, hQ359, st359⟩ := own_special X358 hx (y := (⟨"com/example/ianus/ianus/Token", "<init>", "(Lcom/example/ianus/ianus/Token$Kind;Ljava/lang/String;Ljava/lang/String;II)V"⟩ : MethodName)) rfl hown (mvT hZ (own_w hw 64 rfl)) (mvT hZ (own_w hw 65 rfl)) (mvT hZ (own_w hw 66 rfl)) (by decide) (backOf (W := 1) (own_rmCT l Z a0 hw [] b357 akT vx vx tl tc h357 n0 (Nat.le_trans Z0 KP.1) OL ge_b357 E_b357 F_kind_b357 F_text_b357 F_value_b357 F_line_b357 F_column_b357) hZ (own_w hw 66 rfl) (own_w hw 57 rfl) (by decide) (by decide)) (g := (mkF m 265 #[iv p0, iv p1, iv p2, iv p3, iv p4, iv p5, iv 2, iv y0, iv y1, iv y2, rv b318, iv pr, iv ((2 : Int32) - pr), iv tl, iv ((((p5.toUInt32 >>> ((10 : Int32) &&& 31).toUInt32).toInt32) &&& (3 : Int32)) - (1 : Int32)), iv tc, rv vx, rv b354, .unset, .unset] [(.int tc), (.int tl), (.ref vx), (.ref vx), (.ref akT), (.ref b357), (.ref b357)])) rfl (by rw [hml]; rfl) (a := b357) (argsL := [(.ref akT), (.ref vx), (.ref vx), (.int tl), (.int tc)]) (rest := [(.ref b357)]) (lenOf own_pd24 rfl) rfl (by show 2 * 0 + _ ≤ _; exact Nat.le_of_eq rfl) (hb hby at_265) rfl e358 (kc := 8) (ks := 28) rfl rfl (by decide) (by decide)
    obtain ⟨rfl, N359q, K359, Ek359, -, Ft359, Fl359, Fc359⟩ := hQ359
    have N359 := Fr.app N358 N359q
    have SFk : ∀ x ∈ [b357], Safe Z own_EL s.vm h357 x := (sfS (Safe.exa hZ.alike E_b357 (by decide) (by decide)) sf0)
    have CHR := CHR.trans (CHr.keep K359 SFk CH)
    have CH := CH.keep K359 SFk
    have OL := OL.keep K359 (allS ge_b357 all0)
    have KP := KP.trans K359 (allS (Or.inr sz_b357) all0)
    have hk1 := Nat.le_trans hk1 K359.1
    have SS := SS.keep K359 (ninS ne_b318_b357 nin0) (ninS ne_tx_b357 nin0)
    have EP := EP.keep K359
    have FtP := FtP.keep K359 (ninS ne_b354_b357 nin0)
    have FlP := FlP.keep K359 (ninS ne_b354_b357 nin0)
    have FcP := FcP.keep K359 (ninS ne_b354_b357 nin0)
    have E_b357 := E_b357.keep K359
    refine own_via (mkF m 268 #[iv p0, iv p1, iv p2, iv p3, iv p4, iv p5, iv 2, iv y0, iv y1, iv y2, rv b318, iv pr, iv ((2 : Int32) - pr), iv tl, iv ((((p5.toUInt32 >>> ((10 : Int32) &&& 31).toUInt32).toInt32) &&& (3 : Int32)) - (1 : Int32)), iv tc, rv vx, rv b354, .unset, .unset] [(.ref b357)]) st359 ?_
    have ET : Exa Z T359.heap b357 "com/example/ianus/ianus/Token" := Ek359
    have FlT : Fld Z T359.heap b357 "com/example/ianus/ianus/Token" "line" "I" (.int tl) := Fl359
    have FcT : Fld Z T359.heap b357 "com/example/ianus/ianus/Token" "column" "I" (.int tc) := Fc359
    refine own_as 270 #[iv p0, iv p1, iv p2, iv p3, iv p4, iv p5, iv 2, iv y0, iv y1, iv y2, rv b318, iv pr, iv ((2 : Int32) - pr), iv tl, iv ((((p5.toUInt32 >>> ((10 : Int32) &&& 31).toUInt32).toInt32) &&& (3 : Int32)) - (1 : Int32)), iv tc, rv vx, rv b354, rv b357, .unset] X359 hx (hb hby at_268) rfl rfl rfl ?_
    refine own_il 272 X359 hx (hb hby at_270) rfl rfl ?_
    refine own_iln 273 X359 hx (hb hby at_272) rfl rfl ?_
    suffices jn360 : ∀ xx : Int32, ((xx = 1 ∧ tl = p0 ∧ tc = (p2 + ((2 : Int32) - pr))) ∨ (xx = 0 ∧ (¬ tl = p0 ∨ ¬ tc = (p2 + ((2 : Int32) - pr))))) → own_E p e below (own_FinH Z s (own_Q0 Z p0 p1 p2 p3 p4 p5 G1 aI aS aN aY aE h0 n0) room_1.cells room_1.slots) T359 (mkF m 290 #[iv p0, iv p1, iv p2, iv p3, iv p4, iv p5, iv 2, iv y0, iv y1, iv y2, rv b318, iv pr, iv ((2 : Int32) - pr), iv tl, iv ((((p5.toUInt32 >>> ((10 : Int32) &&& 31).toUInt32).toInt32) &&& (3 : Int32)) - (1 : Int32)), iv tc, rv vx, rv b354, rv b357, .unset] [(.int xx)]) from by
      by_cases hxa0 : tl = p0
      · refine own_icN 276 X359 hx (hb hby at_273) (teq hxa0).2 rfl ?_
        refine own_il 278 X359 hx (hb hby at_276) rfl rfl ?_
        refine own_iln 279 X359 hx (hb hby at_278) rfl rfl ?_
        refine own_il 281 X359 hx (hb hby at_279) rfl rfl ?_
        refine own_iadd 282 X359 hx (hb hby at_281) rfl rfl ?_
        by_cases hxa1 : tc = (p2 + ((2 : Int32) - pr))
        · refine own_icN 285 X359 hx (hb hby at_282) (teq hxa1).2 rfl ?_
          refine own_ic 286 1 X359 hx (hb hby at_285) rfl rfl ?_
          refine own_go 290 X359 hx (hb hby at_286) (by decide) (by decide) ?_
          exact jn360 (1 : Int32) (Or.inl ⟨rfl, hxa0, hxa1⟩)
        · refine own_icY 289 X359 hx (hb hby at_282) (feq hxa1).2 (by decide) (by decide) ?_
          refine own_ic 290 0 X359 hx (hb hby at_289) rfl rfl ?_
          exact jn360 (0 : Int32) (Or.inr ⟨rfl, Or.inr hxa1⟩)
      · refine own_icY 289 X359 hx (hb hby at_273) (feq hxa0).2 (by decide) (by decide) ?_
        refine own_ic 290 0 X359 hx (hb hby at_289) rfl rfl ?_
        exact jn360 (0 : Int32) (Or.inr ⟨rfl, Or.inl hxa0⟩)
    intro xx hxx
    refine own_is 292 #[iv p0, iv p1, iv p2, iv p3, iv p4, iv p5, iv 2, iv y0, iv y1, iv y2, rv b318, iv pr, iv ((2 : Int32) - pr), iv tl, iv ((((p5.toUInt32 >>> ((10 : Int32) &&& 31).toUInt32).toInt32) &&& (3 : Int32)) - (1 : Int32)), iv tc, rv vx, rv b354, rv b357, iv xx] X359 hx (hb hby at_290) rfl rfl ?_
    refine own_al 294 X359 hx (hb hby at_292) rfl rfl rfl ?_
    refine own_al 296 X359 hx (hb hby at_294) rfl rfl rfl ?_
    obtain ⟨cq361, kq361, q361a, q361b, q361c⟩ := isOf hZ rfl ET
    obtain ⟨_, T361, Lc361, X361, hQ361, st361⟩ := own_virtual X359 hx (y := (⟨"com/example/ianus/ianus/Token", "follows", "(Lcom/example/ianus/ianus/Token;)Z"⟩ : MethodName)) (z := (⟨"com/example/ianus/ianus/Token", "follows", "(Lcom/example/ianus/ianus/Token;)Z"⟩ : MethodName)) hown (mvT hZ (own_w hw 78 rfl)) (mvT hZ (own_w hw 79 rfl)) (notFace_of_selects (args := #[]) (mvT hZ (own_w hw 81 rfl))) (mvT hZ (own_w hw 81 rfl)) (mvT hZ (own_w hw 80 rfl)) (by decide) (backOf (W := 0) (own_rmFO_2 l Z a0 hw [] y0 y1 G1 b318 tx kx b357 b354 tl tc p0 p2 T359.heap n0 (Nat.le_trans Z0 KP.1) OL c16_y0 c16_y1 SS O2 P5 OAD OHI OLO FlT FcT FlP FcP FtP) hZ (own_w hw 82 rfl) (own_w hw 57 rfl) (by decide) (by decide)) q361a q361c (g := (mkF m 296 #[iv p0, iv p1, iv p2, iv p3, iv p4, iv p5, iv 2, iv y0, iv y1, iv y2, rv b318, iv pr, iv ((2 : Int32) - pr), iv tl, iv ((((p5.toUInt32 >>> ((10 : Int32) &&& 31).toUInt32).toInt32) &&& (3 : Int32)) - (1 : Int32)), iv tc, rv vx, rv b354, rv b357, iv xx] [(.ref b354), (.ref b357)])) rfl (by rw [hml]; rfl) (argsL := [(.ref b354)]) (rest := []) (lenOf own_pd25 rfl) rfl (by show 2 * 0 + _ ≤ _; exact Nat.le_of_eq rfl) (hb hby at_296) rfl rfl (kc := 8) (ks := 28) rfl rfl (by decide) (by decide)
    obtain ⟨rr, rfl, hrr, N361q, e361⟩ := hQ361
    have N361 := Fr.app N359 N361q
    refine own_via (mkF m 299 #[iv p0, iv p1, iv p2, iv p3, iv p4, iv p5, iv 2, iv y0, iv y1, iv y2, rv b318, iv pr, iv ((2 : Int32) - pr), iv tl, iv ((((p5.toUInt32 >>> ((10 : Int32) &&& 31).toUInt32).toInt32) &&& (3 : Int32)) - (1 : Int32)), iv tc, rv vx, rv b354, rv b357, iv xx] [(.int rr)]) st361 ?_
    refine own_il 301 X361 hx (hb hby at_299) rfl rfl ?_
    refine own_icN 304 X361 hx (hb hby at_301) (teq (own_fin (P := fun q => own_P2 y0 y1 q) own_U2 hpr hrr hxx)).2 rfl ?_
    refine own_ic 305 1 X361 hx (hb hby at_304) rfl rfl ?_
    refine own_go 309 X361 hx (hb hby at_305) (by decide) (by decide) ?_
    exact own_retNH (s := s) (vm₁ := s.vm) X361 hS (by rw [e361]; exact hk1) hZ hEW (by rw [e361]; exact CH) (by rw [hh, e361]; exact CHR) hx (t := .boolean) Bd.returns (by simp) hlk (hb hby at_309) (by decide) (by decide) (by rw [e361]; exact ⟨rfl, N361⟩)
  · subst q
    have KP0 := KP
    have lt0_b318 := E_b318.lt
    obtain ⟨_, T362, Lc362, X362, hQ362, st362⟩ := own_callS X318 hx (y := (⟨"com/example/ianus/ianus/TokenFollowsPinLaw", "pick", "(ICCC)[C"⟩ : MethodName)) hown (mvT hZ (own_w hw 7 rfl)) (mvT hZ (own_w hw 8 rfl)) (mvT hZ (own_w hw 2 rfl)) (mvT hZ (own_w hw 9 rfl)) (by decide) (backOf (W := 2) (own_rmPK_3 l Z a0 hw [] y0 y1 y2 h318 n0 (Nat.le_trans Z0 KP.1) OL c16_y0 c16_y1 c16_y2) hZ (own_w hw 9 rfl) (own_w hw 2 rfl) (by decide) (by decide)) (g := (mkF m 76 #[iv p0, iv p1, iv p2, iv p3, iv p4, iv p5, iv 3, iv y0, iv y1, iv y2, .unset, .unset, .unset, .unset, .unset, .unset, .unset, .unset, .unset, .unset] [(.int y2), (.int y1), (.int y0), (.int (3 : Int32)), (.ref b318), (.ref b318)])) rfl (by rw [hml]; rfl) (argsL := [(.int (3 : Int32)), (.int y0), (.int y1), (.int y2)]) (rest := [(.ref b318), (.ref b318)]) (lenOf own_pd20 rfl) rfl (by show 2 * 0 + _ ≤ _; exact Nat.le_of_eq rfl) (hb hby at_76) rfl e318 (kc := 2) (ks := 7) rfl rfl (by decide) (by decide)
    obtain ⟨ar, kar, rfl, N362q, K362, ge_ar, sz0_ar, V_ar⟩ := hQ362
    have N362 := Fr.app N317 N362q
    have CHR := CHR.trans (CHr.keep K362 sf0 CH)
    have CH := CH.keep K362 sf0
    have OL := OL.keep K362 all0
    have KP := KP.trans K362 all0
    have hk1 := Nat.le_trans hk1 K362.1
    have E_b318 := E_b318.keep K362
    have F_coder_b318 := F_coder_b318.keep K362 nin0
    have F_value_b318 := F_value_b318.keep K362 nin0
    refine own_to (mkF m 79 #[iv p0, iv p1, iv p2, iv p3, iv p4, iv p5, iv 3, iv y0, iv y1, iv y2, .unset, .unset, .unset, .unset, .unset, .unset, .unset, .unset, .unset, .unset] [(.ref ar), (.ref b318), (.ref b318)]) st362 ?_
    have sz_ar : h0.size ≤ ar := Nat.le_trans KP0.1 sz0_ar
    have ne_b318_ar : b318 ≠ ar := Nat.ne_of_lt (Nat.lt_of_lt_of_le lt0_b318 sz0_ar)
    have KP0 := KP
    have lt0_b318 := E_b318.lt
    have lt0_ar := V_ar.lt
    obtain ⟨_, T363, Lc363, X363, hQ363, st363⟩ := own_special X362 hx (y := (⟨"java/lang/String", "<init>", "([C)V"⟩ : MethodName)) rfl hown (mvT hZ (own_w hw 11 rfl)) (mvT hZ (own_w hw 12 rfl)) (mvT hZ (own_w hw 13 rfl)) (by decide) (backOf (W := 1) (own_rmI1_3 l Z a0 hw [] y0 y1 y2 G1 b318 ar kar T362.heap n0 (Nat.le_trans Z0 KP.1) OL ge_b318 ne_b318_ar E_b318 F_value_b318 F_coder_b318 c16_y0 c16_y1 c16_y2 V_ar O2 P5 OAD OHI OLO) hZ (own_w hw 13 rfl) (own_w hw 6 rfl) (by decide) (by decide)) (g := (mkF m 79 #[iv p0, iv p1, iv p2, iv p3, iv p4, iv p5, iv 3, iv y0, iv y1, iv y2, .unset, .unset, .unset, .unset, .unset, .unset, .unset, .unset, .unset, .unset] [(.ref ar), (.ref b318), (.ref b318)])) rfl (by rw [hml]; rfl) (a := b318) (argsL := [(.ref ar)]) (rest := [(.ref b318)]) (lenOf own_pd21 rfl) rfl (by show 2 * 0 + _ ≤ _; exact Nat.le_of_eq rfl) (hb hby at_79) rfl rfl (kc := 4) (ks := 16) rfl rfl (by decide) (by decide)
    obtain ⟨rfl, N363q, K363, tx, kx, ge_tx, sz0_tx, hor363⟩ := hQ363
    have N363 := Fr.app N362 N363q
    have SFk : ∀ x ∈ [b318], Safe Z own_EL s.vm T362.heap x := (sfS (own_safeN hZ.alike E_b318 F_value_b318) sf0)
    have CHR := CHR.trans (CHr.keep K363 SFk CH)
    have CH := CH.keep K363 SFk
    have OL := OL.keep K363 (allS ge_b318 all0)
    have KP := KP.trans K363 (allS (Or.inr sz_b318) all0)
    have hk1 := Nat.le_trans hk1 K363.1
    have E_b318 := E_b318.keep K363
    have V_ar := V_ar.keep K363 (ninS (Ne.symm ne_b318_ar) nin0)
    refine own_via (mkF m 82 #[iv p0, iv p1, iv p2, iv p3, iv p4, iv p5, iv 3, iv y0, iv y1, iv y2, .unset, .unset, .unset, .unset, .unset, .unset, .unset, .unset, .unset, .unset] [(.ref b318)]) st363 ?_
    have sz_tx : h0.size ≤ tx := Nat.le_trans KP0.1 sz0_tx
    have ne_ar_tx : ar ≠ tx := Nat.ne_of_lt (Nat.lt_of_lt_of_le lt0_ar sz0_tx)
    have SS : own_S3 Z T363.heap b318 tx kx y0 y1 y2 := (by rcases hor363 with ⟨g0, g1, g2, g⟩ | g; exact Or.inl ⟨own_P3c (fun q => own_nhs g0 q.1) (fun q => own_nhs g1 q.1), g⟩; exact Or.inr g)
    refine own_as 84 #[iv p0, iv p1, iv p2, iv p3, iv p4, iv p5, iv 3, iv y0, iv y1, iv y2, rv b318, .unset, .unset, .unset, .unset, .unset, .unset, .unset, .unset, .unset] X363 hx (hb hby at_82) rfl rfl rfl ?_
    refine own_ic 85 0 X363 hx (hb hby at_84) rfl rfl ?_
    refine own_is 87 #[iv p0, iv p1, iv p2, iv p3, iv p4, iv p5, iv 3, iv y0, iv y1, iv y2, rv b318, iv 0, .unset, .unset, .unset, .unset, .unset, .unset, .unset, .unset] X363 hx (hb hby at_85) rfl rfl ?_
    refine own_il 89 X363 hx (hb hby at_87) rfl rfl ?_
    refine own_ic 90 2 X363 hx (hb hby at_89) rfl rfl ?_
    refine own_icN 93 X363 hx (hb hby at_90) (flt (by decide : ¬ ((3 : Int32) < (2 : Int32)))).1 rfl ?_
    refine own_il 95 X363 hx (hb hby at_93) rfl rfl ?_
    suffices jn364 : ∀ (pr : Int32) (T365 : State) (L365 : List Loc) (N365 : Fr n0 L365) (X365 : Stand p l e room_1 s m #[(.int p0), (.int p1), (.int p2), (.int p3), (.int p4), (.int p5)] below meth c T365 L365 4 16) (e365 : T365.heap = T363.heap), (own_P3 y0 y1 y2 ((3 : Int32) - pr)) → own_E p e below (own_FinH Z s (own_Q0 Z p0 p1 p2 p3 p4 p5 G1 aI aS aN aY aE h0 n0) room_1.cells room_1.slots) T365 (mkF m 143 #[iv p0, iv p1, iv p2, iv p3, iv p4, iv p5, iv 3, iv y0, iv y1, iv y2, rv b318, iv pr, .unset, .unset, .unset, .unset, .unset, .unset, .unset, .unset] []) from by
      obtain ⟨_, T366, Lc366, X366, hQ366, st366⟩ := own_callS X363 hx (y := (⟨"com/example/ianus/ianus/TokenFollowsPinLaw", "isHigh", "(C)Z"⟩ : MethodName)) hown (mvT hZ (own_w hw 37 rfl)) (mvT hZ (own_w hw 38 rfl)) (mvT hZ (own_w hw 2 rfl)) (mvT hZ (own_w hw 39 rfl)) (by decide) (backOf (W := 0) (own_rmIH l Z a0 hw [] y0 T363.heap n0 (Nat.le_trans Z0 KP.1) OL ) hZ (own_w hw 39 rfl) (own_w hw 2 rfl) (by decide) (by decide)) (g := (mkF m 95 #[iv p0, iv p1, iv p2, iv p3, iv p4, iv p5, iv 3, iv y0, iv y1, iv y2, rv b318, iv 0, .unset, .unset, .unset, .unset, .unset, .unset, .unset, .unset] [(.int y0)])) rfl (by rw [hml]; rfl) (argsL := [(.int y0)]) (rest := []) (lenOf own_pd9 rfl) rfl (by show 2 * 0 + _ ≤ _; exact Nat.le_of_eq rfl) (hb hby at_95) rfl rfl (kc := 4) (ks := 16) rfl rfl (by decide) (by decide)
      obtain ⟨N366q, e366, hor366⟩ := hQ366
      have N366 := Fr.app N363 N366q
      rcases hor366 with ⟨rfl, hs0⟩ | ⟨rfl, hs0⟩
      · refine own_to (mkF m 98 #[iv p0, iv p1, iv p2, iv p3, iv p4, iv p5, iv 3, iv y0, iv y1, iv y2, rv b318, iv 0, .unset, .unset, .unset, .unset, .unset, .unset, .unset, .unset] [(.int (1 : Int32))]) st366 ?_
        refine own_ifN 101 X366 hx (hb hby at_98) ((if0 _ _).trans (feq (by decide : ¬ ((1 : Int32) = (0 : Int32)))).1) rfl ?_
        refine own_il 103 X366 hx (hb hby at_101) rfl rfl ?_
        obtain ⟨_, T369, Lc369, X369, hQ369, st369⟩ := own_callS X366 hx (y := (⟨"com/example/ianus/ianus/TokenFollowsPinLaw", "isLow", "(C)Z"⟩ : MethodName)) hown (mvT hZ (own_w hw 104 rfl)) (mvT hZ (own_w hw 105 rfl)) (mvT hZ (own_w hw 2 rfl)) (mvT hZ (own_w hw 106 rfl)) (by decide) (backOf (W := 0) (own_rmIL l Z a0 hw [] y1 T363.heap n0 (Nat.le_trans Z0 KP.1) OL ) hZ (own_w hw 106 rfl) (own_w hw 2 rfl) (by decide) (by decide)) (g := (mkF m 103 #[iv p0, iv p1, iv p2, iv p3, iv p4, iv p5, iv 3, iv y0, iv y1, iv y2, rv b318, iv 0, .unset, .unset, .unset, .unset, .unset, .unset, .unset, .unset] [(.int y1)])) rfl (by rw [hml]; rfl) (argsL := [(.int y1)]) (rest := []) (lenOf own_pd9 rfl) rfl (by show 2 * 0 + _ ≤ _; exact Nat.le_of_eq rfl) (hb hby at_103) rfl e366 (kc := 4) (ks := 16) rfl rfl (by decide) (by decide)
        obtain ⟨N369q, e369, hor369⟩ := hQ369
        have N369 := Fr.app N366 N369q
        rcases hor369 with ⟨rfl, ls0⟩ | ⟨rfl, ls0⟩
        · refine own_to (mkF m 106 #[iv p0, iv p1, iv p2, iv p3, iv p4, iv p5, iv 3, iv y0, iv y1, iv y2, rv b318, iv 0, .unset, .unset, .unset, .unset, .unset, .unset, .unset, .unset] [(.int (1 : Int32))]) st369 ?_
          refine own_ifN 109 X369 hx (hb hby at_106) ((if0 _ _).trans (feq (by decide : ¬ ((1 : Int32) = (0 : Int32)))).1) rfl ?_
          refine own_il 111 X369 hx (hb hby at_109) rfl rfl ?_
          refine own_ic 112 1 X369 hx (hb hby at_111) rfl rfl ?_
          refine own_iadd 113 X369 hx (hb hby at_112) (z := (1 : Int32)) rfl rfl ?_
          refine own_is 115 #[iv p0, iv p1, iv p2, iv p3, iv p4, iv p5, iv 3, iv y0, iv y1, iv y2, rv b318, iv 1, .unset, .unset, .unset, .unset, .unset, .unset, .unset, .unset] X369 hx (hb hby at_113) rfl rfl ?_
          refine own_il 117 X369 hx (hb hby at_115) rfl rfl ?_
          refine own_ic 118 3 X369 hx (hb hby at_117) rfl rfl ?_
          refine own_icN 121 X369 hx (hb hby at_118) (flt (by decide : ¬ ((3 : Int32) < (3 : Int32)))).1 rfl ?_
          refine own_il 123 X369 hx (hb hby at_121) rfl rfl ?_
          obtain ⟨_, T370, Lc370, X370, hQ370, st370⟩ := own_callS X369 hx (y := (⟨"com/example/ianus/ianus/TokenFollowsPinLaw", "isHigh", "(C)Z"⟩ : MethodName)) hown (mvT hZ (own_w hw 37 rfl)) (mvT hZ (own_w hw 38 rfl)) (mvT hZ (own_w hw 2 rfl)) (mvT hZ (own_w hw 39 rfl)) (by decide) (backOf (W := 0) (own_rmIH l Z a0 hw [] y1 T363.heap n0 (Nat.le_trans Z0 KP.1) OL ) hZ (own_w hw 39 rfl) (own_w hw 2 rfl) (by decide) (by decide)) (g := (mkF m 123 #[iv p0, iv p1, iv p2, iv p3, iv p4, iv p5, iv 3, iv y0, iv y1, iv y2, rv b318, iv 1, .unset, .unset, .unset, .unset, .unset, .unset, .unset, .unset] [(.int y1)])) rfl (by rw [hml]; rfl) (argsL := [(.int y1)]) (rest := []) (lenOf own_pd9 rfl) rfl (by show 2 * 0 + _ ≤ _; exact Nat.le_of_eq rfl) (hb hby at_123) rfl e369 (kc := 4) (ks := 16) rfl rfl (by decide) (by decide)
          obtain ⟨N370q, e370, hor370⟩ := hQ370
          have N370 := Fr.app N369 N370q
          rcases hor370 with ⟨rfl, hs1⟩ | ⟨rfl, hs1⟩
          · refine own_to (mkF m 126 #[iv p0, iv p1, iv p2, iv p3, iv p4, iv p5, iv 3, iv y0, iv y1, iv y2, rv b318, iv 1, .unset, .unset, .unset, .unset, .unset, .unset, .unset, .unset] [(.int (1 : Int32))]) st370 ?_
            refine own_ifN 129 X370 hx (hb hby at_126) ((if0 _ _).trans (feq (by decide : ¬ ((1 : Int32) = (0 : Int32)))).1) rfl ?_
            refine own_il 131 X370 hx (hb hby at_129) rfl rfl ?_
            obtain ⟨_, T371, Lc371, X371, hQ371, st371⟩ := own_callS X370 hx (y := (⟨"com/example/ianus/ianus/TokenFollowsPinLaw", "isLow", "(C)Z"⟩ : MethodName)) hown (mvT hZ (own_w hw 104 rfl)) (mvT hZ (own_w hw 105 rfl)) (mvT hZ (own_w hw 2 rfl)) (mvT hZ (own_w hw 106 rfl)) (by decide) (backOf (W := 0) (own_rmIL l Z a0 hw [] y2 T363.heap n0 (Nat.le_trans Z0 KP.1) OL ) hZ (own_w hw 106 rfl) (own_w hw 2 rfl) (by decide) (by decide)) (g := (mkF m 131 #[iv p0, iv p1, iv p2, iv p3, iv p4, iv p5, iv 3, iv y0, iv y1, iv y2, rv b318, iv 1, .unset, .unset, .unset, .unset, .unset, .unset, .unset, .unset] [(.int y2)])) rfl (by rw [hml]; rfl) (argsL := [(.int y2)]) (rest := []) (lenOf own_pd9 rfl) rfl (by show 2 * 0 + _ ≤ _; exact Nat.le_of_eq rfl) (hb hby at_131) rfl e370 (kc := 4) (ks := 16) rfl rfl (by decide) (by decide)
            obtain ⟨N371q, e371, hor371⟩ := hQ371
            have N371 := Fr.app N370 N371q
            rcases hor371 with ⟨rfl, ls1⟩ | ⟨rfl, ls1⟩
            · refine own_to (mkF m 134 #[iv p0, iv p1, iv p2, iv p3, iv p4, iv p5, iv 3, iv y0, iv y1, iv y2, rv b318, iv 1, .unset, .unset, .unset, .unset, .unset, .unset, .unset, .unset] [(.int (1 : Int32))]) st371 ?_
              refine own_ifN 137 X371 hx (hb hby at_134) ((if0 _ _).trans (feq (by decide : ¬ ((1 : Int32) = (0 : Int32)))).1) rfl ?_
              refine own_il 139 X371 hx (hb hby at_137) rfl rfl ?_
              refine own_ic 140 1 X371 hx (hb hby at_139) rfl rfl ?_
              refine own_iadd 141 X371 hx (hb hby at_140) (z := (2 : Int32)) rfl rfl ?_
              refine own_is 143 #[iv p0, iv p1, iv p2, iv p3, iv p4, iv p5, iv 3, iv y0, iv y1, iv y2, rv b318, iv 2, .unset, .unset, .unset, .unset, .unset, .unset, .unset, .unset] X371 hx (hb hby at_141) rfl rfl ?_
              exact jn364 (2 : Int32) T371 _ N371 X371 e371 (absurd hs1 (own_nhl ls0))
            · refine own_to (mkF m 134 #[iv p0, iv p1, iv p2, iv p3, iv p4, iv p5, iv 3, iv y0, iv y1, iv y2, rv b318, iv 1, .unset, .unset, .unset, .unset, .unset, .unset, .unset, .unset] [(.int (0 : Int32))]) st371 ?_
              refine own_ifY 143 X371 hx (hb hby at_134) ((if0 _ _).trans (teq (by decide : (0 : Int32) = (0 : Int32))).1) (by decide) (by decide) ?_
              exact jn364 (1 : Int32) T371 _ N371 X371 e371 (own_P3a hs0 ls0)
          · refine own_to (mkF m 126 #[iv p0, iv p1, iv p2, iv p3, iv p4, iv p5, iv 3, iv y0, iv y1, iv y2, rv b318, iv 1, .unset, .unset, .unset, .unset, .unset, .unset, .unset, .unset] [(.int (0 : Int32))]) st370 ?_
            refine own_ifY 143 X370 hx (hb hby at_126) ((if0 _ _).trans (teq (by decide : (0 : Int32) = (0 : Int32))).1) (by decide) (by decide) ?_
            exact jn364 (1 : Int32) T370 _ N370 X370 e370 (own_P3a hs0 ls0)
        · refine own_to (mkF m 106 #[iv p0, iv p1, iv p2, iv p3, iv p4, iv p5, iv 3, iv y0, iv y1, iv y2, rv b318, iv 0, .unset, .unset, .unset, .unset, .unset, .unset, .unset, .unset] [(.int (0 : Int32))]) st369 ?_
          refine own_ifY 115 X369 hx (hb hby at_106) ((if0 _ _).trans (teq (by decide : (0 : Int32) = (0 : Int32))).1) (by decide) (by decide) ?_
          refine own_il 117 X369 hx (hb hby at_115) rfl rfl ?_
          refine own_ic 118 3 X369 hx (hb hby at_117) rfl rfl ?_
          refine own_icN 121 X369 hx (hb hby at_118) (flt (by decide : ¬ ((3 : Int32) < (3 : Int32)))).1 rfl ?_
          refine own_il 123 X369 hx (hb hby at_121) rfl rfl ?_
          obtain ⟨_, T372, Lc372, X372, hQ372, st372⟩ := own_callS X369 hx (y := (⟨"com/example/ianus/ianus/TokenFollowsPinLaw", "isHigh", "(C)Z"⟩ : MethodName)) hown (mvT hZ (own_w hw 37 rfl)) (mvT hZ (own_w hw 38 rfl)) (mvT hZ (own_w hw 2 rfl)) (mvT hZ (own_w hw 39 rfl)) (by decide) (backOf (W := 0) (own_rmIH l Z a0 hw [] y1 T363.heap n0 (Nat.le_trans Z0 KP.1) OL ) hZ (own_w hw 39 rfl) (own_w hw 2 rfl) (by decide) (by decide)) (g := (mkF m 123 #[iv p0, iv p1, iv p2, iv p3, iv p4, iv p5, iv 3, iv y0, iv y1, iv y2, rv b318, iv 0, .unset, .unset, .unset, .unset, .unset, .unset, .unset, .unset] [(.int y1)])) rfl (by rw [hml]; rfl) (argsL := [(.int y1)]) (rest := []) (lenOf own_pd9 rfl) rfl (by show 2 * 0 + _ ≤ _; exact Nat.le_of_eq rfl) (hb hby at_123) rfl e369 (kc := 4) (ks := 16) rfl rfl (by decide) (by decide)
          obtain ⟨N372q, e372, hor372⟩ := hQ372
          have N372 := Fr.app N369 N372q
          rcases hor372 with ⟨rfl, hs1⟩ | ⟨rfl, hs1⟩
          · refine own_to (mkF m 126 #[iv p0, iv p1, iv p2, iv p3, iv p4, iv p5, iv 3, iv y0, iv y1, iv y2, rv b318, iv 0, .unset, .unset, .unset, .unset, .unset, .unset, .unset, .unset] [(.int (1 : Int32))]) st372 ?_
            refine own_ifN 129 X372 hx (hb hby at_126) ((if0 _ _).trans (feq (by decide : ¬ ((1 : Int32) = (0 : Int32)))).1) rfl ?_
            refine own_il 131 X372 hx (hb hby at_129) rfl rfl ?_
            obtain ⟨_, T373, Lc373, X373, hQ373, st373⟩ := own_callS X372 hx (y := (⟨"com/example/ianus/ianus/TokenFollowsPinLaw", "isLow", "(C)Z"⟩ : MethodName)) hown (mvT hZ (own_w hw 104 rfl)) (mvT hZ (own_w hw 105 rfl)) (mvT hZ (own_w hw 2 rfl)) (mvT hZ (own_w hw 106 rfl)) (by decide) (backOf (W := 0) (own_rmIL l Z a0 hw [] y2 T363.heap n0 (Nat.le_trans Z0 KP.1) OL ) hZ (own_w hw 106 rfl) (own_w hw 2 rfl) (by decide) (by decide)) (g := (mkF m 131 #[iv p0, iv p1, iv p2, iv p3, iv p4, iv p5, iv 3, iv y0, iv y1, iv y2, rv b318, iv 0, .unset, .unset, .unset, .unset, .unset, .unset, .unset, .unset] [(.int y2)])) rfl (by rw [hml]; rfl) (argsL := [(.int y2)]) (rest := []) (lenOf own_pd9 rfl) rfl (by show 2 * 0 + _ ≤ _; exact Nat.le_of_eq rfl) (hb hby at_131) rfl e372 (kc := 4) (ks := 16) rfl rfl (by decide) (by decide)
            obtain ⟨N373q, e373, hor373⟩ := hQ373
            have N373 := Fr.app N372 N373q
            rcases hor373 with ⟨rfl, ls1⟩ | ⟨rfl, ls1⟩
            · refine own_to (mkF m 134 #[iv p0, iv p1, iv p2, iv p3, iv p4, iv p5, iv 3, iv y0, iv y1, iv y2, rv b318, iv 0, .unset, .unset, .unset, .unset, .unset, .unset, .unset, .unset] [(.int (1 : Int32))]) st373 ?_
              refine own_ifN 137 X373 hx (hb hby at_134) ((if0 _ _).trans (feq (by decide : ¬ ((1 : Int32) = (0 : Int32)))).1) rfl ?_
              refine own_il 139 X373 hx (hb hby at_137) rfl rfl ?_
              refine own_ic 140 1 X373 hx (hb hby at_139) rfl rfl ?_
              refine own_iadd 141 X373 hx (hb hby at_140) (z := (1 : Int32)) rfl rfl ?_
              refine own_is 143 #[iv p0, iv p1, iv p2, iv p3, iv p4, iv p5, iv 3, iv y0, iv y1, iv y2, rv b318, iv 1, .unset, .unset, .unset, .unset, .unset, .unset, .unset, .unset] X373 hx (hb hby at_141) rfl rfl ?_
              exact jn364 (1 : Int32) T373 _ N373 X373 e373 (own_P3b hs1 ls1)
            · refine own_to (mkF m 134 #[iv p0, iv p1, iv p2, iv p3, iv p4, iv p5, iv 3, iv y0, iv y1, iv y2, rv b318, iv 0, .unset, .unset, .unset, .unset, .unset, .unset, .unset, .unset] [(.int (0 : Int32))]) st373 ?_
              refine own_ifY 143 X373 hx (hb hby at_134) ((if0 _ _).trans (teq (by decide : (0 : Int32) = (0 : Int32))).1) (by decide) (by decide) ?_
              exact jn364 (0 : Int32) T373 _ N373 X373 e373 (own_P3c (fun q => ls0 q.2) (fun q => ls1 q.2))
          · refine own_to (mkF m 126 #[iv p0, iv p1, iv p2, iv p3, iv p4, iv p5, iv 3, iv y0, iv y1, iv y2, rv b318, iv 0, .unset, .unset, .unset, .unset, .unset, .unset, .unset, .unset] [(.int (0 : Int32))]) st372 ?_
            refine own_ifY 143 X372 hx (hb hby at_126) ((if0 _ _).trans (teq (by decide : (0 : Int32) = (0 : Int32))).1) (by decide) (by decide) ?_
            exact jn364 (0 : Int32) T372 _ N372 X372 e372 (own_P3c (fun q => ls0 q.2) (fun q => hs1 q.1))
      · refine own_to (mkF m 98 #[iv p0, iv p1, iv p2, iv p3, iv p4, iv p5, iv 3, iv y0, iv y1, iv y2, rv b318, iv 0, .unset, .unset, .unset, .unset, .unset, .unset, .unset, .unset] [(.int (0 : Int32))]) st366 ?_
        refine own_ifY 115 X366 hx (hb hby at_98) ((if0 _ _).trans (teq (by decide : (0 : Int32) = (0 : Int32))).1) (by decide) (by decide) ?_
        refine own_il 117 X366 hx (hb hby at_115) rfl rfl ?_
        refine own_ic 118 3 X366 hx (hb hby at_117) rfl rfl ?_
        refine own_icN 121 X366 hx (hb hby at_118) (flt (by decide : ¬ ((3 : Int32) < (3 : Int32)))).1 rfl ?_
        refine own_il 123 X366 hx (hb hby at_121) rfl rfl ?_
        obtain ⟨_, T367, Lc367, X367, hQ367, st367⟩ := own_callS X366 hx (y := (⟨"com/example/ianus/ianus/TokenFollowsPinLaw", "isHigh", "(C)Z"⟩ : MethodName)) hown (mvT hZ (own_w hw 37 rfl)) (mvT hZ (own_w hw 38 rfl)) (mvT hZ (own_w hw 2 rfl)) (mvT hZ (own_w hw 39 rfl)) (by decide) (backOf (W := 0) (own_rmIH l Z a0 hw [] y1 T363.heap n0 (Nat.le_trans Z0 KP.1) OL ) hZ (own_w hw 39 rfl) (own_w hw 2 rfl) (by decide) (by decide)) (g := (mkF m 123 #[iv p0, iv p1, iv p2, iv p3, iv p4, iv p5, iv 3, iv y0, iv y1, iv y2, rv b318, iv 0, .unset, .unset, .unset, .unset, .unset, .unset, .unset, .unset] [(.int y1)])) rfl (by rw [hml]; rfl) (argsL := [(.int y1)]) (rest := []) (lenOf own_pd9 rfl) rfl (by show 2 * 0 + _ ≤ _; exact Nat.le_of_eq rfl) (hb hby at_123) rfl e366 (kc := 4) (ks := 16) rfl rfl (by decide) (by decide)
        obtain ⟨N367q, e367, hor367⟩ := hQ367
        have N367 := Fr.app N366 N367q
        rcases hor367 with ⟨rfl, hs1⟩ | ⟨rfl, hs1⟩
        · refine own_to (mkF m 126 #[iv p0, iv p1, iv p2, iv p3, iv p4, iv p5, iv 3, iv y0, iv y1, iv y2, rv b318, iv 0, .unset, .unset, .unset, .unset, .unset, .unset, .unset, .unset] [(.int (1 : Int32))]) st367 ?_
          refine own_ifN 129 X367 hx (hb hby at_126) ((if0 _ _).trans (feq (by decide : ¬ ((1 : Int32) = (0 : Int32)))).1) rfl ?_
          refine own_il 131 X367 hx (hb hby at_129) rfl rfl ?_
          obtain ⟨_, T368, Lc368, X368, hQ368, st368⟩ := own_callS X367 hx (y := (⟨"com/example/ianus/ianus/TokenFollowsPinLaw", "isLow", "(C)Z"⟩ : MethodName)) hown (mvT hZ (own_w hw 104 rfl)) (mvT hZ (own_w hw 105 rfl)) (mvT hZ (own_w hw 2 rfl)) (mvT hZ (own_w hw 106 rfl)) (by decide) (backOf (W := 0) (own_rmIL l Z a0 hw [] y2 T363.heap n0 (Nat.le_trans Z0 KP.1) OL ) hZ (own_w hw 106 rfl) (own_w hw 2 rfl) (by decide) (by decide)) (g := (mkF m 131 #[iv p0, iv p1, iv p2, iv p3, iv p4, iv p5, iv 3, iv y0, iv y1, iv y2, rv b318, iv 0, .unset, .unset, .unset, .unset, .unset, .unset, .unset, .unset] [(.int y2)])) rfl (by rw [hml]; rfl) (argsL := [(.int y2)]) (rest := []) (lenOf own_pd9 rfl) rfl (by show 2 * 0 + _ ≤ _; exact Nat.le_of_eq rfl) (hb hby at_131) rfl e367 (kc := 4) (ks := 16) rfl rfl (by decide) (by decide)
          obtain ⟨N368q, e368, hor368⟩ := hQ368
          have N368 := Fr.app N367 N368q
          rcases hor368 with ⟨rfl, ls1⟩ | ⟨rfl, ls1⟩
          · refine own_to (mkF m 134 #[iv p0, iv p1, iv p2, iv p3, iv p4, iv p5, iv 3, iv y0, iv y1, iv y2, rv b318, iv 0, .unset, .unset, .unset, .unset, .unset, .unset, .unset, .unset] [(.int (1 : Int32))]) st368 ?_
            refine own_ifN 137 X368 hx (hb hby at_134) ((if0 _ _).trans (feq (by decide : ¬ ((1 : Int32) = (0 : Int32)))).1) rfl ?_
            refine own_il 139 X368 hx (hb hby at_137) rfl rfl ?_
            refine own_ic 140 1 X368 hx (hb hby at_139) rfl rfl ?_
            refine own_iadd 141 X368 hx (hb hby at_140) (z := (1 : Int32)) rfl rfl ?_
            refine own_is 143 #[iv p0, iv p1, iv p2, iv p3, iv p4, iv p5, iv 3, iv y0, iv y1, iv y2, rv b318, iv 1, .unset, .unset, .unset, .unset, .unset, .unset, .unset, .unset] X368 hx (hb hby at_141) rfl rfl ?_
            exact jn364 (1 : Int32) T368 _ N368 X368 e368 (own_P3b hs1 ls1)
          · refine own_to (mkF m 134 #[iv p0, iv p1, iv p2, iv p3, iv p4, iv p5, iv 3, iv y0, iv y1, iv y2, rv b318, iv 0, .unset, .unset, .unset, .unset, .unset, .unset, .unset, .unset] [(.int (0 : Int32))]) st368 ?_
            refine own_ifY 143 X368 hx (hb hby at_134) ((if0 _ _).trans (teq (by decide : (0 : Int32) = (0 : Int32))).1) (by decide) (by decide) ?_
            exact jn364 (0 : Int32) T368 _ N368 X368 e368 (own_P3c (fun q => hs0 q.1) (fun q => ls1 q.2))
        · refine own_to (mkF m 126 #[iv p0, iv p1, iv p2, iv p3, iv p4, iv p5, iv 3, iv y0, iv y1, iv y2, rv b318, iv 0, .unset, .unset, .unset, .unset, .unset, .unset, .unset, .unset] [(.int (0 : Int32))]) st367 ?_
          refine own_ifY 143 X367 hx (hb hby at_126) ((if0 _ _).trans (teq (by decide : (0 : Int32) = (0 : Int32))).1) (by decide) (by decide) ?_
          exact jn364 (0 : Int32) T367 _ N367 X367 e367 (own_P3c (fun q => hs0 q.1) (fun q => hs1 q.1))
    intro pr T365 L365 N365 X365 e365 hpr
    refine own_il 145 X365 hx (hb hby at_143) rfl rfl ?_
    refine own_il 147 X365 hx (hb hby at_145) rfl rfl ?_
    refine own_isub 148 X365 hx (hb hby at_147) rfl rfl ?_
    refine own_is 150 #[iv p0, iv p1, iv p2, iv p3, iv p4, iv p5, iv 3, iv y0, iv y1, iv y2, rv b318, iv pr, iv ((3 : Int32) - pr), .unset, .unset, .unset, .unset, .unset, .unset, .unset] X365 hx (hb hby at_148) rfl rfl ?_
    refine own_il 152 X365 hx (hb hby at_150) rfl rfl ?_
    refine own_bi 154 8 X365 hx (hb hby at_152) rfl rfl ?_
    refine own_iushr 155 X365 hx (hb hby at_154) rfl rfl ?_
    refine own_ic 156 1 X365 hx (hb hby at_155) rfl rfl ?_
    refine own_iand 157 X365 hx (hb hby at_156) rfl rfl ?_
    suffices jn374 : ∀ tl : Int32, ((((p5.toUInt32 >>> ((8 : Int32) &&& 31).toUInt32).toInt32) &&& (1 : Int32)) = (0 : Int32) → tl = p1) → (¬ (((p5.toUInt32 >>> ((8 : Int32) &&& 31).toUInt32).toInt32) &&& (1 : Int32)) = (0 : Int32) → tl = p0) → own_E p e below (own_FinH Z s (own_Q0 Z p0 p1 p2 p3 p4 p5 G1 aI aS aN aY aE h0 n0) room_1.cells room_1.slots) T365 (mkF m 165 #[iv p0, iv p1, iv p2, iv p3, iv p4, iv p5, iv 3, iv y0, iv y1, iv y2, rv b318, iv pr, iv ((3 : Int32) - pr), .unset, .unset, .unset, .unset, .unset, .unset, .unset] [(.int tl)]) from by
      by_cases hf8 : (((p5.toUInt32 >>> ((8 : Int32) &&& 31).toUInt32).toInt32) &&& (1 : Int32)) = (0 : Int32)
      · refine own_ifY 164 X365 hx (hb hby at_157) ((if0 _ _).trans (teq hf8).1) (by decide) (by decide) ?_
        refine own_iln 165 X365 hx (hb hby at_164) rfl rfl ?_
        exact jn374 p1 (fun _ => rfl) (fun q => absurd hf8 q)
      · refine own_ifN 160 X365 hx (hb hby at_157) ((if0 _ _).trans (feq hf8).1) rfl ?_
        refine own_iln 161 X365 hx (hb hby at_160) rfl rfl ?_
        refine own_go 165 X365 hx (hb hby at_161) (by decide) (by decide) ?_
        exact jn374 p0 (fun q => absurd q hf8) (fun _ => rfl)
    intro tl htlt htlf
    refine own_is 167 #[iv p0, iv p1, iv p2, iv p3, iv p4, iv p5, iv 3, iv y0, iv y1, iv y2, rv b318, iv pr, iv ((3 : Int32) - pr), iv tl, .unset, .unset, .unset, .unset, .unset, .unset] X365 hx (hb hby at_165) rfl rfl ?_
    refine own_il 169 X365 hx (hb hby at_167) rfl rfl ?_
    refine own_bi 171 10 X365 hx (hb hby at_169) rfl rfl ?_
    refine own_iushr 172 X365 hx (hb hby at_171) rfl rfl ?_
    refine own_ic 173 3 X365 hx (hb hby at_172) rfl rfl ?_
    refine own_iand 174 X365 hx (hb hby at_173) rfl rfl ?_
    refine own_ic 175 1 X365 hx (hb hby at_174) rfl rfl ?_
    refine own_isub 176 X365 hx (hb hby at_175) rfl rfl ?_
    refine own_is 178 #[iv p0, iv p1, iv p2, iv p3, iv p4, iv p5, iv 3, iv y0, iv y1, iv y2, rv b318, iv pr, iv ((3 : Int32) - pr), iv tl, iv ((((p5.toUInt32 >>> ((10 : Int32) &&& 31).toUInt32).toInt32) &&& (3 : Int32)) - (1 : Int32)), .unset, .unset, .unset, .unset, .unset] X365 hx (hb hby at_176) rfl rfl ?_
    refine own_il 180 X365 hx (hb hby at_178) rfl rfl ?_
    refine own_bi 182 9 X365 hx (hb hby at_180) rfl rfl ?_
    refine own_iushr 183 X365 hx (hb hby at_182) rfl rfl ?_
    refine own_ic 184 1 X365 hx (hb hby at_183) rfl rfl ?_
    refine own_iand 185 X365 hx (hb hby at_184) rfl rfl ?_
    suffices jn375 : ∀ tc : Int32, ((((p5.toUInt32 >>> ((9 : Int32) &&& 31).toUInt32).toInt32) &&& (1 : Int32)) = (0 : Int32) → tc = p3) → (¬ (((p5.toUInt32 >>> ((9 : Int32) &&& 31).toUInt32).toInt32) &&& (1 : Int32)) = (0 : Int32) → tc = ((p2 + ((3 : Int32) - pr)) + ((((p5.toUInt32 >>> ((10 : Int32) &&& 31).toUInt32).toInt32) &&& (3 : Int32)) - (1 : Int32)))) → own_E p e below (own_FinH Z s (own_Q0 Z p0 p1 p2 p3 p4 p5 G1 aI aS aN aY aE h0 n0) room_1.cells room_1.slots) T365 (mkF m 199 #[iv p0, iv p1, iv p2, iv p3, iv p4, iv p5, iv 3, iv y0, iv y1, iv y2, rv b318, iv pr, iv ((3 : Int32) - pr), iv tl, iv ((((p5.toUInt32 >>> ((10 : Int32) &&& 31).toUInt32).toInt32) &&& (3 : Int32)) - (1 : Int32)), .unset, .unset, .unset, .unset, .unset] [(.int tc)]) from by
      by_cases hf9 : (((p5.toUInt32 >>> ((9 : Int32) &&& 31).toUInt32).toInt32) &&& (1 : Int32)) = (0 : Int32)
      · refine own_ifY 198 X365 hx (hb hby at_185) ((if0 _ _).trans (teq hf9).1) (by decide) (by decide) ?_
        refine own_iln 199 X365 hx (hb hby at_198) rfl rfl ?_
        exact jn375 p3 (fun _ => rfl) (fun q => absurd hf9 q)
      · refine own_ifN 188 X365 hx (hb hby at_185) ((if0 _ _).trans (feq hf9).1) rfl ?_
        refine own_iln 189 X365 hx (hb hby at_188) rfl rfl ?_
        refine own_il 191 X365 hx (hb hby at_189) rfl rfl ?_
        refine own_iadd 192 X365 hx (hb hby at_191) rfl rfl ?_
        refine own_il 194 X365 hx (hb hby at_192) rfl rfl ?_
        refine own_iadd 195 X365 hx (hb hby at_194) rfl rfl ?_
        refine own_go 199 X365 hx (hb hby at_195) (by decide) (by decide) ?_
        exact jn375 ((p2 + ((3 : Int32) - pr)) + ((((p5.toUInt32 >>> ((10 : Int32) &&& 31).toUInt32).toInt32) &&& (3 : Int32)) - (1 : Int32))) (fun q => absurd q hf9) (fun _ => rfl)
    intro tc htct htcf
    refine own_is 201 #[iv p0, iv p1, iv p2, iv p3, iv p4, iv p5, iv 3, iv y0, iv y1, iv y2, rv b318, iv pr, iv ((3 : Int32) - pr), iv tl, iv ((((p5.toUInt32 >>> ((10 : Int32) &&& 31).toUInt32).toInt32) &&& (3 : Int32)) - (1 : Int32)), iv tc, .unset, .unset, .unset, .unset] X365 hx (hb hby at_199) rfl rfl ?_
    refine own_il 203 X365 hx (hb hby at_201) rfl rfl ?_
    refine own_bi 205 24 X365 hx (hb hby at_203) rfl rfl ?_
    refine own_iushr 206 X365 hx (hb hby at_205) rfl rfl ?_
    refine own_si 209 255 X365 hx (hb hby at_206) rfl rfl ?_
    refine own_iand 210 X365 hx (hb hby at_209) rfl rfl ?_
    refine own_i2c 211 X365 hx (hb hby at_210) rfl rfl ?_
    generalize hvc : ((((p4.toUInt32 >>> ((24 : Int32) &&& 31).toUInt32).toInt32) &&& (255 : Int32)).toUInt32.toUInt16.toUInt32.toInt32) = vc
    have c8_vc : own_C8 vc := own_ch8 hvc
    obtain ⟨_, T376, Lc376, X376, hQ376, st376⟩ := own_callS X365 hx (y := (⟨"java/lang/String", "valueOf", "(C)Ljava/lang/String;"⟩ : MethodName)) hown (mvT hZ (own_w hw 41 rfl)) (mvT hZ (own_w hw 42 rfl)) (mvT hZ (own_w hw 6 rfl)) (mvT hZ (own_w hw 43 rfl)) (by decide) (backOf (W := 0) (own_rmVO l Z a0 hw [] vc G1 T363.heap n0 (Nat.le_trans Z0 KP.1) OL c8_vc.2 O2 P5) hZ (own_w hw 43 rfl) (own_w hw 6 rfl) (by decide) (by decide)) (g := (mkF m 211 #[iv p0, iv p1, iv p2, iv p3, iv p4, iv p5, iv 3, iv y0, iv y1, iv y2, rv b318, iv pr, iv ((3 : Int32) - pr), iv tl, iv ((((p5.toUInt32 >>> ((10 : Int32) &&& 31).toUInt32).toInt32) &&& (3 : Int32)) - (1 : Int32)), iv tc, .unset, .unset, .unset, .unset] [(.int vc)])) rfl (by rw [hml]; rfl) (argsL := [(.int vc)]) (rest := []) (lenOf own_pd22 rfl) rfl (by show 2 * 0 + _ ≤ _; exact Nat.le_of_eq rfl) (hb hby at_211) rfl e365 (kc := 6) (ks := 22) rfl rfl (by decide) (by decide)
    obtain ⟨vx, rfl, N376q, K376⟩ := hQ376
    have N376 := Fr.app N365 N376q
    have CHR := CHR.trans (CHr.keep K376 sf0 CH)
    have CH := CH.keep K376 sf0
    have OL := OL.keep K376 all0
    have KP := KP.trans K376 all0
    have hk1 := Nat.le_trans hk1 K376.1
    have SS := SS.keep K376 nin0 nin0
    refine own_to (mkF m 214 #[iv p0, iv p1, iv p2, iv p3, iv p4, iv p5, iv 3, iv y0, iv y1, iv y2, rv b318, iv pr, iv ((3 : Int32) - pr), iv tl, iv ((((p5.toUInt32 >>> ((10 : Int32) &&& 31).toUInt32).toInt32) &&& (3 : Int32)) - (1 : Int32)), iv tc, .unset, .unset, .unset, .unset] [(.ref vx)]) st376 ?_
    refine own_as 216 #[iv p0, iv p1, iv p2, iv p3, iv p4, iv p5, iv 3, iv y0, iv y1, iv y2, rv b318, iv pr, iv ((3 : Int32) - pr), iv tl, iv ((((p5.toUInt32 >>> ((10 : Int32) &&& 31).toUInt32).toInt32) &&& (3 : Int32)) - (1 : Int32)), iv tc, rv vx, .unset, .unset, .unset] X376 hx (hb hby at_214) rfl rfl rfl ?_
    obtain ⟨T377, h377, X377, e377, E377, A377, D377, -, st377⟩ := newO X376 hx hZ hown (own_w hw 55 rfl) (own_w hw 56 rfl) (own_w hw 57 rfl) rfl (g := (mkF m 216 #[iv p0, iv p1, iv p2, iv p3, iv p4, iv p5, iv 3, iv y0, iv y1, iv y2, rv b318, iv pr, iv ((3 : Int32) - pr), iv tl, iv ((((p5.toUInt32 >>> ((10 : Int32) &&& 31).toUInt32).toInt32) &&& (3 : Int32)) - (1 : Int32)), iv tc, rv vx, .unset, .unset, .unset] [])) rfl (hb hby at_216) (by decide) (by decide)
    obtain ⟨b377, g377⟩ : ∃ z, z = T376.heap.size := ⟨_, rfl⟩
    rw [← g377] at A377 D377 st377
    have sz_b377 : h0.size ≤ b377 := Nat.le_trans KP.1 (Nat.le_of_eq g377.symm)
    have ge_b377 : n0 ≤ b377 := Nat.le_trans Z0 sz_b377
    have ne_b318_b377 : b318 ≠ b377 := Nat.ne_of_lt (Nat.lt_of_lt_of_le SS.lt (Nat.le_of_eq g377.symm))
    have ne_tx_b377 : tx ≠ b377 := Nat.ne_of_lt (Nat.lt_of_lt_of_le SS.ltT (Nat.le_of_eq g377.symm))
    have CHR := CHR.trans (CHr.ext E377 CH)
    have CH := CH.ext E377
    have OL := OL.ext E377
    have KP := KP.ext E377
    have hk1 := Nat.le_trans hk1 E377.1
    have SS := SS.ext E377
    have E_b377 : Exa Z h377 b377 "com/example/ianus/ianus/Token" := A377
    have F_kind_b377 : Fld Z h377 b377 "com/example/ianus/ianus/Token" "kind" "Lcom/example/ianus/ianus/Token$Kind;" .null := D377 (Or.inr (own_w hw 69 rfl)) (ty := (.object "com/example/ianus/ianus/Token$Kind")) (by decide)
    have F_text_b377 : Fld Z h377 b377 "com/example/ianus/ianus/Token" "text" "Ljava/lang/String;" .null := D377 (Or.inr (own_w hw 71 rfl)) (ty := (.object "java/lang/String")) (by decide)
    have F_value_b377 : Fld Z h377 b377 "com/example/ianus/ianus/Token" "value" "Ljava/lang/String;" .null := D377 (Or.inr (own_w hw 73 rfl)) (ty := (.object "java/lang/String")) (by decide)
    have F_line_b377 : Fld Z h377 b377 "com/example/ianus/ianus/Token" "line" "I" (.int (0 : Int32)) := D377 (Or.inr (own_w hw 75 rfl)) (ty := .int) (by decide)
    have F_column_b377 : Fld Z h377 b377 "com/example/ianus/ianus/Token" "column" "I" (.int (0 : Int32)) := D377 (Or.inr (own_w hw 77 rfl)) (ty := .int) (by decide)
    refine own_to (mkF m 219 #[iv p0, iv p1, iv p2, iv p3, iv p4, iv p5, iv 3, iv y0, iv y1, iv y2, rv b318, iv pr, iv ((3 : Int32) - pr), iv tl, iv ((((p5.toUInt32 >>> ((10 : Int32) &&& 31).toUInt32).toInt32) &&& (3 : Int32)) - (1 : Int32)), iv tc, rv vx, .unset, .unset, .unset] [(.ref b377)]) st377 ?_
    refine own_dup 220 X377 hx (hb hby at_219) rfl rfl ?_
    refine own_il 222 X377 hx (hb hby at_220) rfl rfl ?_
    refine own_bi 224 12 X377 hx (hb hby at_222) rfl rfl ?_
    refine own_iushr 225 X377 hx (hb hby at_224) rfl rfl ?_
    refine own_bi 227 7 X377 hx (hb hby at_225) rfl rfl ?_
    refine own_iand 228 X377 hx (hb hby at_227) rfl rfl ?_
    generalize hkxP : (((p5.toUInt32 >>> ((12 : Int32) &&& 31).toUInt32).toInt32) &&& (7 : Int32)) = kxP
    obtain ⟨_, T378, Lc378, X378, hQ378, st378⟩ := own_callS X377 hx (y := (⟨"com/example/ianus/ianus/TokenFollowsPinLaw", "kindOf", "(I)Lcom/example/ianus/ianus/Token$Kind;"⟩ : MethodName)) hown (mvT hZ (own_w hw 58 rfl)) (mvT hZ (own_w hw 59 rfl)) (mvT hZ (own_w hw 2 rfl)) (mvT hZ (own_w hw 60 rfl)) (by decide) (backOf (W := 2) (own_rmKO l Z a0 hw [] kxP aI aS aN aY aE h377 n0 (Nat.le_trans Z0 KP.1) OL SaI SaS SaN SaY SaE) hZ (own_w hw 60 rfl) (own_w hw 2 rfl) (by decide) (by decide)) (g := (mkF m 228 #[iv p0, iv p1, iv p2, iv p3, iv p4, iv p5, iv 3, iv y0, iv y1, iv y2, rv b318, iv pr, iv ((3 : Int32) - pr), iv tl, iv ((((p5.toUInt32 >>> ((10 : Int32) &&& 31).toUInt32).toInt32) &&& (3 : Int32)) - (1 : Int32)), iv tc, rv vx, .unset, .unset, .unset] [(.int kxP), (.ref b377), (.ref b377)])) rfl (by rw [hml]; rfl) (argsL := [(.int kxP)]) (rest := [(.ref b377), (.ref b377)]) (lenOf own_pd23 rfl) rfl (by show 2 * 0 + _ ≤ _; exact Nat.le_of_eq rfl) (hb hby at_228) rfl e377 (kc := 7) (ks := 27) rfl rfl (by decide) (by decide)
    obtain ⟨akP, rfl, N378q, e378⟩ := hQ378
    have N378 := Fr.app N376 N378q
    refine own_to (mkF m 231 #[iv p0, iv p1, iv p2, iv p3, iv p4, iv p5, iv 3, iv y0, iv y1, iv y2, rv b318, iv pr, iv ((3 : Int32) - pr), iv tl, iv ((((p5.toUInt32 >>> ((10 : Int32) &&& 31).toUInt32).toInt32) &&& (3 : Int32)) - (1 : Int32)), iv tc, rv vx, .unset, .unset, .unset] [(.ref akP), (.ref b377), (.ref b377)]) st378 ?_
    refine own_al 233 X378 hx (hb hby at_231) rfl rfl rfl ?_
    refine own_al 235 X378 hx (hb hby at_233) rfl rfl rfl ?_
    refine own_iln 236 X378 hx (hb hby at_235) rfl rfl ?_
    refine own_iln 237 X378 hx (hb hby at_236) rfl rfl ?_
    obtain ⟨_, T379, Lc379, X379, hQ379, st379⟩ := own_special X378 hx (y := (⟨"com/example/ianus/ianus/Token", "<init>", "(Lcom/example/ianus/ianus/Token$Kind;Ljava/lang/String;Ljava/lang/String;II)V"⟩ : MethodName)) rfl hown (mvT hZ (own_w hw 64 rfl)) (mvT hZ (own_w hw 65 rfl)) (mvT hZ (own_w hw 66 rfl)) (by decide) (backOf (W := 1) (own_rmCT l Z a0 hw [] b377 akP b318 b318 p0 p2 h377 n0 (Nat.le_trans Z0 KP.1) OL ge_b377 E_b377 F_kind_b377 F_text_b377 F_value_b377 F_line_b377 F_column_b377) hZ (own_w hw 66 rfl) (own_w hw 57 rfl) (by decide) (by decide)) (g := (mkF m 237 #[iv p0, iv p1, iv p2, iv p3, iv p4, iv p5, iv 3, iv y0, iv y1, iv y2, rv b318, iv pr, iv ((3 : Int32) - pr), iv tl, iv ((((p5.toUInt32 >>> ((10 : Int32) &&& 31).toUInt32).toInt32) &&& (3 : Int32)) - (1 : Int32)), iv tc, rv vx, .unset, .unset, .unset] [(.int p2), (.int p0), (.ref b318), (.ref b318), (.ref akP), (.ref b377), (.ref b377)])) rfl (by rw [hml]; rfl) (a := b377) (argsL := [(.ref akP), (.ref b318), (.ref b318), (.int p0), (.int p2)]) (rest := [(.ref b377)]) (lenOf own_pd24 rfl) rfl (by show 2 * 0 + _ ≤ _; exact Nat.le_of_eq rfl) (hb hby at_237) rfl e378 (kc := 7) (ks := 27) rfl rfl (by decide) (by decide)
    obtain ⟨rfl, N379q, K379, Ek379, -, Ft379, Fl379, Fc379⟩ := hQ379
    have N379 := Fr.app N378 N379q
    have SFk : ∀ x ∈ [b377], Safe Z own_EL s.vm h377 x := (sfS (Safe.exa hZ.alike E_b377 (by decide) (by decide)) sf0)
    have CHR := CHR.trans (CHr.keep K379 SFk CH)
    have CH := CH.keep K379 SFk
    have OL := OL.keep K379 (allS ge_b377 all0)
    have KP := KP.trans K379 (allS (Or.inr sz_b377) all0)
    have hk1 := Nat.le_trans hk1 K379.1
    have SS := SS.keep K379 (ninS ne_b318_b377 nin0) (ninS ne_tx_b377 nin0)
    have E_b377 := E_b377.keep K379
    refine own_via (mkF m 240 #[iv p0, iv p1, iv p2, iv p3, iv p4, iv p5, iv 3, iv y0, iv y1, iv y2, rv b318, iv pr, iv ((3 : Int32) - pr), iv tl, iv ((((p5.toUInt32 >>> ((10 : Int32) &&& 31).toUInt32).toInt32) &&& (3 : Int32)) - (1 : Int32)), iv tc, rv vx, .unset, .unset, .unset] [(.ref b377)]) st379 ?_
    have EP : Exa Z T379.heap b377 "com/example/ianus/ianus/Token" := Ek379
    have FtP : Fld Z T379.heap b377 "com/example/ianus/ianus/Token" "text" "Ljava/lang/String;" (.ref b318) := Ft379
    have FlP : Fld Z T379.heap b377 "com/example/ianus/ianus/Token" "line" "I" (.int p0) := Fl379
    have FcP : Fld Z T379.heap b377 "com/example/ianus/ianus/Token" "column" "I" (.int p2) := Fc379
    refine own_as 242 #[iv p0, iv p1, iv p2, iv p3, iv p4, iv p5, iv 3, iv y0, iv y1, iv y2, rv b318, iv pr, iv ((3 : Int32) - pr), iv tl, iv ((((p5.toUInt32 >>> ((10 : Int32) &&& 31).toUInt32).toInt32) &&& (3 : Int32)) - (1 : Int32)), iv tc, rv vx, rv b377, .unset, .unset] X379 hx (hb hby at_240) rfl rfl rfl ?_
    obtain ⟨T380, h380, X380, e380, E380, A380, D380, -, st380⟩ := newO X379 hx hZ hown (own_w hw 55 rfl) (own_w hw 56 rfl) (own_w hw 57 rfl) rfl (g := (mkF m 242 #[iv p0, iv p1, iv p2, iv p3, iv p4, iv p5, iv 3, iv y0, iv y1, iv y2, rv b318, iv pr, iv ((3 : Int32) - pr), iv tl, iv ((((p5.toUInt32 >>> ((10 : Int32) &&& 31).toUInt32).toInt32) &&& (3 : Int32)) - (1 : Int32)), iv tc, rv vx, rv b377, .unset, .unset] [])) rfl (hb hby at_242) (by decide) (by decide)
    obtain ⟨b380, g380⟩ : ∃ z, z = T379.heap.size := ⟨_, rfl⟩
    rw [← g380] at A380 D380 st380
    have sz_b380 : h0.size ≤ b380 := Nat.le_trans KP.1 (Nat.le_of_eq g380.symm)
    have ge_b380 : n0 ≤ b380 := Nat.le_trans Z0 sz_b380
    have ne_b318_b380 : b318 ≠ b380 := Nat.ne_of_lt (Nat.lt_of_lt_of_le SS.lt (Nat.le_of_eq g380.symm))
    have ne_tx_b380 : tx ≠ b380 := Nat.ne_of_lt (Nat.lt_of_lt_of_le SS.ltT (Nat.le_of_eq g380.symm))
    have ne_b377_b380 : b377 ≠ b380 := Nat.ne_of_lt (Nat.lt_of_lt_of_le EP.lt (Nat.le_of_eq g380.symm))
    have CHR := CHR.trans (CHr.ext E380 CH)
    have CH := CH.ext E380
    have OL := OL.ext E380
    have KP := KP.ext E380
    have hk1 := Nat.le_trans hk1 E380.1
    have SS := SS.ext E380
    have EP := EP.ext E380
    have FtP := FtP.ext E380
    have FlP := FlP.ext E380
    have FcP := FcP.ext E380
    have E_b380 : Exa Z h380 b380 "com/example/ianus/ianus/Token" := A380
    have F_kind_b380 : Fld Z h380 b380 "com/example/ianus/ianus/Token" "kind" "Lcom/example/ianus/ianus/Token$Kind;" .null := D380 (Or.inr (own_w hw 69 rfl)) (ty := (.object "com/example/ianus/ianus/Token$Kind")) (by decide)
    have F_text_b380 : Fld Z h380 b380 "com/example/ianus/ianus/Token" "text" "Ljava/lang/String;" .null := D380 (Or.inr (own_w hw 71 rfl)) (ty := (.object "java/lang/String")) (by decide)
    have F_value_b380 : Fld Z h380 b380 "com/example/ianus/ianus/Token" "value" "Ljava/lang/String;" .null := D380 (Or.inr (own_w hw 73 rfl)) (ty := (.object "java/lang/String")) (by decide)
    have F_line_b380 : Fld Z h380 b380 "com/example/ianus/ianus/Token" "line" "I" (.int (0 : Int32)) := D380 (Or.inr (own_w hw 75 rfl)) (ty := .int) (by decide)
    have F_column_b380 : Fld Z h380 b380 "com/example/ianus/ianus/Token" "column" "I" (.int (0 : Int32)) := D380 (Or.inr (own_w hw 77 rfl)) (ty := .int) (by decide)
    refine own_to (mkF m 245 #[iv p0, iv p1, iv p2, iv p3, iv p4, iv p5, iv 3, iv y0, iv y1, iv y2, rv b318, iv pr, iv ((3 : Int32) - pr), iv tl, iv ((((p5.toUInt32 >>> ((10 : Int32) &&& 31).toUInt32).toInt32) &&& (3 : Int32)) - (1 : Int32)), iv tc, rv vx, rv b377, .unset, .unset] [(.ref b380)]) st380 ?_
    refine own_dup 246 X380 hx (hb hby at_245) rfl rfl ?_
    refine own_il 248 X380 hx (hb hby at_246) rfl rfl ?_
    refine own_bi 250 15 X380 hx (hb hby at_248) rfl rfl ?_
    refine own_iushr 251 X380 hx (hb hby at_250) rfl rfl ?_
    refine own_bi 253 7 X380 hx (hb hby at_251) rfl rfl ?_
    refine own_iand 254 X380 hx (hb hby at_253) rfl rfl ?_
    generalize hkxT : (((p5.toUInt32 >>> ((15 : Int32) &&& 31).toUInt32).toInt32) &&& (7 : Int32)) = kxT
    obtain ⟨_, T381, Lc381, X381, hQ381, st381⟩ := own_callS X380 hx (y := (⟨"com/example/ianus/ianus/TokenFollowsPinLaw", "kindOf", "(I)Lcom/example/ianus/ianus/Token$Kind;"⟩ : MethodName)) hown (mvT hZ (own_w hw 58 rfl)) (mvT hZ (own_w hw 59 rfl)) (mvT hZ (own_w hw 2 rfl)) (mvT hZ (own_w hw 60 rfl)) (by decide) (backOf (W := 2) (own_rmKO l Z a0 hw [] kxT aI aS aN aY aE h380 n0 (Nat.le_trans Z0 KP.1) OL SaI SaS SaN SaY SaE) hZ (own_w hw 60 rfl) (own_w hw 2 rfl) (by decide) (by decide)) (g := (mkF m 254 #[iv p0, iv p1, iv p2, iv p3, iv p4, iv p5, iv 3, iv y0, iv y1, iv y2, rv b318, iv pr, iv ((3 : Int32) - pr), iv tl, iv ((((p5.toUInt32 >>> ((10 : Int32) &&& 31).toUInt32).toInt32) &&& (3 : Int32)) - (1 : Int32)), iv tc, rv vx, rv b377, .unset, .unset] [(.int kxT), (.ref b380), (.ref b380)])) rfl (by rw [hml]; rfl) (argsL := [(.int kxT)]) (rest := [(.ref b380), (.ref b380)]) (lenOf own_pd23 rfl) rfl (by show 2 * 0 + _ ≤ _; exact Nat.le_of_eq rfl) (hb hby at_254) rfl e380 (kc := 8) (ks := 32) rfl rfl (by decide) (by decide)
    obtain ⟨akT, rfl, N381q, e381⟩ := hQ381
    have N381 := Fr.app N379 N381q
    refine own_to (mkF m 257 #[iv p0, iv p1, iv p2, iv p3, iv p4, iv p5, iv 3, iv y0, iv y1, iv y2, rv b318, iv pr, iv ((3 : Int32) - pr), iv tl, iv ((((p5.toUInt32 >>> ((10 : Int32) &&& 31).toUInt32).toInt32) &&& (3 : Int32)) - (1 : Int32)), iv tc, rv vx, rv b377, .unset, .unset] [(.ref akT), (.ref b380), (.ref b380)]) st381 ?_
    refine own_al 259 X381 hx (hb hby at_257) rfl rfl rfl ?_
    refine own_al 261 X381 hx (hb hby at_259) rfl rfl rfl ?_
    refine own_il 263 X381 hx (hb hby at_261) rfl rfl ?_
    refine own_il 265 X381 hx (hb hby at_263) rfl rfl ?_
    obtain ⟨_, T382, Lc382, X382, hQ382, st382⟩ := own_special X381 hx (y := (⟨"com/example/ianus/ianus/Token", "<init>", "(Lcom/example/ianus/ianus/Token$Kind;Ljava/lang/String;Ljava/lang/String;II)V"⟩ : MethodName)) rfl hown (mvT hZ (own_w hw 64 rfl)) (mvT hZ (own_w hw 65 rfl)) (mvT hZ (own_w hw 66 rfl)) (by decide) (backOf (W := 1) (own_rmCT l Z a0 hw [] b380 akT vx vx tl tc h380 n0 (Nat.le_trans Z0 KP.1) OL ge_b380 E_b380 F_kind_b380 F_text_b380 F_value_b380 F_line_b380 F_column_b380) hZ (own_w hw 66 rfl) (own_w hw 57 rfl) (by decide) (by decide)) (g := (mkF m 265 #[iv p0, iv p1, iv p2, iv p3, iv p4, iv p5, iv 3, iv y0, iv y1, iv y2, rv b318, iv pr, iv ((3 : Int32) - pr), iv tl, iv ((((p5.toUInt32 >>> ((10 : Int32) &&& 31).toUInt32).toInt32) &&& (3 : Int32)) - (1 : Int32)), iv tc, rv vx, rv b377, .unset, .unset] [(.int tc), (.int tl), (.ref vx), (.ref vx), (.ref akT), (.ref b380), (.ref b380)])) rfl (by rw [hml]; rfl) (a := b380) (argsL := [(.ref akT), (.ref vx), (.ref vx), (.int tl), (.int tc)]) (rest := [(.ref b380)]) (lenOf own_pd24 rfl) rfl (by show 2 * 0 + _ ≤ _; exact Nat.le_of_eq rfl) (hb hby at_265) rfl e381 (kc := 8) (ks := 32) rfl rfl (by decide) (by decide)
    obtain ⟨rfl, N382q, K382, Ek382, -, Ft382, Fl382, Fc382⟩ := hQ382
    have N382 := Fr.app N381 N382q
    have SFk : ∀ x ∈ [b380], Safe Z own_EL s.vm h380 x := (sfS (Safe.exa hZ.alike E_b380 (by decide) (by decide)) sf0)
    have CHR := CHR.trans (CHr.keep K382 SFk CH)
    have CH := CH.keep K382 SFk
    have OL := OL.keep K382 (allS ge_b380 all0)
    have KP := KP.trans K382 (allS (Or.inr sz_b380) all0)
    have hk1 := Nat.le_trans hk1 K382.1
    have SS := SS.keep K382 (ninS ne_b318_b380 nin0) (ninS ne_tx_b380 nin0)
    have EP := EP.keep K382
    have FtP := FtP.keep K382 (ninS ne_b377_b380 nin0)
    have FlP := FlP.keep K382 (ninS ne_b377_b380 nin0)
    have FcP := FcP.keep K382 (ninS ne_b377_b380 nin0)
    have E_b380 := E_b380.keep K382
    refine own_via (mkF m 268 #[iv p0, iv p1, iv p2, iv p3, iv p4, iv p5, iv 3, iv y0, iv y1, iv y2, rv b318, iv pr, iv ((3 : Int32) - pr), iv tl, iv ((((p5.toUInt32 >>> ((10 : Int32) &&& 31).toUInt32).toInt32) &&& (3 : Int32)) - (1 : Int32)), iv tc, rv vx, rv b377, .unset, .unset] [(.ref b380)]) st382 ?_
    have ET : Exa Z T382.heap b380 "com/example/ianus/ianus/Token" := Ek382
    have FlT : Fld Z T382.heap b380 "com/example/ianus/ianus/Token" "line" "I" (.int tl) := Fl382
    have FcT : Fld Z T382.heap b380 "com/example/ianus/ianus/Token" "column" "I" (.int tc) := Fc382
    refine own_as 270 #[iv p0, iv p1, iv p2, iv p3, iv p4, iv p5, iv 3, iv y0, iv y1, iv y2, rv b318, iv pr, iv ((3 : Int32) - pr), iv tl, iv ((((p5.toUInt32 >>> ((10 : Int32) &&& 31).toUInt32).toInt32) &&& (3 : Int32)) - (1 : Int32)), iv tc, rv vx, rv b377, rv b380, .unset] X382 hx (hb hby at_268) rfl rfl rfl ?_
    refine own_il 272 X382 hx (hb hby at_270) rfl rfl ?_
    refine own_iln 273 X382 hx (hb hby at_272) rfl rfl ?_
    suffices jn383 : ∀ xx : Int32, ((xx = 1 ∧ tl = p0 ∧ tc = (p2 + ((3 : Int32) - pr))) ∨ (xx = 0 ∧ (¬ tl = p0 ∨ ¬ tc = (p2 + ((3 : Int32) - pr))))) → own_E p e below (own_FinH Z s (own_Q0 Z p0 p1 p2 p3 p4 p5 G1 aI aS aN aY aE h0 n0) room_1.cells room_1.slots) T382 (mkF m 290 #[iv p0, iv p1, iv p2, iv p3, iv p4, iv p5, iv 3, iv y0, iv y1, iv y2, rv b318, iv pr, iv ((3 : Int32) - pr), iv tl, iv ((((p5.toUInt32 >>> ((10 : Int32) &&& 31).toUInt32).toInt32) &&& (3 : Int32)) - (1 : Int32)), iv tc, rv vx, rv b377, rv b380, .unset] [(.int xx)]) from by
      by_cases hxa0 : tl = p0
      · refine own_icN 276 X382 hx (hb hby at_273) (teq hxa0).2 rfl ?_
        refine own_il 278 X382 hx (hb hby at_276) rfl rfl ?_
        refine own_iln 279 X382 hx (hb hby at_278) rfl rfl ?_
        refine own_il 281 X382 hx (hb hby at_279) rfl rfl ?_
        refine own_iadd 282 X382 hx (hb hby at_281) rfl rfl ?_
        by_cases hxa1 : tc = (p2 + ((3 : Int32) - pr))
        · refine own_icN 285 X382 hx (hb hby at_282) (teq hxa1).2 rfl ?_
          refine own_ic 286 1 X382 hx (hb hby at_285) rfl rfl ?_
          refine own_go 290 X382 hx (hb hby at_286) (by decide) (by decide) ?_
          exact jn383 (1 : Int32) (Or.inl ⟨rfl, hxa0, hxa1⟩)
        · refine own_icY 289 X382 hx (hb hby at_282) (feq hxa1).2 (by decide) (by decide) ?_
          refine own_ic 290 0 X382 hx (hb hby at_289) rfl rfl ?_
          exact jn383 (0 : Int32) (Or.inr ⟨rfl, Or.inr hxa1⟩)
      · refine own_icY 289 X382 hx (hb hby at_273) (feq hxa0).2 (by decide) (by decide) ?_
        refine own_ic 290 0 X382 hx (hb hby at_289) rfl rfl ?_
        exact jn383 (0 : Int32) (Or.inr ⟨rfl, Or.inl hxa0⟩)
    intro xx hxx
    refine own_is 292 #[iv p0, iv p1, iv p2, iv p3, iv p4, iv p5, iv 3, iv y0, iv y1, iv y2, rv b318, iv pr, iv ((3 : Int32) - pr), iv tl, iv ((((p5.toUInt32 >>> ((10 : Int32) &&& 31).toUInt32).toInt32) &&& (3 : Int32)) - (1 : Int32)), iv tc, rv vx, rv b377, rv b380, iv xx] X382 hx (hb hby at_290) rfl rfl ?_
    refine own_al 294 X382 hx (hb hby at_292) rfl rfl rfl ?_
    refine own_al 296 X382 hx (hb hby at_294) rfl rfl rfl ?_
    obtain ⟨cq384, kq384, q384a, q384b, q384c⟩ := isOf hZ rfl ET
    obtain ⟨_, T384, Lc384, X384, hQ384, st384⟩ := own_virtual X382 hx (y := (⟨"com/example/ianus/ianus/Token", "follows", "(Lcom/example/ianus/ianus/Token;)Z"⟩ : MethodName)) (z := (⟨"com/example/ianus/ianus/Token", "follows", "(Lcom/example/ianus/ianus/Token;)Z"⟩ : MethodName)) hown (mvT hZ (own_w hw 78 rfl)) (mvT hZ (own_w hw 79 rfl)) (notFace_of_selects (args := #[]) (mvT hZ (own_w hw 81 rfl))) (mvT hZ (own_w hw 81 rfl)) (mvT hZ (own_w hw 80 rfl)) (by decide) (backOf (W := 0) (own_rmFO_3 l Z a0 hw [] y0 y1 y2 G1 b318 tx kx b380 b377 tl tc p0 p2 T382.heap n0 (Nat.le_trans Z0 KP.1) OL c16_y0 c16_y1 c16_y2 SS O2 P5 OAD OHI OLO FlT FcT FlP FcP FtP) hZ (own_w hw 82 rfl) (own_w hw 57 rfl) (by decide) (by decide)) q384a q384c (g := (mkF m 296 #[iv p0, iv p1, iv p2, iv p3, iv p4, iv p5, iv 3, iv y0, iv y1, iv y2, rv b318, iv pr, iv ((3 : Int32) - pr), iv tl, iv ((((p5.toUInt32 >>> ((10 : Int32) &&& 31).toUInt32).toInt32) &&& (3 : Int32)) - (1 : Int32)), iv tc, rv vx, rv b377, rv b380, iv xx] [(.ref b377), (.ref b380)])) rfl (by rw [hml]; rfl) (argsL := [(.ref b377)]) (rest := []) (lenOf own_pd25 rfl) rfl (by show 2 * 0 + _ ≤ _; exact Nat.le_of_eq rfl) (hb hby at_296) rfl rfl (kc := 8) (ks := 32) rfl rfl (by decide) (by decide)
    obtain ⟨rr, rfl, hrr, N384q, e384⟩ := hQ384
    have N384 := Fr.app N382 N384q
    refine own_via (mkF m 299 #[iv p0, iv p1, iv p2, iv p3, iv p4, iv p5, iv 3, iv y0, iv y1, iv y2, rv b318, iv pr, iv ((3 : Int32) - pr), iv tl, iv ((((p5.toUInt32 >>> ((10 : Int32) &&& 31).toUInt32).toInt32) &&& (3 : Int32)) - (1 : Int32)), iv tc, rv vx, rv b377, rv b380, iv xx] [(.int rr)]) st384 ?_
    refine own_il 301 X384 hx (hb hby at_299) rfl rfl ?_
    refine own_icN 304 X384 hx (hb hby at_301) (teq (own_fin (P := fun q => own_P3 y0 y1 y2 q) own_U3 hpr hrr hxx)).2 rfl ?_
    refine own_ic 305 1 X384 hx (hb hby at_304) rfl rfl ?_
    refine own_go 309 X384 hx (hb hby at_305) (by decide) (by decide) ?_
    exact own_retNH (s := s) (vm₁ := s.vm) X384 hS (by rw [e384]; exact hk1) hZ hEW (by rw [e384]; exact CH) (by rw [hh, e384]; exact CHR) hx (t := .boolean) Bd.returns (by simp) hlk (hb hby at_309) (by decide) (by decide) (by rw [e384]; exact ⟨rfl, N384⟩)
set_option maxRecDepth 65536 in
set_option maxHeartbeats 40000000 in
theorem own_comes {Post : Tables → Env → Array Value → State → Outcome → State → Prop} (hpost : ∀ tb e args s v u, (limb_1_1.after args s (.returned v) u = true ∧ limb_1_2.after args s (.returned v) u = true ∧ True) → ReturnedEndW s (.returned v) u (Jvm.fieldLocs frame_1_writes args s ++ Jvm.arrayLocs frame_1_arrays args s ++ Jvm.staticLocs frame_1_statics s) 32 1216 → Post tb e args s (.returned v) u) :
    ArmFor flags0 classFile x code maxLocals ret World_1 tables_1 room_1 Calls_1 rest_1 Pre_1 Post := by
  intro l hfl _ _ p e ha hc hk s m args below hf hA hF happ hP
  obtain ⟨hcalls, hrest, hpre⟩ := hP
  obtain ⟨-, -, -, hnamed, -, -, -, hat⟩ := (Spec.applies_iff hf).mp happ
  obtain ⟨hg, hn⟩ := and_e (Cond.before_iff.mp (show (Jvm.Cond.and given_1 narrow_1).before args s = true from hpre))
  obtain ⟨hg0, hgr0⟩ := and_e hg
  obtain ⟨hg1, hgr1⟩ := and_e hgr0
  obtain ⟨hg2, hgr2⟩ := and_e hgr1
  obtain ⟨hg3, hgr3⟩ := and_e hgr2
  obtain ⟨hg4, hgr4⟩ := and_e hgr3
  obtain ⟨hg5, hgr5⟩ := and_e hgr4
  obtain ⟨w0, w1, w2, w3, w4, w5, rfl⟩ : ∃ w0 w1 w2 w3 w4 w5 : Value, args = #[w0, w1, w2, w3, w4, w5] := by
    have hs : args.size = 6 := by simpa [Cond.value, given_1] using hg0
    obtain ⟨L⟩ := args
    match L, hs with
    | [w0, w1, w2, w3, w4, w5], _ => exact ⟨w0, w1, w2, w3, w4, w5, rfl⟩
  have hw := fun d (hd : d ∈ tables_1) => atoms_spec (ws := Jvm.Cond.code x code maxLocals ret :: tables_1) hat d (List.mem_cons_of_mem _ hd)
  have hfit : Fit s := fun {y c} hc i hi => by
    obtain ⟨ha, rfl⟩ := Array.getElem?_eq_some_iff.mp hc
    have q := List.all_eq_true.mp ((Array.all_eq_true_iff_forall_mem.mp hF) _ (Array.getElem_mem ha)) i (List.mem_range.mpr hi)
    simpa [Array.getElem?_eq_getElem hi] using q
  obtain ⟨i0, ei0⟩ := is_v hg1
  obtain rfl : w0 = (.int i0) := Option.some.inj ei0
  obtain ⟨i1, ei1⟩ := is_v hg2
  obtain rfl : w1 = (.int i1) := Option.some.inj ei1
  obtain ⟨i2, ei2⟩ := is_v hg3
  obtain rfl : w2 = (.int i2) := Option.some.inj ei2
  obtain ⟨i3, ei3⟩ := is_v hg4
  obtain rfl : w3 = (.int i3) := Option.some.inj ei3
  obtain ⟨i4, ei4⟩ := is_v hg5
  obtain rfl : w4 = (.int i4) := Option.some.inj ei4
  obtain ⟨i5, ei5⟩ := is_v hgr5
  obtain rfl : w5 = (.int i5) := Option.some.inj ei5
  obtain ⟨hsets, hown0⟩ := atoms_of _ (rest_1_c_eq ▸ (show rest_1_c.before _ s = true from hrest))
  have n5 := not_v (Cond.before_iff.mp (hsets _ (List.mem_of_getElem? (i := 2) rfl)))
  obtain ⟨G1, eG1⟩ := is_v (Cond.before_iff.mp (hsets _ (List.mem_of_getElem? (i := 1) rfl)))
  have O2 : Sta s s.heap "java/lang/String" "COMPACT_STRINGS" "Z" (.int G1) := Sta.start eG1 (Or.inl (hsets _ (List.mem_of_getElem? (i := 0) rfl)))
  have P5 : ¬ (G1 = (0 : Int32)) := gotF (Cond.eq_ints eG1 (Term.int_eval (0))) n5
  have OAD : Sta s s.heap "java/lang/StringUTF16" "$assertionsDisabled" "Z" (.int (1 : Int32)) := Sta.start (own_eqI (Cond.before_iff.mp (hsets _ (List.mem_of_getElem? (i := 12) rfl)))) (Or.inl (hsets _ (List.mem_of_getElem? (i := 11) rfl)))
  have OHI : Sta s s.heap "java/lang/StringUTF16" "HI_BYTE_SHIFT" "I" (.int (0 : Int32)) := Sta.start (own_eqI (Cond.before_iff.mp (hsets _ (List.mem_of_getElem? (i := 15) rfl)))) (Or.inl (hsets _ (List.mem_of_getElem? (i := 14) rfl)))
  have OLO : Sta s s.heap "java/lang/StringUTF16" "LO_BYTE_SHIFT" "I" (.int (8 : Int32)) := Sta.start (own_eqI (Cond.before_iff.mp (hsets _ (List.mem_of_getElem? (i := 18) rfl)))) (Or.inl (hsets _ (List.mem_of_getElem? (i := 17) rfl)))
  obtain ⟨hx_IDENTIFIER, hr0⟩ := and_e hn
  obtain ⟨hx_STRING, hr1⟩ := and_e hr0
  obtain ⟨hx_NUMBER, hr2⟩ := and_e hr1
  obtain ⟨hx_SYMBOL, hr3⟩ := and_e hr2
  have hx_END := hr3
  obtain ⟨aI, eaI⟩ := exa_v hx_IDENTIFIER
  have SaI : Sta s s.heap "com/example/ianus/ianus/Token$Kind" "IDENTIFIER" "Lcom/example/ianus/ianus/Token$Kind;" (.ref aI) := Sta.start eaI (Or.inr ⟨(own_w hw 62 rfl), (own_w hw 63 rfl)⟩)
  obtain ⟨aS, eaS⟩ := exa_v hx_STRING
  have SaS : Sta s s.heap "com/example/ianus/ianus/Token$Kind" "STRING" "Lcom/example/ianus/ianus/Token$Kind;" (.ref aS) := Sta.start eaS (Or.inr ⟨(own_w hw 62 rfl), (own_w hw 109 rfl)⟩)
  obtain ⟨aN, eaN⟩ := exa_v hx_NUMBER
  have SaN : Sta s s.heap "com/example/ianus/ianus/Token$Kind" "NUMBER" "Lcom/example/ianus/ianus/Token$Kind;" (.ref aN) := Sta.start eaN (Or.inr ⟨(own_w hw 62 rfl), (own_w hw 114 rfl)⟩)
  obtain ⟨aY, eaY⟩ := exa_v hx_SYMBOL
  have SaY : Sta s s.heap "com/example/ianus/ianus/Token$Kind" "SYMBOL" "Lcom/example/ianus/ianus/Token$Kind;" (.ref aY) := Sta.start eaY (Or.inr ⟨(own_w hw 62 rfl), (own_w hw 158 rfl)⟩)
  obtain ⟨aE, eaE⟩ := exa_v hx_END
  have SaE : Sta s s.heap "com/example/ianus/ianus/Token$Kind" "END" "Lcom/example/ianus/ianus/Token$Kind;" (.ref aE) := Sta.start eaE (Or.inr ⟨(own_w hw 62 rfl), (own_w hw 165 rfl)⟩)
  have CHs : CHv s own_EL s.vm s.heap := CHv.start (own_EWof hw) hcalls.1 (hsets _ (List.mem_of_getElem? (i := 2) rfl)) (own_w hw 26 rfl) (own_w hw 5 rfl)
  obtain ⟨n, o, h1, h2, h3, _, L, rfl, ⟨rfl, N⟩, -, hq⟩ := own_rm0 l s _ hw tables_1 i0 i1 i2 i3 i4 i5 G1 aI aS aN aY aE s.heap s.heap.size (Nat.le_refl _) (Old.start s) O2 P5 OAD OHI OLO SaI SaS SaN SaY SaE p e ha hc hk s m _ below hf ((Spec.applies_iff_loose hf).mp happ).1 ⟨rfl, State.Warmed39.refl s, rfl, CHs⟩ trivial
  refine ⟨n, _, h1, h2, h3, hpost _ _ _ _ _ _ ⟨Cond.after_iff.mpr rfl, Cond.after_iff.mpr (eq_i res_at (Term.int_eval (1)) rfl), trivial⟩ ⟨hq.1, hq.2.1, hq.2.2.1, (hq.2.2.2.sift fun y hy => Or.inr (N y hy)).mono (by decide) (by decide)⟩⟩
theorem main_1_1 : Claimed_1_1 := own_comes fun _ _ _ _ _ _ h hF => ⟨h.1, hF⟩
theorem main_1_2 : Claimed_1_2 := own_comes fun _ _ _ _ _ _ h hF => ⟨h.2.1, hF⟩
end Jvm.Pilot.@@N@@
namespace Jvm.Pilot.@@N@@
open Jvm Jvm.ClassFile Sem Op Lib Jvm.Free Jvm.Stand Jvm.Pilot.@@N@@.Jvm.D
/-! MADE BY PROGRAM (witnessworld.py) out of the Statement's table words and the real class files: 24 classes; the members and pool entries that the words name. The judged class is class 1, her method 1. -/
namespace start1
open Jvm.ClassFile
def u (s : String) : CpInfo := .utf8 (stringToUtf16 s)
/-- a pool by its gaps: so many unusable entries, then the entry; so many at the end -/
def gap : Nat → List CpInfo → List CpInfo
  | 0, r => r
  | n + 1, r => .unusable :: gap n r
def poolList (es : List (Nat × CpInfo)) (last : Nat) : List CpInfo := es.foldr (fun e r => gap e.1 (e.2 :: r)) (gap last [])
def pool (es : List (Nat × CpInfo)) (last : Nat) : Array CpInfo := ⟨poolList es last⟩
def fileOf (pool : Array CpInfo) (this : Nat) (attrs : Array Attribute := #[]) (ms : Array MethodInfo := #[]) (fl : Nat := 33) (sup : Nat := 0) (ifs : Array Nat := #[]) (fds : Array FieldInfo := #[]) : ClassFile where
  minorVersion := 0
  majorVersion := 65
  constantPool := pool
  accessFlags := fl
  thisClass := this
  superClass := sup
  interfaces := ifs
  fields := fds
  methods := ms
  attributes := attrs
def plain (name : String) (sup : Option ClassId) : Class where
  name := name
  kind := .ordinary
  loader := none
  accessFlags := 33
  super := sup
  interfaces := #[]
  cf := none
  fields := #[]
  methods := #[]
  instanceTypes := #[]
  staticTypes := #[]
  resolved := #[]
  callSites := []
  init := .initialized
  statics := none
  mirror := none

def pool0 : Array CpInfo := pool [(5, u "<init>"), (0, u "()V"), (1, .class_ 10), (1, u "java/lang/Object")] 113

def k0c0 : Code := { maxStack := 0, maxLocals := 1, code := object_method_1_code, exceptionTable := #[], attributes := #[] }
def k0m0 : Method := { name := "<init>", desc := "()V", sig := { parameters := [], returnType := none }, accessFlags := 1, code := some k0c0 }
/-- java/lang/Object -/
def k0 : Class := { plain "java/lang/Object" none with
  accessFlags := 33
  interfaces := #[]
  cf := some (fileOf pool0 8 #[] #[{ accessFlags := 1, nameIndex := 5, descriptorIndex := 6, attributes := #[] }] 33 0 #[] #[])
  fields := #[]
  methods := #[k0m0]
  instanceTypes := #[]
  staticTypes := #[]
  resolved := Array.replicate 124 none
  statics := none }

def pool1 : Array CpInfo := pool [(2, .class_ 4), (1, u "java/lang/Object"), (0, u "<init>"), (0, u "()V"), (0, .methodref 8 9), (0, .class_ 10), (0, .nameAndType 11 12), (0, u "com/example/ianus/ianus/TokenFollowsPinLaw"), (0, u "draw"), (0, u "(II)C"), (0, .class_ 14), (0, u "java/lang/String"), (0, .methodref 8 16), (0, .nameAndType 17 18), (0, u "pick"), (0, u "(ICCC)[C"), (0, .methodref 13 20), (0, .nameAndType 5 21), (0, u "([C)V"), (0, .methodref 8 23), (0, .nameAndType 24 25), (0, u "isHigh"), (0, u "(C)Z"), (0, .methodref 8 27), (0, .nameAndType 28 25), (0, u "isLow"), (0, .methodref 13 30), (0, .nameAndType 31 32), (0, u "valueOf"), (0, u "(C)Ljava/lang/String;"), (0, .class_ 34), (0, u "com/example/ianus/ianus/Token"), (0, .methodref 8 36), (0, .nameAndType 37 38), (0, u "kindOf"), (0, u "(I)Lcom/example/ianus/ianus/Token$Kind;"), (0, .methodref 33 40), (0, .nameAndType 5 41), (0, u "(Lcom/example/ianus/ianus/Token$Kind;Ljava/lang/String;Ljava/lang/String;II)V"), (0, .methodref 33 43), (0, .nameAndType 44 45), (0, u "follows"), (0, u "(Lcom/example/ianus/ianus/Token;)Z"), (0, .integer 55296), (0, .integer 56319), (0, .integer 56320), (0, .integer 57343), (0, .integer 55295), (0, .integer 57344), (0, .fieldref 53 54), (0, .class_ 55), (0, .nameAndType 56 57), (0, u "com/example/ianus/ianus/Token$Kind"), (0, u "IDENTIFIER"), (0, u "Lcom/example/ianus/ianus/Token$Kind;"), (0, .fieldref 53 59), (0, .nameAndType 60 57), (0, u "STRING"), (0, .fieldref 53 62), (0, .nameAndType 63 57), (0, u "NUMBER"), (0, .fieldref 53 65), (0, .nameAndType 66 57), (0, u "SYMBOL"), (0, .fieldref 53 68), (0, .nameAndType 69 57), (0, u "END"), (2, u "law"), (0, u "(IIIIII)Z")] 5

def k1m0 : Method := { name := "<init>", desc := "()V", sig := { parameters := [], returnType := none }, accessFlags := 1, code := none }
def k1c1 : Code := { maxStack := 7, maxLocals := 20, code := code, exceptionTable := #[], attributes := #[] }
def k1m1 : Method := { name := "law", desc := "(IIIIII)Z", sig := { parameters := [.int, .int, .int, .int, .int, .int], returnType := some .boolean }, accessFlags := 9, code := some k1c1 }
def k1c2 : Code := { maxStack := 2, maxLocals := 1, code := method_3_code, exceptionTable := #[], attributes := #[] }
def k1m2 : Method := { name := "isHigh", desc := "(C)Z", sig := { parameters := [.char], returnType := some .boolean }, accessFlags := 10, code := some k1c2 }
def k1c3 : Code := { maxStack := 2, maxLocals := 1, code := method_4_code, exceptionTable := #[], attributes := #[] }
def k1m3 : Method := { name := "isLow", desc := "(C)Z", sig := { parameters := [.char], returnType := some .boolean }, accessFlags := 10, code := some k1c3 }
def k1c4 : Code := { maxStack := 3, maxLocals := 2, code := method_5_code, exceptionTable := #[], attributes := #[] }
def k1m4 : Method := { name := "draw", desc := "(II)C", sig := { parameters := [.int, .int], returnType := some .char }, accessFlags := 10, code := some k1c4 }
def k1c5 : Code := { maxStack := 4, maxLocals := 4, code := method_6_code, exceptionTable := #[], attributes := #[] }
def k1m5 : Method := { name := "pick", desc := "(ICCC)[C", sig := { parameters := [.int, .char, .char, .char], returnType := some (.array .char) }, accessFlags := 10, code := some k1c5 }
def k1c6 : Code := { maxStack := 2, maxLocals := 2, code := method_7_code, exceptionTable := #[], attributes := #[] }
def k1m6 : Method := { name := "kindOf", desc := "(I)Lcom/example/ianus/ianus/Token$Kind;", sig := { parameters := [.int], returnType := some (.object "com/example/ianus/ianus/Token$Kind") }, accessFlags := 10, code := some k1c6 }
/-- com/example/ianus/ianus/TokenFollowsPinLaw -/
def k1 : Class := { plain "com/example/ianus/ianus/TokenFollowsPinLaw" (some 0) with
  accessFlags := 49
  interfaces := #[]
  cf := some (fileOf pool1 8 #[] #[{ accessFlags := 1, nameIndex := 5, descriptorIndex := 6, attributes := #[] }, { accessFlags := 9, nameIndex := 72, descriptorIndex := 73, attributes := #[] }, { accessFlags := 10, nameIndex := 24, descriptorIndex := 25, attributes := #[] }, { accessFlags := 10, nameIndex := 28, descriptorIndex := 25, attributes := #[] }, { accessFlags := 10, nameIndex := 11, descriptorIndex := 12, attributes := #[] }, { accessFlags := 10, nameIndex := 17, descriptorIndex := 18, attributes := #[] }, { accessFlags := 10, nameIndex := 37, descriptorIndex := 38, attributes := #[] }] 49 2 #[] #[])
  fields := #[]
  methods := #[k1m0, k1m1, k1m2, k1m3, k1m4, k1m5, k1m6]
  instanceTypes := #[]
  staticTypes := #[]
  resolved := Array.replicate 79 none
  statics := none }

def pool2 : Array CpInfo := pool [(1, .class_ 2), (0, u "java/io/Serializable"), (0, .class_ 4), (0, u "java/lang/Object")] 2

/-- java/io/Serializable -/
def k2 : Class := { plain "java/io/Serializable" (some 0) with
  accessFlags := 1537
  interfaces := #[]
  cf := some (fileOf pool2 1 #[] #[] 1537 3 #[] #[])
  fields := #[]
  methods := #[]
  instanceTypes := #[]
  staticTypes := #[]
  resolved := Array.replicate 7 none
  statics := none }

def pool3 : Array CpInfo := pool [(1, .class_ 2), (0, u "java/lang/Comparable"), (0, .class_ 4), (0, u "java/lang/Object")] 7

/-- java/lang/Comparable -/
def k3 : Class := { plain "java/lang/Comparable" (some 0) with
  accessFlags := 1537
  interfaces := #[]
  cf := some (fileOf pool3 1 #[] #[] 1537 3 #[] #[])
  fields := #[]
  methods := #[]
  instanceTypes := #[]
  staticTypes := #[]
  resolved := Array.replicate 12 none
  statics := none }

def pool4 : Array CpInfo := pool [(2, .class_ 4), (1, u "java/lang/CharSequence"), (42, .class_ 48), (0, u "java/lang/CharSequence$1CodePointIterator"), (10, .class_ 60), (0, u "java/lang/CharSequence$1CharIterator"), (5, .class_ 67), (0, u "java/lang/Object")] 63

/-- java/lang/CharSequence -/
def k4 : Class := { plain "java/lang/CharSequence" (some 0) with
  accessFlags := 1537
  interfaces := #[]
  cf := some (fileOf pool4 2 #[.nestMembers #[47, 59]] #[] 1537 66 #[] #[])
  fields := #[]
  methods := #[]
  instanceTypes := #[]
  staticTypes := #[]
  resolved := Array.replicate 131 none
  statics := none }

def pool5 : Array CpInfo := pool [(1, .class_ 2), (0, u "java/lang/constant/Constable"), (0, .class_ 4), (0, u "java/lang/Object")] 6

/-- java/lang/constant/Constable -/
def k5 : Class := { plain "java/lang/constant/Constable" (some 0) with
  accessFlags := 1537
  interfaces := #[]
  cf := some (fileOf pool5 1 #[] #[] 1537 3 #[] #[])
  fields := #[]
  methods := #[]
  instanceTypes := #[]
  staticTypes := #[]
  resolved := Array.replicate 11 none
  statics := none }

def pool6 : Array CpInfo := pool [(1, .class_ 2), (0, u "java/lang/constant/ConstantDesc"), (0, .class_ 4), (0, u "java/lang/Object")] 32

/-- java/lang/constant/ConstantDesc -/
def k6 : Class := { plain "java/lang/constant/ConstantDesc" (some 0) with
  accessFlags := 1537
  interfaces := #[]
  cf := some (fileOf pool6 1 #[] #[] 1537 3 #[] #[])
  fields := #[]
  methods := #[]
  instanceTypes := #[]
  staticTypes := #[]
  resolved := Array.replicate 37 none
  statics := none }

def pool7 : Array CpInfo := pool [(1, .methodref 2 3), (0, .class_ 4), (0, .nameAndType 5 6), (0, u "java/lang/Object"), (0, u "<init>"), (0, u "()V"), (0, .string 8), (0, u ""), (0, .fieldref 10 11), (0, .class_ 12), (0, .nameAndType 13 14), (0, u "java/lang/String"), (0, u "value"), (0, u "[B"), (0, .fieldref 10 16), (0, .nameAndType 17 18), (0, u "coder"), (0, u "B"), (2, u "hash"), (0, u "I"), (2, u "hashIsZero"), (0, u "Z"), (0, .methodref 10 28), (0, .nameAndType 5 29), (0, u "([CIILjava/lang/Void;)V"), (7, u "(III)I"), (0, .fieldref 10 39), (0, .nameAndType 40 26), (0, u "COMPACT_STRINGS"), (1, .class_ 44), (1, u "java/lang/StringUTF16"), (0, u "compress"), (1, .methodref 42 48), (0, .nameAndType 49 50), (0, u "coderFromArrayLen"), (0, u "([BI)B"), (2, u "toBytes"), (25, .class_ 81), (1, u "java/util/Objects"), (15, u "([BII)I"), (9, .class_ 109), (1, u "java/lang/StringLatin1"), (32, u "()Z"), (34, .methodref 42 178), (0, .nameAndType 45 179), (0, u "([CII)[B"), (29, .methodref 10 210), (0, .nameAndType 5 211), (0, u "([BB)V"), (122, u "()I"), (0, .methodref 10 336), (0, .nameAndType 17 337), (0, u "()B"), (31, u "(C)Z"), (122, .methodref 10 493), (0, .nameAndType 494 142), (0, u "isLatin1"), (10, .methodref 10 506), (0, .nameAndType 507 334), (0, u "length"), (3, .methodref 79 512), (0, .nameAndType 513 37), (0, u "checkFromToIndex"), (0, .methodref 42 515), (0, .nameAndType 516 97), (0, u "codePointCount"), (58, .class_ 576), (0, u "java/lang/CharSequence"), (22, u "CASE_INSENSITIVE_ORDER"), (0, u "Ljava/util/Comparator;"), (35, u "(II)I"), (145, u "valueOf"), (0, u "(C)Ljava/lang/String;"), (226, u "([C)V"), (4, .methodref 107 1016), (0, .nameAndType 1017 369), (0, u "canEncode"), (0, .methodref 107 1019), (0, .nameAndType 53 1020), (0, u "(C)[B"), (80, u "serialPersistentFields"), (0, u "[Ljava/io/ObjectStreamField;"), (0, .class_ 1104), (0, u "java/lang/String$CaseInsensitiveComparator"), (1, .class_ 1107), (0, u "java/io/Serializable"), (0, .class_ 1109), (0, u "java/lang/Comparable"), (0, .class_ 1111), (0, u "java/lang/constant/Constable"), (0, .class_ 1113), (0, u "java/lang/constant/ConstantDesc"), (2, u "serialVersionUID"), (0, u "J"), (3, u "REPL"), (0, u "C"), (2, u "LATIN1"), (1, u "UTF16")] 323

def k7m0 : Method := { name := "<init>", desc := "()V", sig := { parameters := [], returnType := none }, accessFlags := 1, code := none }
def k7c1 : Code := { maxStack := 5, maxLocals := 2, code := jdk_42_method_3_code, exceptionTable := #[], attributes := #[] }
def k7m1 : Method := { name := "<init>", desc := "([C)V", sig := { parameters := [(.array .char)], returnType := none }, accessFlags := 1, code := some k7c1 }
def k7c2 : Code := { maxStack := 2, maxLocals := 1, code := jdk_42_method_54_code, exceptionTable := #[], attributes := #[] }
def k7m2 : Method := { name := "length", desc := "()I", sig := { parameters := [], returnType := some .int }, accessFlags := 1, code := some k7c2 }
def k7c3 : Code := { maxStack := 3, maxLocals := 3, code := jdk_42_method_59_code, exceptionTable := #[], attributes := #[] }
def k7m3 : Method := { name := "codePointCount", desc := "(II)I", sig := { parameters := [.int, .int], returnType := some .int }, accessFlags := 1, code := some k7c3 }
def k7c4 : Code := { maxStack := 4, maxLocals := 1, code := jdk_42_method_139_code, exceptionTable := #[], attributes := #[] }
def k7m4 : Method := { name := "valueOf", desc := "(C)Ljava/lang/String;", sig := { parameters := [.char], returnType := some (.object "java/lang/String") }, accessFlags := 9, code := some k7c4 }
def k7c5 : Code := { maxStack := 4, maxLocals := 6, code := jdk_42_method_149_code, exceptionTable := #[], attributes := #[] }
def k7m5 : Method := { name := "<init>", desc := "([CIILjava/lang/Void;)V", sig := { parameters := [(.array .char), .int, .int, (.object "java/lang/Void")], returnType := none }, accessFlags := 2, code := some k7c5 }
def k7c6 : Code := { maxStack := 2, maxLocals := 3, code := jdk_42_method_151_code, exceptionTable := #[], attributes := #[] }
def k7m6 : Method := { name := "<init>", desc := "([BB)V", sig := { parameters := [(.array .byte), .byte], returnType := none }, accessFlags := 0, code := some k7c6 }
def k7c7 : Code := { maxStack := 1, maxLocals := 1, code := jdk_42_method_152_code, exceptionTable := #[], attributes := #[] }
def k7m7 : Method := { name := "coder", desc := "()B", sig := { parameters := [], returnType := some .byte }, accessFlags := 0, code := some k7c7 }
def k7c8 : Code := { maxStack := 1, maxLocals := 1, code := jdk_42_method_154_code, exceptionTable := #[], attributes := #[] }
def k7m8 : Method := { name := "isLatin1", desc := "()Z", sig := { parameters := [], returnType := some .boolean }, accessFlags := 0, code := some k7c8 }
/-- java/lang/String -/
def k7 : Class := { plain "java/lang/String" (some 0) with
  accessFlags := 49
  interfaces := #[2, 3, 4, 5, 6]
  cf := some (fileOf pool7 10 #[.nestMembers #[1103]] #[{ accessFlags := 1, nameIndex := 5, descriptorIndex := 6, attributes := #[] }, { accessFlags := 1, nameIndex := 5, descriptorIndex := 1010, attributes := #[] }, { accessFlags := 1, nameIndex := 507, descriptorIndex := 334, attributes := #[] }, { accessFlags := 1, nameIndex := 516, descriptorIndex := 636, attributes := #[] }, { accessFlags := 9, nameIndex := 782, descriptorIndex := 783, attributes := #[] }, { accessFlags := 2, nameIndex := 5, descriptorIndex := 29, attributes := #[] }, { accessFlags := 0, nameIndex := 5, descriptorIndex := 211, attributes := #[] }, { accessFlags := 0, nameIndex := 17, descriptorIndex := 337, attributes := #[] }, { accessFlags := 0, nameIndex := 494, descriptorIndex := 142, attributes := #[] }] 49 2 #[1106, 1108, 575, 1110, 1112] #[{ accessFlags := 18, nameIndex := 13, descriptorIndex := 14, attributes := #[] }, { accessFlags := 18, nameIndex := 17, descriptorIndex := 18, attributes := #[] }, { accessFlags := 2, nameIndex := 21, descriptorIndex := 22, attributes := #[] }, { accessFlags := 2, nameIndex := 25, descriptorIndex := 26, attributes := #[] }, { accessFlags := 26, nameIndex := 1116, descriptorIndex := 1117, attributes := #[] }, { accessFlags := 24, nameIndex := 40, descriptorIndex := 26, attributes := #[] }, { accessFlags := 26, nameIndex := 1101, descriptorIndex := 1102, attributes := #[] }, { accessFlags := 26, nameIndex := 1121, descriptorIndex := 1122, attributes := #[] }, { accessFlags := 25, nameIndex := 599, descriptorIndex := 600, attributes := #[] }, { accessFlags := 24, nameIndex := 1125, descriptorIndex := 18, attributes := #[] }, { accessFlags := 24, nameIndex := 1127, descriptorIndex := 18, attributes := #[] }])
  fields := #[{ name := "value", type := (.array .byte), accessFlags := 18, slot := 0, constantValue := 0 }, { name := "coder", type := .byte, accessFlags := 18, slot := 1, constantValue := 0 }, { name := "hash", type := .int, accessFlags := 2, slot := 2, constantValue := 0 }, { name := "hashIsZero", type := .boolean, accessFlags := 2, slot := 3, constantValue := 0 }, { name := "serialVersionUID", type := .long, accessFlags := 26, slot := 0, constantValue := 0 }, { name := "COMPACT_STRINGS", type := .boolean, accessFlags := 24, slot := 1, constantValue := 0 }, { name := "serialPersistentFields", type := (.array (.object "java/io/ObjectStreamField")), accessFlags := 26, slot := 2, constantValue := 0 }, { name := "REPL", type := .char, accessFlags := 26, slot := 3, constantValue := 0 }, { name := "CASE_INSENSITIVE_ORDER", type := (.object "java/util/Comparator"), accessFlags := 25, slot := 4, constantValue := 0 }, { name := "LATIN1", type := .byte, accessFlags := 24, slot := 5, constantValue := 0 }, { name := "UTF16", type := .byte, accessFlags := 24, slot := 6, constantValue := 0 }]
  methods := #[k7m0, k7m1, k7m2, k7m3, k7m4, k7m5, k7m6, k7m7, k7m8]
  instanceTypes := #[(.array .byte), .byte, .int, .boolean]
  staticTypes := #[.long, .boolean, (.array (.object "java/io/ObjectStreamField")), .char, (.object "java/util/Comparator"), .byte, .byte]
  resolved := Array.replicate 1451 none
  statics := some 0 }

def pool8 : Array CpInfo := pool [(6, .class_ 8), (1, u "java/lang/Object"), (0, u "<init>"), (0, u "()V"), (0, .methodref 12 13), (0, .class_ 14), (0, .nameAndType 15 16), (0, u "java/lang/StringUTF16"), (0, u "newBytesLength"), (0, u "(I)I"), (3, .integer 1073741823), (23, .fieldref 12 45), (0, .nameAndType 46 47), (0, u "$assertionsDisabled"), (0, u "Z"), (11, .fieldref 12 60), (0, .nameAndType 61 62), (0, u "HI_BYTE_SHIFT"), (0, u "I"), (0, .fieldref 12 64), (0, .nameAndType 65 62), (0, u "LO_BYTE_SHIFT"), (5, .methodref 12 72), (0, .nameAndType 73 74), (0, u "getChar"), (0, u "([BI)C"), (0, .methodref 76 77), (0, .class_ 78), (0, .nameAndType 79 80), (0, u "java/lang/Character"), (0, u "isHighSurrogate"), (0, u "(C)Z"), (0, .methodref 76 82), (0, .nameAndType 83 80), (0, u "isLowSurrogate"), (7, u "([BIIZ)I"), (8, .methodref 12 101), (0, .nameAndType 102 91), (0, u "codePointCount"), (4, .methodref 12 108), (0, .nameAndType 109 110), (0, u "newBytesFor"), (0, u "(I)[B"), (0, .methodref 12 112), (0, .nameAndType 113 114), (0, u "putChar"), (0, u "([BII)V"), (0, .methodref 12 116), (0, .nameAndType 117 118), (0, u "compress"), (0, u "([CI[BII)I"), (0, .methodref 12 120), (0, .nameAndType 121 122), (0, u "toBytes"), (0, u "([CII)[B"), (127, u "([BII)I"), (10, u "coderFromArrayLen"), (0, u "([BI)B"), (106, .class_ 371), (1, u "java/lang/StringUTF16$LinesSpliterator"), (58, u "MAX_LENGTH"), (196, .class_ 628), (0, u "java/lang/StringUTF16$CodePointsSpliterator"), (0, .class_ 630), (0, u "java/lang/StringUTF16$CharsSpliterator")] 4

def k8m0 : Method := { name := "<init>", desc := "()V", sig := { parameters := [], returnType := none }, accessFlags := 0, code := none }
def k8c1 : Code := { maxStack := 1, maxLocals := 1, code := jdk_52_method_2_code, exceptionTable := #[], attributes := #[] }
def k8m1 : Method := { name := "newBytesFor", desc := "(I)[B", sig := { parameters := [.int], returnType := some (.array .byte) }, accessFlags := 9, code := some k8c1 }
def k8c2 : Code := { maxStack := 4, maxLocals := 1, code := jdk_52_method_3_code, exceptionTable := #[], attributes := #[] }
def k8m2 : Method := { name := "newBytesLength", desc := "(I)I", sig := { parameters := [.int], returnType := some .int }, accessFlags := 9, code := some k8c2 }
def k8c3 : Code := { maxStack := 4, maxLocals := 3, code := jdk_52_method_4_code, exceptionTable := #[], attributes := #[] }
def k8m3 : Method := { name := "putChar", desc := "([BII)V", sig := { parameters := [(.array .byte), .int, .int], returnType := none }, accessFlags := 8, code := some k8c3 }
def k8c4 : Code := { maxStack := 3, maxLocals := 2, code := jdk_52_method_5_code, exceptionTable := #[], attributes := #[] }
def k8m4 : Method := { name := "getChar", desc := "([BI)C", sig := { parameters := [(.array .byte), .int], returnType := some .char }, accessFlags := 8, code := some k8c4 }
def k8c5 : Code := { maxStack := 3, maxLocals := 6, code := jdk_52_method_11_code, exceptionTable := #[], attributes := #[] }
def k8m5 : Method := { name := "codePointCount", desc := "([BIIZ)I", sig := { parameters := [(.array .byte), .int, .int, .boolean], returnType := some .int }, accessFlags := 10, code := some k8c5 }
def k8c6 : Code := { maxStack := 4, maxLocals := 3, code := jdk_52_method_12_code, exceptionTable := #[], attributes := #[] }
def k8m6 : Method := { name := "codePointCount", desc := "([BII)I", sig := { parameters := [(.array .byte), .int, .int], returnType := some .int }, accessFlags := 9, code := some k8c6 }
def k8c7 : Code := { maxStack := 4, maxLocals := 5, code := jdk_52_method_14_code, exceptionTable := #[], attributes := #[] }
def k8m7 : Method := { name := "toBytes", desc := "([CII)[B", sig := { parameters := [(.array .char), .int, .int], returnType := some (.array .byte) }, accessFlags := 9, code := some k8c7 }
def k8c8 : Code := { maxStack := 2, maxLocals := 2, code := jdk_52_method_15_code, exceptionTable := #[], attributes := #[] }
def k8m8 : Method := { name := "coderFromArrayLen", desc := "([BI)B", sig := { parameters := [(.array .byte), .int], returnType := some .byte }, accessFlags := 8, code := some k8c8 }
def k8c9 : Code := { maxStack := 5, maxLocals := 6, code := jdk_52_method_16_code, exceptionTable := #[], attributes := #[] }
def k8m9 : Method := { name := "compress", desc := "([CII)[B", sig := { parameters := [(.array .char), .int, .int], returnType := some (.array .byte) }, accessFlags := 9, code := some k8c9 }
def k8c10 : Code := { maxStack := 3, maxLocals := 7, code := jdk_52_method_21_code, exceptionTable := #[], attributes := #[] }
def k8m10 : Method := { name := "compress", desc := "([CI[BII)I", sig := { parameters := [(.array .char), .int, (.array .byte), .int, .int], returnType := some .int }, accessFlags := 9, code := some k8c10 }
/-- java/lang/StringUTF16 -/
def k8 : Class := { plain "java/lang/StringUTF16" (some 0) with
  accessFlags := 48
  interfaces := #[]
  cf := some (fileOf pool8 12 #[.nestMembers #[627, 629, 369]] #[{ accessFlags := 0, nameIndex := 9, descriptorIndex := 10, attributes := #[] }, { accessFlags := 9, nameIndex := 109, descriptorIndex := 110, attributes := #[] }, { accessFlags := 9, nameIndex := 15, descriptorIndex := 16, attributes := #[] }, { accessFlags := 8, nameIndex := 113, descriptorIndex := 114, attributes := #[] }, { accessFlags := 8, nameIndex := 73, descriptorIndex := 74, attributes := #[] }, { accessFlags := 10, nameIndex := 102, descriptorIndex := 91, attributes := #[] }, { accessFlags := 9, nameIndex := 102, descriptorIndex := 250, attributes := #[] }, { accessFlags := 9, nameIndex := 121, descriptorIndex := 122, attributes := #[] }, { accessFlags := 8, nameIndex := 261, descriptorIndex := 262, attributes := #[] }, { accessFlags := 9, nameIndex := 117, descriptorIndex := 122, attributes := #[] }, { accessFlags := 9, nameIndex := 117, descriptorIndex := 118, attributes := #[] }] 48 6 #[] #[{ accessFlags := 26, nameIndex := 61, descriptorIndex := 62, attributes := #[] }, { accessFlags := 26, nameIndex := 65, descriptorIndex := 62, attributes := #[] }, { accessFlags := 24, nameIndex := 430, descriptorIndex := 62, attributes := #[] }, { accessFlags := 4120, nameIndex := 46, descriptorIndex := 47, attributes := #[] }])
  fields := #[{ name := "HI_BYTE_SHIFT", type := .int, accessFlags := 26, slot := 0, constantValue := 0 }, { name := "LO_BYTE_SHIFT", type := .int, accessFlags := 26, slot := 1, constantValue := 0 }, { name := "MAX_LENGTH", type := .int, accessFlags := 24, slot := 2, constantValue := 0 }, { name := "$assertionsDisabled", type := .boolean, accessFlags := 4120, slot := 3, constantValue := 0 }]
  methods := #[k8m0, k8m1, k8m2, k8m3, k8m4, k8m5, k8m6, k8m7, k8m8, k8m9, k8m10]
  instanceTypes := #[]
  staticTypes := #[.int, .int, .int, .boolean]
  resolved := Array.replicate 635 none
  statics := some 1 }

def pool9 : Array CpInfo := pool [(4, .class_ 6), (1, u "java/lang/Object"), (0, u "<init>"), (0, u "()V"), (5, .class_ 16), (1, u "java/lang/StringLatin1"), (73, u "canEncode"), (14, u "(C)Z"), (15, u "$assertionsDisabled"), (0, u "Z"), (98, .class_ 223), (1, u "java/lang/StringLatin1$LinesSpliterator"), (156, u "toBytes"), (1, u "(C)[B"), (7, .class_ 391), (0, u "java/lang/StringLatin1$CharsSpliterator")] 3

def k9m0 : Method := { name := "<init>", desc := "()V", sig := { parameters := [], returnType := none }, accessFlags := 0, code := none }
def k9c1 : Code := { maxStack := 2, maxLocals := 1, code := jdk_43_method_3_code, exceptionTable := #[], attributes := #[] }
def k9m1 : Method := { name := "canEncode", desc := "(C)Z", sig := { parameters := [.char], returnType := some .boolean }, accessFlags := 9, code := some k9c1 }
def k9c2 : Code := { maxStack := 4, maxLocals := 1, code := jdk_43_method_46_code, exceptionTable := #[], attributes := #[] }
def k9m2 : Method := { name := "toBytes", desc := "(C)[B", sig := { parameters := [.char], returnType := some (.array .byte) }, accessFlags := 9, code := some k9c2 }
/-- java/lang/StringLatin1 -/
def k9 : Class := { plain "java/lang/StringLatin1" (some 0) with
  accessFlags := 48
  interfaces := #[]
  cf := some (fileOf pool9 14 #[.nestMembers #[390, 221]] #[{ accessFlags := 0, nameIndex := 7, descriptorIndex := 8, attributes := #[] }, { accessFlags := 9, nameIndex := 90, descriptorIndex := 105, attributes := #[] }, { accessFlags := 9, nameIndex := 380, descriptorIndex := 382, attributes := #[] }] 48 4 #[] #[{ accessFlags := 4120, nameIndex := 121, descriptorIndex := 122, attributes := #[] }])
  fields := #[{ name := "$assertionsDisabled", type := .boolean, accessFlags := 4120, slot := 0, constantValue := 0 }]
  methods := #[k9m0, k9m1, k9m2]
  instanceTypes := #[]
  staticTypes := #[.boolean]
  resolved := Array.replicate 395 none
  statics := none }

def pool10 : Array CpInfo := pool [(1, .methodref 2 3), (0, .class_ 4), (0, .nameAndType 5 6), (0, u "java/lang/Object"), (0, u "<init>"), (0, u "()V"), (0, .fieldref 8 9), (0, .class_ 10), (0, .nameAndType 11 12), (0, u "com/example/ianus/ianus/Token"), (0, u "kind"), (0, u "Lcom/example/ianus/ianus/Token$Kind;"), (0, .fieldref 8 14), (0, .nameAndType 15 16), (0, u "text"), (0, u "Ljava/lang/String;"), (0, .fieldref 8 18), (0, .nameAndType 19 16), (0, u "value"), (0, .fieldref 8 21), (0, .nameAndType 22 23), (0, u "line"), (0, u "I"), (0, .fieldref 8 25), (0, .nameAndType 26 23), (0, u "column"), (1, .class_ 30), (1, u "com/example/ianus/ianus/Token$Kind"), (5, .class_ 38), (1, u "java/lang/String"), (2, .methodref 36 42), (0, .nameAndType 43 44), (0, u "length"), (0, u "()I"), (0, .methodref 36 46), (0, .nameAndType 47 48), (0, u "codePointCount"), (0, u "(II)I"), (13, u "(Lcom/example/ianus/ianus/Token$Kind;Ljava/lang/String;Ljava/lang/String;II)V"), (7, u "follows"), (0, u "(Lcom/example/ianus/ianus/Token;)Z")] 22

def k10c0 : Code := { maxStack := 2, maxLocals := 6, code := prog_18_method_1_code, exceptionTable := #[], attributes := #[] }
def k10m0 : Method := { name := "<init>", desc := "(Lcom/example/ianus/ianus/Token$Kind;Ljava/lang/String;Ljava/lang/String;II)V", sig := { parameters := [(.object "com/example/ianus/ianus/Token$Kind"), (.object "java/lang/String"), (.object "java/lang/String"), .int, .int], returnType := none }, accessFlags := 0, code := some k10c0 }
def k10c1 : Code := { maxStack := 5, maxLocals := 2, code := prog_18_method_8_code, exceptionTable := #[], attributes := #[] }
def k10m1 : Method := { name := "follows", desc := "(Lcom/example/ianus/ianus/Token;)Z", sig := { parameters := [(.object "com/example/ianus/ianus/Token")], returnType := some .boolean }, accessFlags := 0, code := some k10c1 }
/-- com/example/ianus/ianus/Token -/
def k10 : Class := { plain "com/example/ianus/ianus/Token" (some 0) with
  accessFlags := 32
  interfaces := #[]
  cf := some (fileOf pool10 8 #[.nestMembers #[28]] #[{ accessFlags := 0, nameIndex := 5, descriptorIndex := 62, attributes := #[] }, { accessFlags := 0, nameIndex := 70, descriptorIndex := 71, attributes := #[] }] 32 2 #[] #[{ accessFlags := 18, nameIndex := 11, descriptorIndex := 12, attributes := #[] }, { accessFlags := 18, nameIndex := 15, descriptorIndex := 16, attributes := #[] }, { accessFlags := 18, nameIndex := 19, descriptorIndex := 16, attributes := #[] }, { accessFlags := 18, nameIndex := 22, descriptorIndex := 23, attributes := #[] }, { accessFlags := 18, nameIndex := 26, descriptorIndex := 23, attributes := #[] }])
  fields := #[{ name := "kind", type := (.object "com/example/ianus/ianus/Token$Kind"), accessFlags := 18, slot := 0, constantValue := 0 }, { name := "text", type := (.object "java/lang/String"), accessFlags := 18, slot := 1, constantValue := 0 }, { name := "value", type := (.object "java/lang/String"), accessFlags := 18, slot := 2, constantValue := 0 }, { name := "line", type := .int, accessFlags := 18, slot := 3, constantValue := 0 }, { name := "column", type := .int, accessFlags := 18, slot := 4, constantValue := 0 }]
  methods := #[k10m0, k10m1]
  instanceTypes := #[(.object "com/example/ianus/ianus/Token$Kind"), (.object "java/lang/String"), (.object "java/lang/String"), .int, .int]
  staticTypes := #[]
  resolved := Array.replicate 94 none
  statics := none }

def pool11 : Array CpInfo := pool [(2, .class_ 4), (1, u "java/lang/Enum"), (0, u "name"), (0, u "Ljava/lang/String;"), (2, u "ordinal"), (0, u "I"), (1, .class_ 14), (1, u "java/lang/Object"), (4, u "hash"), (86, .class_ 108), (1, u "java/lang/Enum$EnumDesc"), (2, .class_ 112), (0, u "java/lang/constant/Constable"), (0, .class_ 114), (0, u "java/lang/Comparable"), (0, .class_ 116), (0, u "java/io/Serializable")] 87

/-- java/lang/Enum -/
def k11 : Class := { plain "java/lang/Enum" (some 0) with
  accessFlags := 1057
  interfaces := #[5, 3, 2]
  cf := some (fileOf pool11 2 #[.nestMembers #[106]] #[] 1057 12 #[111, 113, 115] #[{ accessFlags := 18, nameIndex := 5, descriptorIndex := 6, attributes := #[] }, { accessFlags := 18, nameIndex := 9, descriptorIndex := 10, attributes := #[] }, { accessFlags := 2, nameIndex := 19, descriptorIndex := 10, attributes := #[] }])
  fields := #[{ name := "name", type := (.object "java/lang/String"), accessFlags := 18, slot := 0, constantValue := 0 }, { name := "ordinal", type := .int, accessFlags := 18, slot := 1, constantValue := 0 }, { name := "hash", type := .int, accessFlags := 2, slot := 2, constantValue := 0 }]
  methods := #[]
  instanceTypes := #[(.object "java/lang/String"), .int, .int]
  staticTypes := #[]
  resolved := Array.replicate 204 none
  statics := none }

def pool12 : Array CpInfo := pool [(1, .class_ 2), (0, u "com/example/ianus/ianus/Token$Kind"), (2, u "IDENTIFIER"), (0, u "Lcom/example/ianus/ianus/Token$Kind;"), (2, u "STRING"), (2, u "NUMBER"), (2, u "SYMBOL"), (2, u "END"), (2, u "$VALUES"), (0, u "[Lcom/example/ianus/ianus/Token$Kind;"), (6, .class_ 31), (1, u "java/lang/Enum"), (28, .class_ 61), (0, u "com/example/ianus/ianus/Token")] 2

/-- com/example/ianus/ianus/Token$Kind -/
def k12 : Class := { plain "com/example/ianus/ianus/Token$Kind" (some 11) with
  accessFlags := 16432
  interfaces := #[]
  cf := some (fileOf pool12 1 #[.nestHost 60] #[] 16432 29 #[] #[{ accessFlags := 16409, nameIndex := 5, descriptorIndex := 6, attributes := #[] }, { accessFlags := 16409, nameIndex := 9, descriptorIndex := 6, attributes := #[] }, { accessFlags := 16409, nameIndex := 12, descriptorIndex := 6, attributes := #[] }, { accessFlags := 16409, nameIndex := 15, descriptorIndex := 6, attributes := #[] }, { accessFlags := 16409, nameIndex := 18, descriptorIndex := 6, attributes := #[] }, { accessFlags := 4122, nameIndex := 21, descriptorIndex := 22, attributes := #[] }])
  fields := #[{ name := "IDENTIFIER", type := (.object "com/example/ianus/ianus/Token$Kind"), accessFlags := 16409, slot := 0, constantValue := 0 }, { name := "STRING", type := (.object "com/example/ianus/ianus/Token$Kind"), accessFlags := 16409, slot := 1, constantValue := 0 }, { name := "NUMBER", type := (.object "com/example/ianus/ianus/Token$Kind"), accessFlags := 16409, slot := 2, constantValue := 0 }, { name := "SYMBOL", type := (.object "com/example/ianus/ianus/Token$Kind"), accessFlags := 16409, slot := 3, constantValue := 0 }, { name := "END", type := (.object "com/example/ianus/ianus/Token$Kind"), accessFlags := 16409, slot := 4, constantValue := 0 }, { name := "$VALUES", type := (.array (.object "com/example/ianus/ianus/Token$Kind")), accessFlags := 4122, slot := 5, constantValue := 0 }]
  methods := #[]
  instanceTypes := #[(.object "java/lang/String"), .int, .int]
  staticTypes := #[(.object "com/example/ianus/ianus/Token$Kind"), (.object "com/example/ianus/ianus/Token$Kind"), (.object "com/example/ianus/ianus/Token$Kind"), (.object "com/example/ianus/ianus/Token$Kind"), (.object "com/example/ianus/ianus/Token$Kind"), (.array (.object "com/example/ianus/ianus/Token$Kind"))]
  resolved := Array.replicate 64 none
  statics := some 2 }

def pool13 : Array CpInfo := pool [(2, .class_ 4), (1, u "java/lang/Object"), (0, u "<init>"), (0, u "()V"), (35, .class_ 44), (1, u "java/util/Objects"), (61, .class_ 108), (1, u "jdk/internal/util/Preconditions"), (2, .methodref 106 112), (0, .nameAndType 113 114), (0, u "checkFromToIndex"), (0, u "(IIILjava/util/function/BiFunction;)I"), (60, u "(III)I")] 8

def k13m0 : Method := { name := "<init>", desc := "()V", sig := { parameters := [], returnType := none }, accessFlags := 2, code := none }
def k13c1 : Code := { maxStack := 4, maxLocals := 3, code := jdk_31_method_18_code, exceptionTable := #[], attributes := #[] }
def k13m1 : Method := { name := "checkFromToIndex", desc := "(III)I", sig := { parameters := [.int, .int, .int], returnType := some .int }, accessFlags := 9, code := some k13c1 }
/-- java/util/Objects -/
def k13 : Class := { plain "java/util/Objects" (some 0) with
  accessFlags := 49
  interfaces := #[]
  cf := some (fileOf pool13 42 #[] #[{ accessFlags := 2, nameIndex := 5, descriptorIndex := 6, attributes := #[] }, { accessFlags := 9, nameIndex := 113, descriptorIndex := 175, attributes := #[] }] 49 2 #[] #[])
  fields := #[]
  methods := #[k13m0, k13m1]
  instanceTypes := #[]
  staticTypes := #[]
  resolved := Array.replicate 184 none
  statics := none }

def pool14 : Array CpInfo := pool [(2, .class_ 4), (1, u "java/lang/Object"), (0, u "<init>"), (0, u "()V"), (17, .class_ 26), (1, u "jdk/internal/util/Preconditions"), (20, u "checkFromToIndex"), (7, .class_ 56), (0, u "jdk/internal/util/Preconditions$4"), (57, .class_ 115), (0, u "jdk/internal/util/Preconditions$1"), (7, u "SIOOBE_FORMATTER"), (0, u "Ljava/util/function/BiFunction;"), (0, .class_ 126), (0, u "jdk/internal/util/Preconditions$2"), (3, u "AIOOBE_FORMATTER"), (0, .class_ 132), (0, u "jdk/internal/util/Preconditions$3"), (3, u "IOOBE_FORMATTER"), (46, u "(IIILjava/util/function/BiFunction;)I")] 10

def k14m0 : Method := { name := "<init>", desc := "()V", sig := { parameters := [], returnType := none }, accessFlags := 1, code := none }
def k14c1 : Code := { maxStack := 4, maxLocals := 4, code := jdk_41_method_12_code, exceptionTable := #[], attributes := #[] }
def k14m1 : Method := { name := "checkFromToIndex", desc := "(IIILjava/util/function/BiFunction;)I", sig := { parameters := [.int, .int, .int, (.object "java/util/function/BiFunction")], returnType := some .int }, accessFlags := 9, code := some k14c1 }
/-- jdk/internal/util/Preconditions -/
def k14 : Class := { plain "jdk/internal/util/Preconditions" (some 0) with
  accessFlags := 33
  interfaces := #[]
  cf := some (fileOf pool14 24 #[.nestMembers #[55, 131, 125, 114]] #[{ accessFlags := 1, nameIndex := 5, descriptorIndex := 6, attributes := #[] }, { accessFlags := 9, nameIndex := 47, descriptorIndex := 183, attributes := #[] }] 33 2 #[] #[{ accessFlags := 25, nameIndex := 123, descriptorIndex := 124, attributes := #[] }, { accessFlags := 25, nameIndex := 130, descriptorIndex := 124, attributes := #[] }, { accessFlags := 25, nameIndex := 136, descriptorIndex := 124, attributes := #[] }])
  fields := #[{ name := "SIOOBE_FORMATTER", type := (.object "java/util/function/BiFunction"), accessFlags := 25, slot := 0, constantValue := 0 }, { name := "AIOOBE_FORMATTER", type := (.object "java/util/function/BiFunction"), accessFlags := 25, slot := 1, constantValue := 0 }, { name := "IOOBE_FORMATTER", type := (.object "java/util/function/BiFunction"), accessFlags := 25, slot := 2, constantValue := 0 }]
  methods := #[k14m0, k14m1]
  instanceTypes := #[]
  staticTypes := #[(.object "java/util/function/BiFunction"), (.object "java/util/function/BiFunction"), (.object "java/util/function/BiFunction")]
  resolved := Array.replicate 194 none
  statics := some 3 }

def pool15 : Array CpInfo := pool [(1, .class_ 2), (0, u "java/lang/Character"), (18, u "value"), (0, u "C"), (19, .class_ 44), (1, u "java/lang/Object"), (3, .class_ 50), (1, u "java/lang/Character$CharacterCache"), (24, .integer 55296), (0, .integer 56320), (0, .integer 57344), (2, u "isHighSurrogate"), (0, u "(C)Z"), (2, u "isLowSurrogate"), (199, u "$assertionsDisabled"), (0, u "Z"), (21, .class_ 309), (1, u "java/lang/Character$UnicodeBlock"), (73, u "TYPE"), (0, u "Ljava/lang/Class;"), (0, .class_ 386), (0, u "java/io/Serializable"), (0, .class_ 388), (0, u "java/lang/Comparable"), (0, .class_ 390), (0, u "java/lang/constant/Constable"), (0, u "MIN_RADIX"), (0, u "I"), (2, u "MAX_RADIX"), (1, u "MIN_VALUE"), (1, u "MAX_VALUE"), (3, u "UNASSIGNED"), (0, u "B"), (0, u "UPPERCASE_LETTER"), (1, u "LOWERCASE_LETTER"), (0, u "TITLECASE_LETTER"), (1, u "MODIFIER_LETTER"), (1, u "OTHER_LETTER"), (1, u "NON_SPACING_MARK"), (1, u "ENCLOSING_MARK"), (1, u "COMBINING_SPACING_MARK"), (1, u "DECIMAL_DIGIT_NUMBER"), (1, u "LETTER_NUMBER"), (1, u "OTHER_NUMBER"), (1, u "SPACE_SEPARATOR"), (1, u "LINE_SEPARATOR"), (1, u "PARAGRAPH_SEPARATOR"), (1, u "CONTROL"), (1, u "FORMAT"), (1, u "PRIVATE_USE"), (1, u "SURROGATE"), (1, u "DASH_PUNCTUATION"), (1, u "START_PUNCTUATION"), (1, u "END_PUNCTUATION"), (1, u "CONNECTOR_PUNCTUATION"), (1, u "OTHER_PUNCTUATION"), (1, u "MATH_SYMBOL"), (1, u "CURRENCY_SYMBOL"), (1, u "MODIFIER_SYMBOL"), (1, u "OTHER_SYMBOL"), (1, u "INITIAL_QUOTE_PUNCTUATION"), (1, u "FINAL_QUOTE_PUNCTUATION"), (1, u "ERROR"), (1, u "DIRECTIONALITY_UNDEFINED"), (0, u "DIRECTIONALITY_LEFT_TO_RIGHT"), (0, u "DIRECTIONALITY_RIGHT_TO_LEFT"), (0, u "DIRECTIONALITY_RIGHT_TO_LEFT_ARABIC"), (0, u "DIRECTIONALITY_EUROPEAN_NUMBER"), (0, u "DIRECTIONALITY_EUROPEAN_NUMBER_SEPARATOR"), (0, u "DIRECTIONALITY_EUROPEAN_NUMBER_TERMINATOR"), (0, u "DIRECTIONALITY_ARABIC_NUMBER"), (0, u "DIRECTIONALITY_COMMON_NUMBER_SEPARATOR"), (0, u "DIRECTIONALITY_NONSPACING_MARK"), (0, u "DIRECTIONALITY_BOUNDARY_NEUTRAL"), (0, u "DIRECTIONALITY_PARAGRAPH_SEPARATOR"), (0, u "DIRECTIONALITY_SEGMENT_SEPARATOR"), (0, u "DIRECTIONALITY_WHITESPACE"), (0, u "DIRECTIONALITY_OTHER_NEUTRALS"), (0, u "DIRECTIONALITY_LEFT_TO_RIGHT_EMBEDDING"), (0, u "DIRECTIONALITY_LEFT_TO_RIGHT_OVERRIDE"), (0, u "DIRECTIONALITY_RIGHT_TO_LEFT_EMBEDDING"), (0, u "DIRECTIONALITY_RIGHT_TO_LEFT_OVERRIDE"), (1, u "DIRECTIONALITY_POP_DIRECTIONAL_FORMAT"), (0, u "DIRECTIONALITY_LEFT_TO_RIGHT_ISOLATE"), (0, u "DIRECTIONALITY_RIGHT_TO_LEFT_ISOLATE"), (0, u "DIRECTIONALITY_FIRST_STRONG_ISOLATE"), (0, u "DIRECTIONALITY_POP_DIRECTIONAL_ISOLATE"), (0, u "MIN_HIGH_SURROGATE"), (0, u "MAX_HIGH_SURROGATE"), (1, u "MIN_LOW_SURROGATE"), (0, u "MAX_LOW_SURROGATE"), (1, u "MIN_SURROGATE"), (0, u "MAX_SURROGATE"), (0, u "MIN_SUPPLEMENTARY_CODE_POINT"), (0, u "MIN_CODE_POINT"), (0, u "MAX_CODE_POINT"), (1, u "serialVersionUID"), (0, u "J"), (2, u "SIZE"), (0, u "BYTES"), (88, .class_ 596), (0, u "java/lang/Character$UnicodeScript"), (0, .class_ 598), (0, u "java/lang/Character$Subset")] 5

def k15c0 : Code := { maxStack := 2, maxLocals := 1, code := jdk_89_method_14_code, exceptionTable := #[], attributes := #[] }
def k15m0 : Method := { name := "isHighSurrogate", desc := "(C)Z", sig := { parameters := [.char], returnType := some .boolean }, accessFlags := 9, code := some k15c0 }
def k15c1 : Code := { maxStack := 2, maxLocals := 1, code := jdk_89_method_15_code, exceptionTable := #[], attributes := #[] }
def k15m1 : Method := { name := "isLowSurrogate", desc := "(C)Z", sig := { parameters := [.char], returnType := some .boolean }, accessFlags := 9, code := some k15c1 }
/-- java/lang/Character -/
def k15 : Class := { plain "java/lang/Character" (some 0) with
  accessFlags := 49
  interfaces := #[2, 3, 5]
  cf := some (fileOf pool15 1 #[.nestMembers #[48, 595, 307, 597]] #[{ accessFlags := 9, nameIndex := 80, descriptorIndex := 81, attributes := #[] }, { accessFlags := 9, nameIndex := 84, descriptorIndex := 81, attributes := #[] }] 49 42 #[385, 387, 389] #[{ accessFlags := 25, nameIndex := 391, descriptorIndex := 392, attributes := #[] }, { accessFlags := 25, nameIndex := 395, descriptorIndex := 392, attributes := #[] }, { accessFlags := 25, nameIndex := 397, descriptorIndex := 22, attributes := #[] }, { accessFlags := 25, nameIndex := 399, descriptorIndex := 22, attributes := #[] }, { accessFlags := 25, nameIndex := 383, descriptorIndex := 384, attributes := #[] }, { accessFlags := 25, nameIndex := 403, descriptorIndex := 404, attributes := #[] }, { accessFlags := 25, nameIndex := 405, descriptorIndex := 404, attributes := #[] }, { accessFlags := 25, nameIndex := 407, descriptorIndex := 404, attributes := #[] }, { accessFlags := 25, nameIndex := 408, descriptorIndex := 404, attributes := #[] }, { accessFlags := 25, nameIndex := 410, descriptorIndex := 404, attributes := #[] }, { accessFlags := 25, nameIndex := 412, descriptorIndex := 404, attributes := #[] }, { accessFlags := 25, nameIndex := 414, descriptorIndex := 404, attributes := #[] }, { accessFlags := 25, nameIndex := 416, descriptorIndex := 404, attributes := #[] }, { accessFlags := 25, nameIndex := 418, descriptorIndex := 404, attributes := #[] }, { accessFlags := 25, nameIndex := 420, descriptorIndex := 404, attributes := #[] }, { accessFlags := 25, nameIndex := 422, descriptorIndex := 404, attributes := #[] }, { accessFlags := 25, nameIndex := 424, descriptorIndex := 404, attributes := #[] }, { accessFlags := 25, nameIndex := 426, descriptorIndex := 404, attributes := #[] }, { accessFlags := 25, nameIndex := 428, descriptorIndex := 404, attributes := #[] }, { accessFlags := 25, nameIndex := 430, descriptorIndex := 404, attributes := #[] }, { accessFlags := 25, nameIndex := 432, descriptorIndex := 404, attributes := #[] }, { accessFlags := 25, nameIndex := 434, descriptorIndex := 404, attributes := #[] }, { accessFlags := 25, nameIndex := 436, descriptorIndex := 404, attributes := #[] }, { accessFlags := 25, nameIndex := 438, descriptorIndex := 404, attributes := #[] }, { accessFlags := 25, nameIndex := 440, descriptorIndex := 404, attributes := #[] }, { accessFlags := 25, nameIndex := 442, descriptorIndex := 404, attributes := #[] }, { accessFlags := 25, nameIndex := 444, descriptorIndex := 404, attributes := #[] }, { accessFlags := 25, nameIndex := 446, descriptorIndex := 404, attributes := #[] }, { accessFlags := 25, nameIndex := 448, descriptorIndex := 404, attributes := #[] }, { accessFlags := 25, nameIndex := 450, descriptorIndex := 404, attributes := #[] }, { accessFlags := 25, nameIndex := 452, descriptorIndex := 404, attributes := #[] }, { accessFlags := 25, nameIndex := 454, descriptorIndex := 404, attributes := #[] }, { accessFlags := 25, nameIndex := 456, descriptorIndex := 404, attributes := #[] }, { accessFlags := 25, nameIndex := 458, descriptorIndex := 404, attributes := #[] }, { accessFlags := 25, nameIndex := 460, descriptorIndex := 404, attributes := #[] }, { accessFlags := 24, nameIndex := 462, descriptorIndex := 392, attributes := #[] }, { accessFlags := 25, nameIndex := 464, descriptorIndex := 404, attributes := #[] }, { accessFlags := 25, nameIndex := 465, descriptorIndex := 404, attributes := #[] }, { accessFlags := 25, nameIndex := 466, descriptorIndex := 404, attributes := #[] }, { accessFlags := 25, nameIndex := 467, descriptorIndex := 404, attributes := #[] }, { accessFlags := 25, nameIndex := 468, descriptorIndex := 404, attributes := #[] }, { accessFlags := 25, nameIndex := 469, descriptorIndex := 404, attributes := #[] }, { accessFlags := 25, nameIndex := 470, descriptorIndex := 404, attributes := #[] }, { accessFlags := 25, nameIndex := 471, descriptorIndex := 404, attributes := #[] }, { accessFlags := 25, nameIndex := 472, descriptorIndex := 404, attributes := #[] }, { accessFlags := 25, nameIndex := 473, descriptorIndex := 404, attributes := #[] }, { accessFlags := 25, nameIndex := 474, descriptorIndex := 404, attributes := #[] }, { accessFlags := 25, nameIndex := 475, descriptorIndex := 404, attributes := #[] }, { accessFlags := 25, nameIndex := 476, descriptorIndex := 404, attributes := #[] }, { accessFlags := 25, nameIndex := 477, descriptorIndex := 404, attributes := #[] }, { accessFlags := 25, nameIndex := 478, descriptorIndex := 404, attributes := #[] }, { accessFlags := 25, nameIndex := 479, descriptorIndex := 404, attributes := #[] }, { accessFlags := 25, nameIndex := 480, descriptorIndex := 404, attributes := #[] }, { accessFlags := 25, nameIndex := 481, descriptorIndex := 404, attributes := #[] }, { accessFlags := 25, nameIndex := 482, descriptorIndex := 404, attributes := #[] }, { accessFlags := 25, nameIndex := 484, descriptorIndex := 404, attributes := #[] }, { accessFlags := 25, nameIndex := 485, descriptorIndex := 404, attributes := #[] }, { accessFlags := 25, nameIndex := 486, descriptorIndex := 404, attributes := #[] }, { accessFlags := 25, nameIndex := 487, descriptorIndex := 404, attributes := #[] }, { accessFlags := 25, nameIndex := 488, descriptorIndex := 404, attributes := #[] }, { accessFlags := 25, nameIndex := 489, descriptorIndex := 22, attributes := #[] }, { accessFlags := 25, nameIndex := 490, descriptorIndex := 22, attributes := #[] }, { accessFlags := 25, nameIndex := 492, descriptorIndex := 22, attributes := #[] }, { accessFlags := 25, nameIndex := 493, descriptorIndex := 22, attributes := #[] }, { accessFlags := 25, nameIndex := 495, descriptorIndex := 22, attributes := #[] }, { accessFlags := 25, nameIndex := 496, descriptorIndex := 22, attributes := #[] }, { accessFlags := 25, nameIndex := 497, descriptorIndex := 392, attributes := #[] }, { accessFlags := 25, nameIndex := 498, descriptorIndex := 392, attributes := #[] }, { accessFlags := 25, nameIndex := 499, descriptorIndex := 392, attributes := #[] }, { accessFlags := 18, nameIndex := 21, descriptorIndex := 22, attributes := #[] }, { accessFlags := 26, nameIndex := 501, descriptorIndex := 502, attributes := #[] }, { accessFlags := 25, nameIndex := 505, descriptorIndex := 392, attributes := #[] }, { accessFlags := 25, nameIndex := 506, descriptorIndex := 392, attributes := #[] }, { accessFlags := 4120, nameIndex := 284, descriptorIndex := 285, attributes := #[] }])
  fields := #[{ name := "MIN_RADIX", type := .int, accessFlags := 25, slot := 0, constantValue := 0 }, { name := "MAX_RADIX", type := .int, accessFlags := 25, slot := 1, constantValue := 0 }, { name := "MIN_VALUE", type := .char, accessFlags := 25, slot := 2, constantValue := 0 }, { name := "MAX_VALUE", type := .char, accessFlags := 25, slot := 3, constantValue := 0 }, { name := "TYPE", type := (.object "java/lang/Class"), accessFlags := 25, slot := 4, constantValue := 0 }, { name := "UNASSIGNED", type := .byte, accessFlags := 25, slot := 5, constantValue := 0 }, { name := "UPPERCASE_LETTER", type := .byte, accessFlags := 25, slot := 6, constantValue := 0 }, { name := "LOWERCASE_LETTER", type := .byte, accessFlags := 25, slot := 7, constantValue := 0 }, { name := "TITLECASE_LETTER", type := .byte, accessFlags := 25, slot := 8, constantValue := 0 }, { name := "MODIFIER_LETTER", type := .byte, accessFlags := 25, slot := 9, constantValue := 0 }, { name := "OTHER_LETTER", type := .byte, accessFlags := 25, slot := 10, constantValue := 0 }, { name := "NON_SPACING_MARK", type := .byte, accessFlags := 25, slot := 11, constantValue := 0 }, { name := "ENCLOSING_MARK", type := .byte, accessFlags := 25, slot := 12, constantValue := 0 }, { name := "COMBINING_SPACING_MARK", type := .byte, accessFlags := 25, slot := 13, constantValue := 0 }, { name := "DECIMAL_DIGIT_NUMBER", type := .byte, accessFlags := 25, slot := 14, constantValue := 0 }, { name := "LETTER_NUMBER", type := .byte, accessFlags := 25, slot := 15, constantValue := 0 }, { name := "OTHER_NUMBER", type := .byte, accessFlags := 25, slot := 16, constantValue := 0 }, { name := "SPACE_SEPARATOR", type := .byte, accessFlags := 25, slot := 17, constantValue := 0 }, { name := "LINE_SEPARATOR", type := .byte, accessFlags := 25, slot := 18, constantValue := 0 }, { name := "PARAGRAPH_SEPARATOR", type := .byte, accessFlags := 25, slot := 19, constantValue := 0 }, { name := "CONTROL", type := .byte, accessFlags := 25, slot := 20, constantValue := 0 }, { name := "FORMAT", type := .byte, accessFlags := 25, slot := 21, constantValue := 0 }, { name := "PRIVATE_USE", type := .byte, accessFlags := 25, slot := 22, constantValue := 0 }, { name := "SURROGATE", type := .byte, accessFlags := 25, slot := 23, constantValue := 0 }, { name := "DASH_PUNCTUATION", type := .byte, accessFlags := 25, slot := 24, constantValue := 0 }, { name := "START_PUNCTUATION", type := .byte, accessFlags := 25, slot := 25, constantValue := 0 }, { name := "END_PUNCTUATION", type := .byte, accessFlags := 25, slot := 26, constantValue := 0 }, { name := "CONNECTOR_PUNCTUATION", type := .byte, accessFlags := 25, slot := 27, constantValue := 0 }, { name := "OTHER_PUNCTUATION", type := .byte, accessFlags := 25, slot := 28, constantValue := 0 }, { name := "MATH_SYMBOL", type := .byte, accessFlags := 25, slot := 29, constantValue := 0 }, { name := "CURRENCY_SYMBOL", type := .byte, accessFlags := 25, slot := 30, constantValue := 0 }, { name := "MODIFIER_SYMBOL", type := .byte, accessFlags := 25, slot := 31, constantValue := 0 }, { name := "OTHER_SYMBOL", type := .byte, accessFlags := 25, slot := 32, constantValue := 0 }, { name := "INITIAL_QUOTE_PUNCTUATION", type := .byte, accessFlags := 25, slot := 33, constantValue := 0 }, { name := "FINAL_QUOTE_PUNCTUATION", type := .byte, accessFlags := 25, slot := 34, constantValue := 0 }, { name := "ERROR", type := .int, accessFlags := 24, slot := 35, constantValue := 0 }, { name := "DIRECTIONALITY_UNDEFINED", type := .byte, accessFlags := 25, slot := 36, constantValue := 0 }, { name := "DIRECTIONALITY_LEFT_TO_RIGHT", type := .byte, accessFlags := 25, slot := 37, constantValue := 0 }, { name := "DIRECTIONALITY_RIGHT_TO_LEFT", type := .byte, accessFlags := 25, slot := 38, constantValue := 0 }, { name := "DIRECTIONALITY_RIGHT_TO_LEFT_ARABIC", type := .byte, accessFlags := 25, slot := 39, constantValue := 0 }, { name := "DIRECTIONALITY_EUROPEAN_NUMBER", type := .byte, accessFlags := 25, slot := 40, constantValue := 0 }, { name := "DIRECTIONALITY_EUROPEAN_NUMBER_SEPARATOR", type := .byte, accessFlags := 25, slot := 41, constantValue := 0 }, { name := "DIRECTIONALITY_EUROPEAN_NUMBER_TERMINATOR", type := .byte, accessFlags := 25, slot := 42, constantValue := 0 }, { name := "DIRECTIONALITY_ARABIC_NUMBER", type := .byte, accessFlags := 25, slot := 43, constantValue := 0 }, { name := "DIRECTIONALITY_COMMON_NUMBER_SEPARATOR", type := .byte, accessFlags := 25, slot := 44, constantValue := 0 }, { name := "DIRECTIONALITY_NONSPACING_MARK", type := .byte, accessFlags := 25, slot := 45, constantValue := 0 }, { name := "DIRECTIONALITY_BOUNDARY_NEUTRAL", type := .byte, accessFlags := 25, slot := 46, constantValue := 0 }, { name := "DIRECTIONALITY_PARAGRAPH_SEPARATOR", type := .byte, accessFlags := 25, slot := 47, constantValue := 0 }, { name := "DIRECTIONALITY_SEGMENT_SEPARATOR", type := .byte, accessFlags := 25, slot := 48, constantValue := 0 }, { name := "DIRECTIONALITY_WHITESPACE", type := .byte, accessFlags := 25, slot := 49, constantValue := 0 }, { name := "DIRECTIONALITY_OTHER_NEUTRALS", type := .byte, accessFlags := 25, slot := 50, constantValue := 0 }, { name := "DIRECTIONALITY_LEFT_TO_RIGHT_EMBEDDING", type := .byte, accessFlags := 25, slot := 51, constantValue := 0 }, { name := "DIRECTIONALITY_LEFT_TO_RIGHT_OVERRIDE", type := .byte, accessFlags := 25, slot := 52, constantValue := 0 }, { name := "DIRECTIONALITY_RIGHT_TO_LEFT_EMBEDDING", type := .byte, accessFlags := 25, slot := 53, constantValue := 0 }, { name := "DIRECTIONALITY_RIGHT_TO_LEFT_OVERRIDE", type := .byte, accessFlags := 25, slot := 54, constantValue := 0 }, { name := "DIRECTIONALITY_POP_DIRECTIONAL_FORMAT", type := .byte, accessFlags := 25, slot := 55, constantValue := 0 }, { name := "DIRECTIONALITY_LEFT_TO_RIGHT_ISOLATE", type := .byte, accessFlags := 25, slot := 56, constantValue := 0 }, { name := "DIRECTIONALITY_RIGHT_TO_LEFT_ISOLATE", type := .byte, accessFlags := 25, slot := 57, constantValue := 0 }, { name := "DIRECTIONALITY_FIRST_STRONG_ISOLATE", type := .byte, accessFlags := 25, slot := 58, constantValue := 0 }, { name := "DIRECTIONALITY_POP_DIRECTIONAL_ISOLATE", type := .byte, accessFlags := 25, slot := 59, constantValue := 0 }, { name := "MIN_HIGH_SURROGATE", type := .char, accessFlags := 25, slot := 60, constantValue := 0 }, { name := "MAX_HIGH_SURROGATE", type := .char, accessFlags := 25, slot := 61, constantValue := 0 }, { name := "MIN_LOW_SURROGATE", type := .char, accessFlags := 25, slot := 62, constantValue := 0 }, { name := "MAX_LOW_SURROGATE", type := .char, accessFlags := 25, slot := 63, constantValue := 0 }, { name := "MIN_SURROGATE", type := .char, accessFlags := 25, slot := 64, constantValue := 0 }, { name := "MAX_SURROGATE", type := .char, accessFlags := 25, slot := 65, constantValue := 0 }, { name := "MIN_SUPPLEMENTARY_CODE_POINT", type := .int, accessFlags := 25, slot := 66, constantValue := 0 }, { name := "MIN_CODE_POINT", type := .int, accessFlags := 25, slot := 67, constantValue := 0 }, { name := "MAX_CODE_POINT", type := .int, accessFlags := 25, slot := 68, constantValue := 0 }, { name := "value", type := .char, accessFlags := 18, slot := 0, constantValue := 0 }, { name := "serialVersionUID", type := .long, accessFlags := 26, slot := 69, constantValue := 0 }, { name := "SIZE", type := .int, accessFlags := 25, slot := 70, constantValue := 0 }, { name := "BYTES", type := .int, accessFlags := 25, slot := 71, constantValue := 0 }, { name := "$assertionsDisabled", type := .boolean, accessFlags := 4120, slot := 72, constantValue := 0 }]
  methods := #[k15m0, k15m1]
  instanceTypes := #[.char]
  staticTypes := #[.int, .int, .char, .char, (.object "java/lang/Class"), .byte, .byte, .byte, .byte, .byte, .byte, .byte, .byte, .byte, .byte, .byte, .byte, .byte, .byte, .byte, .byte, .byte, .byte, .byte, .byte, .byte, .byte, .byte, .byte, .byte, .byte, .byte, .byte, .byte, .byte, .int, .byte, .byte, .byte, .byte, .byte, .byte, .byte, .byte, .byte, .byte, .byte, .byte, .byte, .byte, .byte, .byte, .byte, .byte, .byte, .byte, .byte, .byte, .byte, .byte, .char, .char, .char, .char, .char, .char, .int, .int, .int, .long, .int, .int, .boolean]
  resolved := Array.replicate 604 none
  statics := none }

def pool16 : Array CpInfo := pool [(9, u "<init>"), (6, .class_ 18), (1, u "java/lang/Object"), (0, u "()V"), (1, .class_ 23), (1, u "jdk/internal/util/ArraysSupport"), (0, u "LOG2_ARRAY_LONG_INDEX_SCALE"), (0, u "I"), (2, u "U"), (0, u "Ljdk/internal/misc/Unsafe;"), (8, u "BIG_ENDIAN"), (0, u "Z"), (8, u "LOG2_BYTE_BIT_SIZE"), (4, u "LOG2_ARRAY_INT_INDEX_SCALE"), (54, u "JLA"), (0, u "Ljdk/internal/access/JavaLangAccess;"), (11, u "LOG2_ARRAY_BOOLEAN_INDEX_SCALE"), (9, u "LOG2_ARRAY_BYTE_INDEX_SCALE"), (5, u "LOG2_ARRAY_CHAR_INDEX_SCALE"), (5, u "LOG2_ARRAY_SHORT_INDEX_SCALE"), (18, u "LOG2_ARRAY_FLOAT_INDEX_SCALE"), (24, u "LOG2_ARRAY_DOUBLE_INDEX_SCALE"), (89, u "T_BOOLEAN"), (2, u "T_CHAR"), (1, u "T_FLOAT"), (1, u "T_DOUBLE"), (1, u "T_BYTE"), (1, u "T_SHORT"), (1, u "T_INT"), (1, u "T_LONG"), (1, u "SOFT_MAX_ARRAY_LENGTH")] 83

def k16m0 : Method := { name := "<init>", desc := "()V", sig := { parameters := [], returnType := none }, accessFlags := 2, code := none }
/-- jdk/internal/util/ArraysSupport -/
def k16 : Class := { plain "jdk/internal/util/ArraysSupport" (some 0) with
  accessFlags := 33
  interfaces := #[]
  cf := some (fileOf pool16 21 #[] #[{ accessFlags := 2, nameIndex := 9, descriptorIndex := 19, attributes := #[] }] 33 16 #[] #[{ accessFlags := 24, nameIndex := 28, descriptorIndex := 29, attributes := #[] }, { accessFlags := 26, nameIndex := 38, descriptorIndex := 39, attributes := #[] }, { accessFlags := 25, nameIndex := 121, descriptorIndex := 25, attributes := #[] }, { accessFlags := 25, nameIndex := 131, descriptorIndex := 25, attributes := #[] }, { accessFlags := 25, nameIndex := 137, descriptorIndex := 25, attributes := #[] }, { accessFlags := 25, nameIndex := 143, descriptorIndex := 25, attributes := #[] }, { accessFlags := 25, nameIndex := 53, descriptorIndex := 25, attributes := #[] }, { accessFlags := 25, nameIndex := 24, descriptorIndex := 25, attributes := #[] }, { accessFlags := 25, nameIndex := 162, descriptorIndex := 25, attributes := #[] }, { accessFlags := 25, nameIndex := 187, descriptorIndex := 25, attributes := #[] }, { accessFlags := 26, nameIndex := 48, descriptorIndex := 25, attributes := #[] }, { accessFlags := 25, nameIndex := 277, descriptorIndex := 25, attributes := #[] }, { accessFlags := 25, nameIndex := 280, descriptorIndex := 25, attributes := #[] }, { accessFlags := 25, nameIndex := 282, descriptorIndex := 25, attributes := #[] }, { accessFlags := 25, nameIndex := 284, descriptorIndex := 25, attributes := #[] }, { accessFlags := 25, nameIndex := 286, descriptorIndex := 25, attributes := #[] }, { accessFlags := 25, nameIndex := 288, descriptorIndex := 25, attributes := #[] }, { accessFlags := 25, nameIndex := 290, descriptorIndex := 25, attributes := #[] }, { accessFlags := 25, nameIndex := 292, descriptorIndex := 25, attributes := #[] }, { accessFlags := 26, nameIndex := 108, descriptorIndex := 109, attributes := #[] }, { accessFlags := 25, nameIndex := 294, descriptorIndex := 25, attributes := #[] }])
  fields := #[{ name := "U", type := (.object "jdk/internal/misc/Unsafe"), accessFlags := 24, slot := 0, constantValue := 0 }, { name := "BIG_ENDIAN", type := .boolean, accessFlags := 26, slot := 1, constantValue := 0 }, { name := "LOG2_ARRAY_BOOLEAN_INDEX_SCALE", type := .int, accessFlags := 25, slot := 2, constantValue := 0 }, { name := "LOG2_ARRAY_BYTE_INDEX_SCALE", type := .int, accessFlags := 25, slot := 3, constantValue := 0 }, { name := "LOG2_ARRAY_CHAR_INDEX_SCALE", type := .int, accessFlags := 25, slot := 4, constantValue := 0 }, { name := "LOG2_ARRAY_SHORT_INDEX_SCALE", type := .int, accessFlags := 25, slot := 5, constantValue := 0 }, { name := "LOG2_ARRAY_INT_INDEX_SCALE", type := .int, accessFlags := 25, slot := 6, constantValue := 0 }, { name := "LOG2_ARRAY_LONG_INDEX_SCALE", type := .int, accessFlags := 25, slot := 7, constantValue := 0 }, { name := "LOG2_ARRAY_FLOAT_INDEX_SCALE", type := .int, accessFlags := 25, slot := 8, constantValue := 0 }, { name := "LOG2_ARRAY_DOUBLE_INDEX_SCALE", type := .int, accessFlags := 25, slot := 9, constantValue := 0 }, { name := "LOG2_BYTE_BIT_SIZE", type := .int, accessFlags := 26, slot := 10, constantValue := 0 }, { name := "T_BOOLEAN", type := .int, accessFlags := 25, slot := 11, constantValue := 0 }, { name := "T_CHAR", type := .int, accessFlags := 25, slot := 12, constantValue := 0 }, { name := "T_FLOAT", type := .int, accessFlags := 25, slot := 13, constantValue := 0 }, { name := "T_DOUBLE", type := .int, accessFlags := 25, slot := 14, constantValue := 0 }, { name := "T_BYTE", type := .int, accessFlags := 25, slot := 15, constantValue := 0 }, { name := "T_SHORT", type := .int, accessFlags := 25, slot := 16, constantValue := 0 }, { name := "T_INT", type := .int, accessFlags := 25, slot := 17, constantValue := 0 }, { name := "T_LONG", type := .int, accessFlags := 25, slot := 18, constantValue := 0 }, { name := "JLA", type := (.object "jdk/internal/access/JavaLangAccess"), accessFlags := 26, slot := 19, constantValue := 0 }, { name := "SOFT_MAX_ARRAY_LENGTH", type := .int, accessFlags := 25, slot := 20, constantValue := 0 }]
  methods := #[k16m0]
  instanceTypes := #[]
  staticTypes := #[(.object "jdk/internal/misc/Unsafe"), .boolean, .int, .int, .int, .int, .int, .int, .int, .int, .int, .int, .int, .int, .int, .int, .int, .int, .int, (.object "jdk/internal/access/JavaLangAccess"), .int]
  resolved := Array.replicate 378 none
  statics := none }

def pool17 : Array CpInfo := pool [(1, u "java/lang/Cloneable"), (0, .class_ 1), (0, u "java/lang/Object"), (0, .class_ 3)] 3

/-- java/lang/Cloneable -/
def k17 : Class := { plain "java/lang/Cloneable" (some 0) with
  accessFlags := 1537
  interfaces := #[]
  cf := some (fileOf pool17 2 #[] #[] 1537 4 #[] #[])
  fields := #[]
  methods := #[]
  instanceTypes := #[]
  staticTypes := #[]
  resolved := Array.replicate 8 none
  statics := none }

/-- the primitive byte -/
def k18 : Class := { plain "byte" none with kind := .primitive 'B', accessFlags := 0x411 }
/-- [B -/
def k19 : Class := { plain "[B" (some 0) with kind := .array 18 .byte, interfaces := #[17, 2], accessFlags := 1041 }

/-- the primitive char -/
def k20 : Class := { plain "char" none with kind := .primitive 'C', accessFlags := 0x411 }
/-- [C -/
def k21 : Class := { plain "[C" (some 0) with kind := .array 20 .char, interfaces := #[17, 2], accessFlags := 1041 }

/-- the primitive int -/
def k22 : Class := { plain "int" none with kind := .primitive 'I', accessFlags := 0x411 }
/-- [I -/
def k23 : Class := { plain "[I" (some 0) with kind := .array 22 .int, interfaces := #[17, 2], accessFlags := 1041 }

def heap : Heap := #[{ cls := 7, slots := #[.long 0, .int 1, .null, .int 0, .null, .int 0, .int 0], vm := .statics 7 },
  { cls := 8, slots := #[.int 0, .int 8, .int 0, .int 1], vm := .statics 8 },
  { cls := 12, slots := #[.ref 4, .ref 5, .ref 6, .ref 7, .ref 8, .null], vm := .statics 12 },
  { cls := 14, slots := #[.null, .null, .null], vm := .statics 14 },
  { cls := 12, slots := #[.null, .int 0, .int 0], vm := .none },
  { cls := 12, slots := #[.null, .int 1, .int 0], vm := .none },
  { cls := 12, slots := #[.null, .int 2, .int 0], vm := .none },
  { cls := 12, slots := #[.null, .int 3, .int 0], vm := .none },
  { cls := 12, slots := #[.null, .int 4, .int 0], vm := .none }]
def classes : Array Class := #[k0, k1, k2, k3, k4, k5, k6, k7, k8, k9, k10, k11, k12, k13, k14, k15, k16, k17, k18, k19, k20, k21, k22, k23]
def interned : List (Array UInt16 × Addr) := []
def slotsUsed : Nat := 35
def theMethod : MethodId := ⟨1, 1⟩
def args0 : Array Value := #[.int 5, .int 2, .int 7, .int 8, .int 9, .int 11]
def aboutOver (below : List Frame) : State where
  vm := { classes := classes, interned := interned.toArray }
  heap := heap
  slotsUsed := slotsUsed
  threads := #[{ frames := .invoking theMethod args0 :: below }]
def below0 : List Frame := [.native { method := ⟨0, 0⟩, args := #[] }]
def about1 : State := aboutOver below0
def p0 : Program := .bare "" "" ""
def e0 : Env := launch0.env 0 0 0
theorem w_frames : about1.frames = Frame.invoking theMethod args0 :: below0 := rfl
set_option maxRecDepth 65536 in
theorem w_args : argsFit about1.vm theMethod args0 = true := by decide +kernel
set_option maxRecDepth 65536 in
theorem w_heap : heapFits about1 = true := by decide +kernel
set_option maxRecDepth 65536 in
theorem w_runnable : about1.curStatus? = some .runnable := by decide +kernel
set_option maxRecDepth 65536 in
theorem w_alone : about1.alone = true := by decide +kernel
set_option maxRecDepth 65536 in
theorem w_named : about1.methodNamed? x = some theMethod := by decide +kernel
set_option maxRecDepth 65536 in
theorem w_hears : about1.hears theMethod below0 = true := by decide +kernel
set_option maxRecDepth 65536 in
theorem w_ripe : about1.ripe theMethod args0 below0 = true := by decide +kernel
theorem w_running : about1.status = .running := rfl
set_option maxRecDepth 65536 in
theorem w_room : about1.hasRoom e0.platform room_1 = true :=
  launch0.hasRoom_least _ room_1 (by decide +kernel) (by decide +kernel) (by decide +kernel) (by decide +kernel) (by decide +kernel) (by decide +kernel)
theorem allAtoms_all (ts : List Jvm.Cond) (a : Array Jvm.Value) (st : Jvm.State) : (allAtoms ts).before a st = ts.all (fun c => c.before a st) := by
  induction ts with
  | nil => rfl
  | cons c t ih =>
    show (Jvm.Cond.and c (allAtoms t)).before a st = _
    rw [Jvm.Cond.before_and, ih, List.all_cons]
def words1 : List Jvm.Cond := Jvm.Cond.code x code maxLocals ret :: tables_1
/-- a 'code' word, met by the world's own term for the bytes: nothing is compared byte by byte -/
theorem code_word {y : MethodName} {bytes : ByteArray} {mx : Nat} {rt : Option FieldType} {a : Array Value} {s : State} {m : MethodId} {meth : Method} {c : Code} (h1 : s.methodNamed? y = some m) (h2 : s.vm.method? m = some meth) (h3 : meth.code = some c) (h4 : c.code = bytes)
    (h5 : (c.maxLocals == mx && c.exceptionTable.isEmpty && decide (c.maxStack ≤ mostOperands) && decide (meth.sig.returnType = rt) && !meth.locks && decide (parseMethodDescriptor y.desc = some meth.sig)) = true) : (Jvm.Cond.code y bytes mx rt).before a s = true := by
  simp only [Bool.and_eq_true, beq_iff_eq, Bool.not_eq_true', decide_eq_true_eq] at h5
  obtain ⟨⟨⟨⟨⟨g1, g2⟩, g3⟩, g4⟩, g5⟩, g6⟩ := h5
  simp [Cond.before, Cond.holds, Cond.value, h1, h2, h3, h4, g1, g2, g3, g4, g5, g6]
def isCode : Jvm.Cond → Bool
  | .code _ _ _ _ => true
  | _ => false
theorem all_split {L : List Jvm.Cond} {P : Jvm.Cond → Bool} (h1 : L.all (fun c => isCode c || P c) = true) (h2 : ∀ c ∈ L.filter isCode, P c = true) : L.all P = true := by
  refine List.all_eq_true.mpr fun c hc => ?_
  have h := List.all_eq_true.mp h1 c hc
  rcases Bool.eq_false_or_eq_true (isCode c) with hi | hi
  · exact h2 c (List.mem_filter.mpr ⟨hc, hi⟩)
  · simpa [hi] using h
set_option maxRecDepth 65536 in
theorem w_c0 : (Jvm.Cond.code x code maxLocals ret).before args0 about1 = true := code_word (m := ⟨1, 1⟩) (meth := k1m1) (c := k1c1) (by decide +kernel) rfl rfl rfl (by decide +kernel)
set_option maxRecDepth 65536 in
theorem w_c1 : (Jvm.Cond.code ({ cls := "com/example/ianus/ianus/TokenFollowsPinLaw", name := "draw", desc := "(II)C" } : Jvm.MethodName) method_5_code (2 : Nat) (Option.some Jvm.ClassFile.FieldType.char)).before args0 about1 = true := code_word (m := ⟨1, 4⟩) (meth := k1m4) (c := k1c4) (by decide +kernel) rfl rfl rfl (by decide +kernel)
set_option maxRecDepth 65536 in
theorem w_c2 : (Jvm.Cond.code ({ cls := "com/example/ianus/ianus/TokenFollowsPinLaw", name := "pick", desc := "(ICCC)[C" } : Jvm.MethodName) method_6_code (4 : Nat) (Option.some (Jvm.ClassFile.FieldType.array Jvm.ClassFile.FieldType.char))).before args0 about1 = true := code_word (m := ⟨1, 5⟩) (meth := k1m5) (c := k1c5) (by decide +kernel) rfl rfl rfl (by decide +kernel)
set_option maxRecDepth 65536 in
theorem w_c3 : (Jvm.Cond.code ({ cls := "java/lang/String", name := "<init>", desc := "([C)V" } : Jvm.MethodName) jdk_42_method_3_code (2 : Nat) (Option.none : Option Jvm.ClassFile.FieldType)).before args0 about1 = true := code_word (m := ⟨7, 1⟩) (meth := k7m1) (c := k7c1) (by decide +kernel) rfl rfl rfl (by decide +kernel)
set_option maxRecDepth 65536 in
theorem w_c4 : (Jvm.Cond.code ({ cls := "java/lang/String", name := "<init>", desc := "([CIILjava/lang/Void;)V" } : Jvm.MethodName) jdk_42_method_149_code (6 : Nat) (Option.none : Option Jvm.ClassFile.FieldType)).before args0 about1 = true := code_word (m := ⟨7, 5⟩) (meth := k7m5) (c := k7c5) (by decide +kernel) rfl rfl rfl (by decide +kernel)
set_option maxRecDepth 65536 in
theorem w_c5 : (Jvm.Cond.code ({ cls := "java/lang/Object", name := "<init>", desc := "()V" } : Jvm.MethodName) object_method_1_code (1 : Nat) (Option.none : Option Jvm.ClassFile.FieldType)).before args0 about1 = true := code_word (m := ⟨0, 0⟩) (meth := k0m0) (c := k0c0) (by decide +kernel) rfl rfl rfl (by decide +kernel)
set_option maxRecDepth 65536 in
theorem w_c6 : (Jvm.Cond.code ({ cls := "java/lang/StringUTF16", name := "compress", desc := "([CII)[B" } : Jvm.MethodName) jdk_52_method_16_code (6 : Nat) (Option.some (Jvm.ClassFile.FieldType.array Jvm.ClassFile.FieldType.byte))).before args0 about1 = true := code_word (m := ⟨8, 9⟩) (meth := k8m9) (c := k8c9) (by decide +kernel) rfl rfl rfl (by decide +kernel)
set_option maxRecDepth 65536 in
theorem w_c7 : (Jvm.Cond.code ({ cls := "java/lang/StringUTF16", name := "compress", desc := "([CI[BII)I" } : Jvm.MethodName) jdk_52_method_21_code (7 : Nat) (Option.some Jvm.ClassFile.FieldType.int)).before args0 about1 = true := code_word (m := ⟨8, 10⟩) (meth := k8m10) (c := k8c10) (by decide +kernel) rfl rfl rfl (by decide +kernel)
set_option maxRecDepth 65536 in
theorem w_c8 : (Jvm.Cond.code ({ cls := "java/lang/StringUTF16", name := "coderFromArrayLen", desc := "([BI)B" } : Jvm.MethodName) jdk_52_method_15_code (2 : Nat) (Option.some Jvm.ClassFile.FieldType.byte)).before args0 about1 = true := code_word (m := ⟨8, 8⟩) (meth := k8m8) (c := k8c8) (by decide +kernel) rfl rfl rfl (by decide +kernel)
set_option maxRecDepth 65536 in
theorem w_c9 : (Jvm.Cond.code ({ cls := "com/example/ianus/ianus/TokenFollowsPinLaw", name := "isHigh", desc := "(C)Z" } : Jvm.MethodName) method_3_code (1 : Nat) (Option.some Jvm.ClassFile.FieldType.boolean)).before args0 about1 = true := code_word (m := ⟨1, 2⟩) (meth := k1m2) (c := k1c2) (by decide +kernel) rfl rfl rfl (by decide +kernel)
set_option maxRecDepth 65536 in
theorem w_c10 : (Jvm.Cond.code ({ cls := "java/lang/String", name := "valueOf", desc := "(C)Ljava/lang/String;" } : Jvm.MethodName) jdk_42_method_139_code (1 : Nat) (Option.some (Jvm.ClassFile.FieldType.object "java/lang/String"))).before args0 about1 = true := code_word (m := ⟨7, 4⟩) (meth := k7m4) (c := k7c4) (by decide +kernel) rfl rfl rfl (by decide +kernel)
set_option maxRecDepth 65536 in
theorem w_c11 : (Jvm.Cond.code ({ cls := "java/lang/StringLatin1", name := "canEncode", desc := "(C)Z" } : Jvm.MethodName) jdk_43_method_3_code (1 : Nat) (Option.some Jvm.ClassFile.FieldType.boolean)).before args0 about1 = true := code_word (m := ⟨9, 1⟩) (meth := k9m1) (c := k9c1) (by decide +kernel) rfl rfl rfl (by decide +kernel)
set_option maxRecDepth 65536 in
theorem w_c12 : (Jvm.Cond.code ({ cls := "java/lang/StringLatin1", name := "toBytes", desc := "(C)[B" } : Jvm.MethodName) jdk_43_method_46_code (1 : Nat) (Option.some (Jvm.ClassFile.FieldType.array Jvm.ClassFile.FieldType.byte))).before args0 about1 = true := code_word (m := ⟨9, 2⟩) (meth := k9m2) (c := k9c2) (by decide +kernel) rfl rfl rfl (by decide +kernel)
set_option maxRecDepth 65536 in
theorem w_c13 : (Jvm.Cond.code ({ cls := "java/lang/String", name := "<init>", desc := "([BB)V" } : Jvm.MethodName) jdk_42_method_151_code (3 : Nat) (Option.none : Option Jvm.ClassFile.FieldType)).before args0 about1 = true := code_word (m := ⟨7, 6⟩) (meth := k7m6) (c := k7c6) (by decide +kernel) rfl rfl rfl (by decide +kernel)
set_option maxRecDepth 65536 in
theorem w_c14 : (Jvm.Cond.code ({ cls := "com/example/ianus/ianus/TokenFollowsPinLaw", name := "kindOf", desc := "(I)Lcom/example/ianus/ianus/Token$Kind;" } : Jvm.MethodName) method_7_code (2 : Nat) (Option.some (Jvm.ClassFile.FieldType.object "com/example/ianus/ianus/Token$Kind"))).before args0 about1 = true := code_word (m := ⟨1, 6⟩) (meth := k1m6) (c := k1c6) (by decide +kernel) rfl rfl rfl (by decide +kernel)
set_option maxRecDepth 65536 in
theorem w_c15 : (Jvm.Cond.code ({ cls := "com/example/ianus/ianus/Token", name := "<init>", desc := "(Lcom/example/ianus/ianus/Token$Kind;Ljava/lang/String;Ljava/lang/String;II)V" } : Jvm.MethodName) prog_18_method_1_code (6 : Nat) (Option.none : Option Jvm.ClassFile.FieldType)).before args0 about1 = true := code_word (m := ⟨10, 0⟩) (meth := k10m0) (c := k10c0) (by decide +kernel) rfl rfl rfl (by decide +kernel)
set_option maxRecDepth 65536 in
theorem w_c16 : (Jvm.Cond.code ({ cls := "com/example/ianus/ianus/Token", name := "follows", desc := "(Lcom/example/ianus/ianus/Token;)Z" } : Jvm.MethodName) prog_18_method_8_code (2 : Nat) (Option.some Jvm.ClassFile.FieldType.boolean)).before args0 about1 = true := code_word (m := ⟨10, 1⟩) (meth := k10m1) (c := k10c1) (by decide +kernel) rfl rfl rfl (by decide +kernel)
set_option maxRecDepth 65536 in
theorem w_c17 : (Jvm.Cond.code ({ cls := "java/lang/StringUTF16", name := "toBytes", desc := "([CII)[B" } : Jvm.MethodName) jdk_52_method_14_code (5 : Nat) (Option.some (Jvm.ClassFile.FieldType.array Jvm.ClassFile.FieldType.byte))).before args0 about1 = true := code_word (m := ⟨8, 7⟩) (meth := k8m7) (c := k8c7) (by decide +kernel) rfl rfl rfl (by decide +kernel)
set_option maxRecDepth 65536 in
theorem w_c18 : (Jvm.Cond.code ({ cls := "java/lang/StringUTF16", name := "newBytesFor", desc := "(I)[B" } : Jvm.MethodName) jdk_52_method_2_code (1 : Nat) (Option.some (Jvm.ClassFile.FieldType.array Jvm.ClassFile.FieldType.byte))).before args0 about1 = true := code_word (m := ⟨8, 1⟩) (meth := k8m1) (c := k8c1) (by decide +kernel) rfl rfl rfl (by decide +kernel)
set_option maxRecDepth 65536 in
theorem w_c19 : (Jvm.Cond.code ({ cls := "java/lang/StringUTF16", name := "newBytesLength", desc := "(I)I" } : Jvm.MethodName) jdk_52_method_3_code (1 : Nat) (Option.some Jvm.ClassFile.FieldType.int)).before args0 about1 = true := code_word (m := ⟨8, 2⟩) (meth := k8m2) (c := k8c2) (by decide +kernel) rfl rfl rfl (by decide +kernel)
set_option maxRecDepth 65536 in
theorem w_c20 : (Jvm.Cond.code ({ cls := "java/lang/StringUTF16", name := "putChar", desc := "([BII)V" } : Jvm.MethodName) jdk_52_method_4_code (3 : Nat) (Option.none : Option Jvm.ClassFile.FieldType)).before args0 about1 = true := code_word (m := ⟨8, 3⟩) (meth := k8m3) (c := k8c3) (by decide +kernel) rfl rfl rfl (by decide +kernel)
set_option maxRecDepth 65536 in
theorem w_c21 : (Jvm.Cond.code ({ cls := "java/lang/StringUTF16", name := "getChar", desc := "([BI)C" } : Jvm.MethodName) jdk_52_method_5_code (2 : Nat) (Option.some Jvm.ClassFile.FieldType.char)).before args0 about1 = true := code_word (m := ⟨8, 4⟩) (meth := k8m4) (c := k8c4) (by decide +kernel) rfl rfl rfl (by decide +kernel)
set_option maxRecDepth 65536 in
theorem w_c22 : (Jvm.Cond.code ({ cls := "com/example/ianus/ianus/TokenFollowsPinLaw", name := "isLow", desc := "(C)Z" } : Jvm.MethodName) method_4_code (1 : Nat) (Option.some Jvm.ClassFile.FieldType.boolean)).before args0 about1 = true := code_word (m := ⟨1, 3⟩) (meth := k1m3) (c := k1c3) (by decide +kernel) rfl rfl rfl (by decide +kernel)
set_option maxRecDepth 65536 in
theorem w_c23 : (Jvm.Cond.code ({ cls := "java/lang/String", name := "length", desc := "()I" } : Jvm.MethodName) jdk_42_method_54_code (1 : Nat) (Option.some Jvm.ClassFile.FieldType.int)).before args0 about1 = true := code_word (m := ⟨7, 2⟩) (meth := k7m2) (c := k7c2) (by decide +kernel) rfl rfl rfl (by decide +kernel)
set_option maxRecDepth 65536 in
theorem w_c24 : (Jvm.Cond.code ({ cls := "java/lang/String", name := "coder", desc := "()B" } : Jvm.MethodName) jdk_42_method_152_code (1 : Nat) (Option.some Jvm.ClassFile.FieldType.byte)).before args0 about1 = true := code_word (m := ⟨7, 7⟩) (meth := k7m7) (c := k7c7) (by decide +kernel) rfl rfl rfl (by decide +kernel)
set_option maxRecDepth 65536 in
theorem w_c25 : (Jvm.Cond.code ({ cls := "java/lang/String", name := "codePointCount", desc := "(II)I" } : Jvm.MethodName) jdk_42_method_59_code (3 : Nat) (Option.some Jvm.ClassFile.FieldType.int)).before args0 about1 = true := code_word (m := ⟨7, 3⟩) (meth := k7m3) (c := k7c3) (by decide +kernel) rfl rfl rfl (by decide +kernel)
set_option maxRecDepth 65536 in
theorem w_c26 : (Jvm.Cond.code ({ cls := "java/util/Objects", name := "checkFromToIndex", desc := "(III)I" } : Jvm.MethodName) jdk_31_method_18_code (3 : Nat) (Option.some Jvm.ClassFile.FieldType.int)).before args0 about1 = true := code_word (m := ⟨13, 1⟩) (meth := k13m1) (c := k13c1) (by decide +kernel) rfl rfl rfl (by decide +kernel)
set_option maxRecDepth 65536 in
theorem w_c27 : (Jvm.Cond.code ({ cls := "jdk/internal/util/Preconditions", name := "checkFromToIndex", desc := "(IIILjava/util/function/BiFunction;)I" } : Jvm.MethodName) jdk_41_method_12_code (4 : Nat) (Option.some Jvm.ClassFile.FieldType.int)).before args0 about1 = true := code_word (m := ⟨14, 1⟩) (meth := k14m1) (c := k14c1) (by decide +kernel) rfl rfl rfl (by decide +kernel)
set_option maxRecDepth 65536 in
theorem w_c28 : (Jvm.Cond.code ({ cls := "java/lang/String", name := "isLatin1", desc := "()Z" } : Jvm.MethodName) jdk_42_method_154_code (1 : Nat) (Option.some Jvm.ClassFile.FieldType.boolean)).before args0 about1 = true := code_word (m := ⟨7, 8⟩) (meth := k7m8) (c := k7c8) (by decide +kernel) rfl rfl rfl (by decide +kernel)
set_option maxRecDepth 65536 in
theorem w_c29 : (Jvm.Cond.code ({ cls := "java/lang/StringUTF16", name := "codePointCount", desc := "([BII)I" } : Jvm.MethodName) jdk_52_method_12_code (3 : Nat) (Option.some Jvm.ClassFile.FieldType.int)).before args0 about1 = true := code_word (m := ⟨8, 6⟩) (meth := k8m6) (c := k8c6) (by decide +kernel) rfl rfl rfl (by decide +kernel)
set_option maxRecDepth 65536 in
theorem w_c30 : (Jvm.Cond.code ({ cls := "java/lang/StringUTF16", name := "codePointCount", desc := "([BIIZ)I" } : Jvm.MethodName) jdk_52_method_11_code (6 : Nat) (Option.some Jvm.ClassFile.FieldType.int)).before args0 about1 = true := code_word (m := ⟨8, 5⟩) (meth := k8m5) (c := k8c5) (by decide +kernel) rfl rfl rfl (by decide +kernel)
set_option maxRecDepth 65536 in
theorem w_c31 : (Jvm.Cond.code ({ cls := "java/lang/Character", name := "isHighSurrogate", desc := "(C)Z" } : Jvm.MethodName) jdk_89_method_14_code (1 : Nat) (Option.some Jvm.ClassFile.FieldType.boolean)).before args0 about1 = true := code_word (m := ⟨15, 0⟩) (meth := k15m0) (c := k15c0) (by decide +kernel) rfl rfl rfl (by decide +kernel)
set_option maxRecDepth 65536 in
theorem w_c32 : (Jvm.Cond.code ({ cls := "java/lang/Character", name := "isLowSurrogate", desc := "(C)Z" } : Jvm.MethodName) jdk_89_method_15_code (1 : Nat) (Option.some Jvm.ClassFile.FieldType.boolean)).before args0 about1 = true := code_word (m := ⟨15, 1⟩) (meth := k15m1) (c := k15c1) (by decide +kernel) rfl rfl rfl (by decide +kernel)
def codes1 : List Jvm.Cond := [Jvm.Cond.code x code maxLocals ret, Jvm.Cond.code ({ cls := "com/example/ianus/ianus/TokenFollowsPinLaw", name := "draw", desc := "(II)C" } : Jvm.MethodName) method_5_code (2 : Nat) (Option.some Jvm.ClassFile.FieldType.char), Jvm.Cond.code ({ cls := "com/example/ianus/ianus/TokenFollowsPinLaw", name := "pick", desc := "(ICCC)[C" } : Jvm.MethodName) method_6_code (4 : Nat) (Option.some (Jvm.ClassFile.FieldType.array Jvm.ClassFile.FieldType.char)), Jvm.Cond.code ({ cls := "java/lang/String", name := "<init>", desc := "([C)V" } : Jvm.MethodName) jdk_42_method_3_code (2 : Nat) (Option.none : Option Jvm.ClassFile.FieldType), Jvm.Cond.code ({ cls := "java/lang/String", name := "<init>", desc := "([CIILjava/lang/Void;)V" } : Jvm.MethodName) jdk_42_method_149_code (6 : Nat) (Option.none : Option Jvm.ClassFile.FieldType), Jvm.Cond.code ({ cls := "java/lang/Object", name := "<init>", desc := "()V" } : Jvm.MethodName) object_method_1_code (1 : Nat) (Option.none : Option Jvm.ClassFile.FieldType), Jvm.Cond.code ({ cls := "java/lang/StringUTF16", name := "compress", desc := "([CII)[B" } : Jvm.MethodName) jdk_52_method_16_code (6 : Nat) (Option.some (Jvm.ClassFile.FieldType.array Jvm.ClassFile.FieldType.byte)), Jvm.Cond.code ({ cls := "java/lang/StringUTF16", name := "compress", desc := "([CI[BII)I" } : Jvm.MethodName) jdk_52_method_21_code (7 : Nat) (Option.some Jvm.ClassFile.FieldType.int), Jvm.Cond.code ({ cls := "java/lang/StringUTF16", name := "coderFromArrayLen", desc := "([BI)B" } : Jvm.MethodName) jdk_52_method_15_code (2 : Nat) (Option.some Jvm.ClassFile.FieldType.byte), Jvm.Cond.code ({ cls := "com/example/ianus/ianus/TokenFollowsPinLaw", name := "isHigh", desc := "(C)Z" } : Jvm.MethodName) method_3_code (1 : Nat) (Option.some Jvm.ClassFile.FieldType.boolean), Jvm.Cond.code ({ cls := "java/lang/String", name := "valueOf", desc := "(C)Ljava/lang/String;" } : Jvm.MethodName) jdk_42_method_139_code (1 : Nat) (Option.some (Jvm.ClassFile.FieldType.object "java/lang/String")), Jvm.Cond.code ({ cls := "java/lang/StringLatin1", name := "canEncode", desc := "(C)Z" } : Jvm.MethodName) jdk_43_method_3_code (1 : Nat) (Option.some Jvm.ClassFile.FieldType.boolean), Jvm.Cond.code ({ cls := "java/lang/StringLatin1", name := "toBytes", desc := "(C)[B" } : Jvm.MethodName) jdk_43_method_46_code (1 : Nat) (Option.some (Jvm.ClassFile.FieldType.array Jvm.ClassFile.FieldType.byte)), Jvm.Cond.code ({ cls := "java/lang/String", name := "<init>", desc := "([BB)V" } : Jvm.MethodName) jdk_42_method_151_code (3 : Nat) (Option.none : Option Jvm.ClassFile.FieldType), Jvm.Cond.code ({ cls := "com/example/ianus/ianus/TokenFollowsPinLaw", name := "kindOf", desc := "(I)Lcom/example/ianus/ianus/Token$Kind;" } : Jvm.MethodName) method_7_code (2 : Nat) (Option.some (Jvm.ClassFile.FieldType.object "com/example/ianus/ianus/Token$Kind")), Jvm.Cond.code ({ cls := "com/example/ianus/ianus/Token", name := "<init>", desc := "(Lcom/example/ianus/ianus/Token$Kind;Ljava/lang/String;Ljava/lang/String;II)V" } : Jvm.MethodName) prog_18_method_1_code (6 : Nat) (Option.none : Option Jvm.ClassFile.FieldType), Jvm.Cond.code ({ cls := "com/example/ianus/ianus/Token", name := "follows", desc := "(Lcom/example/ianus/ianus/Token;)Z" } : Jvm.MethodName) prog_18_method_8_code (2 : Nat) (Option.some Jvm.ClassFile.FieldType.boolean), Jvm.Cond.code ({ cls := "java/lang/StringUTF16", name := "toBytes", desc := "([CII)[B" } : Jvm.MethodName) jdk_52_method_14_code (5 : Nat) (Option.some (Jvm.ClassFile.FieldType.array Jvm.ClassFile.FieldType.byte)), Jvm.Cond.code ({ cls := "java/lang/StringUTF16", name := "newBytesFor", desc := "(I)[B" } : Jvm.MethodName) jdk_52_method_2_code (1 : Nat) (Option.some (Jvm.ClassFile.FieldType.array Jvm.ClassFile.FieldType.byte)), Jvm.Cond.code ({ cls := "java/lang/StringUTF16", name := "newBytesLength", desc := "(I)I" } : Jvm.MethodName) jdk_52_method_3_code (1 : Nat) (Option.some Jvm.ClassFile.FieldType.int), Jvm.Cond.code ({ cls := "java/lang/StringUTF16", name := "putChar", desc := "([BII)V" } : Jvm.MethodName) jdk_52_method_4_code (3 : Nat) (Option.none : Option Jvm.ClassFile.FieldType), Jvm.Cond.code ({ cls := "java/lang/StringUTF16", name := "getChar", desc := "([BI)C" } : Jvm.MethodName) jdk_52_method_5_code (2 : Nat) (Option.some Jvm.ClassFile.FieldType.char), Jvm.Cond.code ({ cls := "com/example/ianus/ianus/TokenFollowsPinLaw", name := "isLow", desc := "(C)Z" } : Jvm.MethodName) method_4_code (1 : Nat) (Option.some Jvm.ClassFile.FieldType.boolean), Jvm.Cond.code ({ cls := "java/lang/String", name := "length", desc := "()I" } : Jvm.MethodName) jdk_42_method_54_code (1 : Nat) (Option.some Jvm.ClassFile.FieldType.int), Jvm.Cond.code ({ cls := "java/lang/String", name := "coder", desc := "()B" } : Jvm.MethodName) jdk_42_method_152_code (1 : Nat) (Option.some Jvm.ClassFile.FieldType.byte), Jvm.Cond.code ({ cls := "java/lang/String", name := "codePointCount", desc := "(II)I" } : Jvm.MethodName) jdk_42_method_59_code (3 : Nat) (Option.some Jvm.ClassFile.FieldType.int), Jvm.Cond.code ({ cls := "java/util/Objects", name := "checkFromToIndex", desc := "(III)I" } : Jvm.MethodName) jdk_31_method_18_code (3 : Nat) (Option.some Jvm.ClassFile.FieldType.int), Jvm.Cond.code ({ cls := "jdk/internal/util/Preconditions", name := "checkFromToIndex", desc := "(IIILjava/util/function/BiFunction;)I" } : Jvm.MethodName) jdk_41_method_12_code (4 : Nat) (Option.some Jvm.ClassFile.FieldType.int), Jvm.Cond.code ({ cls := "java/lang/String", name := "isLatin1", desc := "()Z" } : Jvm.MethodName) jdk_42_method_154_code (1 : Nat) (Option.some Jvm.ClassFile.FieldType.boolean), Jvm.Cond.code ({ cls := "java/lang/StringUTF16", name := "codePointCount", desc := "([BII)I" } : Jvm.MethodName) jdk_52_method_12_code (3 : Nat) (Option.some Jvm.ClassFile.FieldType.int), Jvm.Cond.code ({ cls := "java/lang/StringUTF16", name := "codePointCount", desc := "([BIIZ)I" } : Jvm.MethodName) jdk_52_method_11_code (6 : Nat) (Option.some Jvm.ClassFile.FieldType.int), Jvm.Cond.code ({ cls := "java/lang/Character", name := "isHighSurrogate", desc := "(C)Z" } : Jvm.MethodName) jdk_89_method_14_code (1 : Nat) (Option.some Jvm.ClassFile.FieldType.boolean), Jvm.Cond.code ({ cls := "java/lang/Character", name := "isLowSurrogate", desc := "(C)Z" } : Jvm.MethodName) jdk_89_method_15_code (1 : Nat) (Option.some Jvm.ClassFile.FieldType.boolean)]
set_option maxRecDepth 65536 in
theorem codes_eq : words1.filter isCode = codes1 := rfl
theorem w_codes : ∀ c ∈ words1.filter isCode, c.before args0 about1 = true := by
  rw [codes_eq]
  intro c hc
  simp only [codes1, List.mem_cons, List.not_mem_nil, or_false] at hc
  rcases hc with rfl | rfl | rfl | rfl | rfl | rfl | rfl | rfl | rfl | rfl | rfl | rfl | rfl | rfl | rfl | rfl | rfl | rfl | rfl | rfl | rfl | rfl | rfl | rfl | rfl | rfl | rfl | rfl | rfl | rfl | rfl | rfl | rfl
  · exact w_c0
  · exact w_c1
  · exact w_c2
  · exact w_c3
  · exact w_c4
  · exact w_c5
  · exact w_c6
  · exact w_c7
  · exact w_c8
  · exact w_c9
  · exact w_c10
  · exact w_c11
  · exact w_c12
  · exact w_c13
  · exact w_c14
  · exact w_c15
  · exact w_c16
  · exact w_c17
  · exact w_c18
  · exact w_c19
  · exact w_c20
  · exact w_c21
  · exact w_c22
  · exact w_c23
  · exact w_c24
  · exact w_c25
  · exact w_c26
  · exact w_c27
  · exact w_c28
  · exact w_c29
  · exact w_c30
  · exact w_c31
  · exact w_c32
set_option maxRecDepth 65536 in
theorem w_t1 : (words1.take 24).all (fun c => isCode c || c.before args0 about1) = true := by decide +kernel
set_option maxRecDepth 65536 in
theorem w_t2 : ((words1.drop 24).take 24).all (fun c => isCode c || c.before args0 about1) = true := by decide +kernel
set_option maxRecDepth 65536 in
theorem w_t3 : (((words1.drop 24).drop 24).take 24).all (fun c => isCode c || c.before args0 about1) = true := by decide +kernel
set_option maxRecDepth 65536 in
theorem w_t4 : ((((words1.drop 24).drop 24).drop 24).take 24).all (fun c => isCode c || c.before args0 about1) = true := by decide +kernel
set_option maxRecDepth 65536 in
theorem w_t5 : (((((words1.drop 24).drop 24).drop 24).drop 24).take 24).all (fun c => isCode c || c.before args0 about1) = true := by decide +kernel
set_option maxRecDepth 65536 in
theorem w_t6 : ((((((words1.drop 24).drop 24).drop 24).drop 24).drop 24).take 24).all (fun c => isCode c || c.before args0 about1) = true := by decide +kernel
set_option maxRecDepth 65536 in
theorem w_t7 : ((((((words1.drop 24).drop 24).drop 24).drop 24).drop 24).drop 24).all (fun c => isCode c || c.before args0 about1) = true := by decide +kernel
theorem w_tables : (allAtoms (Jvm.Cond.code x code maxLocals ret :: tables_1)).before args0 about1 = true := by
  rw [allAtoms_all]
  show words1.all (fun c => c.before args0 about1) = true
  refine all_split ?_ w_codes
  rw [← List.take_append_drop 24 words1, List.all_append, w_t1, ← List.take_append_drop 24 (words1.drop 24), List.all_append, w_t2, ← List.take_append_drop 24 ((words1.drop 24).drop 24), List.all_append, w_t3, ← List.take_append_drop 24 (((words1.drop 24).drop 24).drop 24), List.all_append, w_t4, ← List.take_append_drop 24 ((((words1.drop 24).drop 24).drop 24).drop 24), List.all_append, w_t5, ← List.take_append_drop 24 (((((words1.drop 24).drop 24).drop 24).drop 24).drop 24), List.all_append, w_t6, w_t7]
  rfl
set_option maxRecDepth 65536 in
theorem w_rest : rest_1_c.before args0 about1 = true := by decide +kernel
set_option maxRecDepth 65536 in
theorem w_case : (Jvm.Cond.and given_1 narrow_1).before args0 about1 = true := by decide +kernel
set_option maxRecDepth 65536 in
theorem w_consts : constsHeld consts_1 about1 := Jvm.Lit.constsHeldB_iff.mp (by decide +kernel)
theorem w_applies : (headSpec (Jvm.Cond.code x code maxLocals ret :: tables_1) room_1).applies x e0.platform about1 = true :=
  (Spec.applies_iff w_frames).mpr ⟨w_running, w_runnable, w_alone, w_named, w_hears, w_ripe, w_room, w_tables⟩
theorem atStart : AtStart classFile x code maxLocals ret World_1 tables_1 room_1 Calls_1 rest_1 Pre_1 launch0 p0 e0 about1 theMethod args0 below0 :=
  ⟨lists_1, trivial, launch0.admits_env _ _ _, launch0.least_env, fairChoices_fair.cas, fairChoices_fair.clock, w_frames, w_args, w_heap, w_applies, ⟨w_consts, trivial⟩, w_rest, w_case⟩
end start1
theorem witness_1 : WitnessClaimed_1 := ⟨start1.p0, start1.e0, start1.about1, start1.theMethod, start1.args0, start1.below0, start1.atStart⟩
end Jvm.Pilot.@@N@@
