import JvmDerived
import JvmDerived.Pilot.@@N@@Statement
import JvmDerived.Pilot.@@N@@Code
set_option linter.unusedVariables false
set_option linter.unusedSimpArgs false
namespace Jvm.Pilot.@@N@@
open Jvm Jvm.ClassFile Sem Op Lib Jvm.Free Jvm.Stand Jvm.LawKit Jvm.RoadKit Bundle Jvm.Pilot.@@N@@.Jvm.D
section OwnHead
variable {p : Program} {l : Launch} {e : Env} {R : Room} {s : State} {m : MethodId} {args : Array Value} {below : List Frame} {meth : Method} {c : Code} {T T' : State} {locs : List Loc} {cells slots : Nat} {Q : Option Value → Heap → List Loc → Prop} {k n : Nat} {g : JFrame}
/-- from here (the state T, the frame g on top) the call comes to its end, and the end is as Fin says -/
def own_E (p : Program) (e : Env) (below : List Frame) (Fin : Outcome → State → Prop) (T : State) (g : JFrame) : Prop :=
  ∃ s₂ o, Steps p.tables e below (T.setTop g) s₂ ∧ s₂.status = .running ∧ Ended s₂ below o ∧ Fin o s₂
/-- the end of a body that interns nothing: what it returns, the heap and the places written as Q says, within k cells and n slots -/
def own_Fin (s : State) (Q : Option Value → Heap → List Loc → Prop) (k n : Nat) (o : Outcome) (t : State) : Prop := ∃ v L, o = .returned v ∧ Q v t.heap L ∧ FrameEnd s o t L k n
theorem own_start {Fin : Outcome → State → Prop} (h : own_E p e below Fin T g) : ∃ s₂ o, Steps p.tables e below (T.setTop g) s₂ ∧ s₂.status = .running ∧ Ended s₂ below o ∧ Fin o s₂ := h
theorem own_from {Fin : Outcome → State → Prop} (g' : JFrame) (h : ∀ {t}, Steps p.tables e below (T.setTop g') t → Steps p.tables e below (T.setTop g) t) (w : own_E p e below Fin T g') : own_E p e below Fin T g := by
  obtain ⟨s₂, o, h1, r⟩ := w; exact ⟨s₂, o, h h1, r⟩
theorem own_to {Fin : Outcome → State → Prop} (g' : JFrame) (h : ∀ t, Steps p.tables e below (T'.setTop g') t → Steps p.tables e below (T.setTop g) t) (w : own_E p e below Fin T' g') : own_E p e below Fin T g := by
  obtain ⟨s₂, o, h1, r⟩ := w; exact ⟨s₂, o, h _ h1, r⟩
theorem own_via {Fin : Outcome → State → Prop} (g' : JFrame) (h : Steps p.tables e below (T.setTop g) (T'.setTop g')) (w : own_E p e below Fin T' g') : own_E p e below Fin T g := by
  obtain ⟨s₂, o, h1, r⟩ := w; exact ⟨s₂, o, h.trans h1, r⟩
theorem own_end {v : Option Value} {pc : Nat} {Ls : Array Slot} {st : List Value} (X : Stand p l e R s m args below meth c T locs cells slots) (hv : meth.sig.returnType = none → v = none) (hlk : meth.locks = false) (hk : cells ≤ k) (hn : slots ≤ n) (hQ : Q v T.heap locs)
    (hs : ∀ fs, (∀ (f : JFrame) (acts : List Action), f.method = m → f.locked = none → f.entered = [] → (doReturn e (T.setTop f) acts v).1 = T.setFrames fs) → Steps p.tables e below (T.setTop (mkF m pc Ls st)) (T.setFrames fs)) : own_E p e below (own_Fin s Q k n) T (mkF m pc Ls st) := by
  obtain ⟨fs, hr, hrun, hended, hW, hsame⟩ := X.leave (v := v) hv hlk
  exact ⟨_, _, hs fs hr, hrun, hended, _, _, rfl, hQ, ⟨_, rfl⟩, hW, hsame.mono hk hn⟩
theorem own_retN (X : Stand p l e R s m args below meth c T locs cells slots) (hx : p.tables.exec = Jvm.exec) {pc : Nat} {Ls : Array Slot} {z : Int32} {t : FieldType} {rest : List Value} (hret : meth.sig.returnType = some t) (ht : t = .boolean ∨ t = .byte ∨ t = .char ∨ t = .short) (hlk : meth.locks = false)
    (hd : decode c.code pc = .ok (.ireturn, 1)) (hk : cells ≤ k) (hn : slots ≤ n) (hQ : Q (some (.int (nar t z))) T.heap locs) : own_E p e below (own_Fin s Q k n) T (mkF m pc Ls (.int z :: rest)) :=
  own_end X (fun h => by rw [hret] at h; cases h) hlk hk hn hQ fun _ hr => retN X hx hret ht hd hr
theorem own_retI (X : Stand p l e R s m args below meth c T locs cells slots) (hx : p.tables.exec = Jvm.exec) {pc : Nat} {Ls : Array Slot} {z : Int32} {rest : List Value} (hret : meth.sig.returnType = some .int) (hlk : meth.locks = false)
    (hd : decode c.code pc = .ok (.ireturn, 1)) (hk : cells ≤ k) (hn : slots ≤ n) (hQ : Q (some (.int z)) T.heap locs) : own_E p e below (own_Fin s Q k n) T (mkF m pc Ls (.int z :: rest)) :=
  own_end X (fun h => by rw [hret] at h; cases h) hlk hk hn hQ fun _ hr => retOut X hx hret rfl (Or.inl ⟨rfl, Or.inl rfl, _, rfl⟩) hd hr
theorem own_retJ (X : Stand p l e R s m args below meth c T locs cells slots) (hx : p.tables.exec = Jvm.exec) {pc : Nat} {Ls : Array Slot} {z : Int64} {rest : List Value} (hret : meth.sig.returnType = some .long) (hlk : meth.locks = false)
    (hd : decode c.code pc = .ok (.lreturn, 1)) (hk : cells ≤ k) (hn : slots ≤ n) (hQ : Q (some (.long z)) T.heap locs) : own_E p e below (own_Fin s Q k n) T (mkF m pc Ls (.long z :: rest)) :=
  own_end X (fun h => by rw [hret] at h; cases h) hlk hk hn hQ fun _ hr => retOut X hx hret rfl (Or.inr (Or.inl ⟨rfl, rfl, _, rfl⟩)) hd hr
theorem own_retA (X : Stand p l e R s m args below meth c T locs cells slots) (hx : p.tables.exec = Jvm.exec) {pc : Nat} {Ls : Array Slot} {w : Value} {t : FieldType} {rest : List Value} (hret : meth.sig.returnType = some t) (ht : t.isReference = true) (hlk : meth.locks = false)
    (hd : decode c.code pc = .ok (.areturn, 1)) (hw : w.isRef = true) (hk : cells ≤ k) (hn : slots ≤ n) (hQ : Q (some w) T.heap locs) : own_E p e below (own_Fin s Q k n) T (mkF m pc Ls (w :: rest)) :=
  own_end X (fun h => by rw [hret] at h; cases h) hlk hk hn hQ fun _ hr => retOut X hx hret (by cases t <;> first | rfl | cases ht) (Or.inr (Or.inr (Or.inr (Or.inr ⟨rfl, ht, hw⟩)))) hd hr
theorem own_ret0 (X : Stand p l e R s m args below meth c T locs cells slots) (hx : p.tables.exec = Jvm.exec) {pc : Nat} {Ls : Array Slot} (hret : meth.sig.returnType = none) (hlk : meth.locks = false)
    (hd : decode c.code pc = .ok (.return_, 1)) (hk : cells ≤ k) (hn : slots ≤ n) (hQ : Q none T.heap locs) : own_E p e below (own_Fin s Q k n) T (mkF m pc Ls []) :=
  own_end X (fun _ => rfl) hlk hk hn hQ fun _ hr => X.returnOut hx hret hd hr
theorem own_b8 (y : Int32) : y.toInt8.toInt32.toInt8.toInt32 = y.toInt8.toInt32 := by
  have a := c_i2b y
  have b := c_i2b y.toInt8.toInt32
  rw [← Int32.toInt_inj]; omega
theorem own_01 {C : Prop} {d : Int32} (h1 : C → d = (0 : Int32)) (h2 : ¬ C → d = (1 : Int32)) : d = 0 ∨ d = 1 := (Classical.em C).elim (fun q => Or.inl (h1 q)) (fun q => Or.inr (h2 q))
theorem own_irr (x : Int32) : ¬ x < x := Int32.lt_irrefl
end OwnHead
section OwnWords
variable {args : Array Value} {s : State} {t : Term} {C n d : String} {a : Addr}
theorem own_fldI {k : Int32} (ht : t.eval args s none [] s = some (.ref a)) (h : (Jvm.Cond.eq (Term.field t C n d) (Term.int k)).value args s none s [] = some true) : Fld s s.heap a C n d (.int k) := by
  obtain ⟨x, y, e1, e2, -, k2⟩ := cmp_v (Or.inl h)
  have q : y = .int k := Option.some.inj (e2.symm.trans (Term.int_eval k))
  subst q
  obtain ⟨z, rfl⟩ := k2
  have q := gotT (Cond.eq_ints e1 (Term.int_eval k)) h
  subst q
  exact Fld.start ((fld_at ht).symm.trans e1)
theorem own_fldJ {k : Int64} (ht : t.eval args s none [] s = some (.ref a)) (h : (Jvm.Cond.eq (Term.field t C n d) (Term.long k)).value args s none s [] = some true) : Fld s s.heap a C n d (.long k) := by
  obtain ⟨x, y, e1, e2, -, k2⟩ := cmp_v (Or.inl h)
  have q : y = .long k := Option.some.inj (e2.symm.trans (long_at k))
  subst q
  obtain ⟨z, rfl⟩ := k2
  have q := gotT (eq_L e1 (long_at k)) h
  subst q
  exact Fld.start ((fld_at ht).symm.trans e1)
end OwnWords
section OwnWide
variable {p : Program} {l : Launch} {e : Env} {R : Room} {s : State} {m : MethodId} {args : Array Value} {below : List Frame} {meth : Method} {c : Code} {T T' : State} {locs : List Loc} {cells slots : Nat} {Q : Option Value → Heap → List Loc → Prop} {k n : Nat} {g : JFrame} {vm₁ : Vm} {k1 : Nat}
/-- the end of a law that may have interned a String constant -/
def own_FinW (s : State) (Q : Option Value → Heap → List Loc → Prop) (k n : Nat) (o : Outcome) (t : State) : Prop := ∃ v L, o = .returned v ∧ Q v t.heap L ∧ ReturnedEndW s o t L k n
theorem own_endW {v : Option Value} {pc : Nat} {Ls : Array Slot} {st : List Value} (X : Stand p l e R (s.setVm vm₁) m args below meth c T locs cells slots) (hS : s.Since vm₁ k1) (hk1 : k1 ≤ T.heap.size) (hv : meth.sig.returnType = none → v = none) (hlk : meth.locks = false) (hk : cells ≤ k) (hn : slots ≤ n) (hQ : Q v T.heap locs)
    (hs : ∀ fs, (∀ (f : JFrame) (acts : List Action), f.method = m → f.locked = none → f.entered = [] → (doReturn e (T.setTop f) acts v).1 = T.setFrames fs) → Steps p.tables e below (T.setTop (mkF m pc Ls st)) (T.setFrames fs)) : own_E p e below (own_FinW s Q k n) T (mkF m pc Ls st) := by
  obtain ⟨fs, hr, hrun, hended, h1, h2, h3, h4⟩ := X.leaveW hS hk1 (v := v) hv hlk
  exact ⟨_, _, hs fs hr, hrun, hended, _, _, rfl, hQ, h1, h2, h3, h4.mono hk hn⟩
theorem own_retNW (X : Stand p l e R (s.setVm vm₁) m args below meth c T locs cells slots) (hS : s.Since vm₁ k1) (hk1 : k1 ≤ T.heap.size) (hx : p.tables.exec = Jvm.exec) {pc : Nat} {Ls : Array Slot} {z : Int32} {t : FieldType} {rest : List Value} (hret : meth.sig.returnType = some t) (ht : t = .boolean ∨ t = .byte ∨ t = .char ∨ t = .short) (hlk : meth.locks = false)
    (hd : decode c.code pc = .ok (.ireturn, 1)) (hk : cells ≤ k) (hn : slots ≤ n) (hQ : Q (some (.int (nar t z))) T.heap locs) : own_E p e below (own_FinW s Q k n) T (mkF m pc Ls (.int z :: rest)) :=
  own_endW X hS hk1 (fun h => by rw [hret] at h; cases h) hlk hk hn hQ fun _ hr => retN X hx hret ht hd hr
end OwnWide
section OwnCalls
variable {p : Program} {l : Launch} {e : Env} {R : Room} {s : State} {m : MethodId} {args : Array Value} {below : List Frame} {meth : Method} {c : Code} {T : State} {locs : List Loc} {cells slots : Nat}
/-- a static call, handed back with the sums in it -/
theorem own_callS (X : Stand p l e R s m args below meth c T locs cells slots) (hexec : p.tables.exec = Jvm.exec) {own : String} {index : Nat} {y : MethodName} {bytes : ByteArray} {maxL : Nat} {ret : Option FieldType}
    (hown : s.vm.findClass own = some m.cls) (hlink : (Jvm.Cond.methodLink own index y).before args s = true) (hstat : (Jvm.Cond.static y).before args s = true) (hinit : (Jvm.Cond.initialized y.cls).before args s = true)
    (hcode : (Jvm.Cond.code y bytes maxL ret).before args s = true) (hy : y.cls ≠ "java/lang/invoke/MethodHandle" ∧ y.cls ≠ "java/lang/invoke/VarHandle")
    {W : Nat} {as' : Array Value} {h : Heap} {rc rs : Nat} {Q : Option Value → Heap → List Loc → Prop} (hK : Back l R p e below s args y 3 W (fun A a => a = as' ∧ A.U.heap = h ∧ A.cells + rc ≤ R.cells ∧ A.slots + rs ≤ R.slots) (fun A _ v B => ∃ L, Q v B.U.heap L ∧ B.locs = A.locs ++ L ∧ B.cells = A.cells + rc ∧ B.slots = A.slots + rs))
    {g : JFrame} (hg : g.method = m) (hsize : g.locals.size = c.maxLocals) {argsL rest : List Value} (hlen : ∀ sig, parseMethodDescriptor y.desc = some sig → argsL.length = sig.parameters.length)
    (hstack : g.stack = argsL.reverse ++ rest) (hW : 2 * g.monitorRoom + (rest.map fun v => v.category).sum ≤ W) (hdg : decode c.code g.pc = .ok (.invokestatic index, 3))
    (ha : argsL.toArray = as') (eT : T.heap = h) {kc ks : Nat} (hkc : cells + rc = kc) (hks : slots + rs = ks) (hc : kc ≤ R.cells) (hs : ks ≤ R.slots) :
    ∃ (v : Option Value) (T' : State) (Lc : List Loc), Stand p l e R s m args below meth c T' (locs ++ Lc) kc ks ∧ Q v T'.heap Lc ∧ ∀ target, Steps p.tables e below (T'.setTop { g with pc := g.pc + 3, stack := v.toList ++ rest }) target → Steps p.tables e below (T.setTop g) target := by
  subst hkc hks
  obtain ⟨v, vm₁, ⟨T', L', k', n'⟩, -, X', ⟨Lc, hQ, l', y', z'⟩, st⟩ := Jvm.LawKit.callS X hexec hown hlink hstat hinit hcode hy hK hg hsize hlen hstack hW hdg (fun _ _ => ⟨ha, eT, hc, hs⟩)
  dsimp only [Pt.U, Pt.locs, Pt.cells, Pt.slots] at X' l' y' z' st hQ
  subst l' y' z'
  exact ⟨v, T', Lc, X', hQ, st⟩
theorem own_special (X : Stand p l e R s m args below meth c T locs cells slots) (hexec : p.tables.exec = Jvm.exec) {own : String} {index : Nat} {y : MethodName} (hy1 : y.name = "<init>")
    (hown : s.vm.findClass own = some m.cls) (hlink : (Jvm.Cond.methodLink own index y).before args s = true) (hinst : (Jvm.Cond.instanceMethod y).before args s = true)
    {bytes : ByteArray} {maxL : Nat} (hcode : (Jvm.Cond.code y bytes maxL none).before args s = true) (hy : y.cls ≠ "java/lang/invoke/MethodHandle" ∧ y.cls ≠ "java/lang/invoke/VarHandle")
    {W : Nat} {as' : Array Value} {h : Heap} {rc rs : Nat} {Q : Option Value → Heap → List Loc → Prop} (hK : Back l R p e below s args y 3 W (fun A a => a = as' ∧ A.U.heap = h ∧ A.cells + rc ≤ R.cells ∧ A.slots + rs ≤ R.slots) (fun A _ v B => ∃ L, Q v B.U.heap L ∧ B.locs = A.locs ++ L ∧ B.cells = A.cells + rc ∧ B.slots = A.slots + rs))
    {g : JFrame} (hg : g.method = m) (hsize : g.locals.size = c.maxLocals) {a : Addr} {argsL rest : List Value}
    (hlen : ∀ sig, parseMethodDescriptor y.desc = some sig → argsL.length = sig.parameters.length) (hstack : g.stack = argsL.reverse ++ .ref a :: rest) (hW : 2 * g.monitorRoom + (rest.map fun v => v.category).sum ≤ W)
    (hdg : decode c.code g.pc = .ok (.invokespecial index, 3)) (ha : (Value.ref a :: argsL).toArray = as') (eT : T.heap = h) {kc ks : Nat} (hkc : cells + rc = kc) (hks : slots + rs = ks) (hc : kc ≤ R.cells) (hs : ks ≤ R.slots) :
    ∃ (v : Option Value) (T' : State) (Lc : List Loc), Stand p l e R s m args below meth c T' (locs ++ Lc) kc ks ∧ Q v T'.heap Lc ∧ Steps p.tables e below (T.setTop g) (T'.setTop { g with pc := g.pc + 3, stack := v.toList ++ rest }) := by
  subst hkc hks
  obtain ⟨v, vm₁, ⟨T', L', k', n'⟩, -, X', ⟨Lc, hQ, l', y', z'⟩, st⟩ := X.specialBack hexec hy1 hown hlink hinst hcode hy hK hg hsize (Steps.refl _) hlen hstack hW hdg (fun _ _ => ⟨ha, eT, hc, hs⟩)
  dsimp only [Pt.U, Pt.locs, Pt.cells, Pt.slots] at X' l' y' z' st hQ
  subst l' y' z'
  exact ⟨v, T', Lc, X', hQ, st⟩
theorem own_virtual (X : Stand p l e R s m args below meth c T locs cells slots) (hexec : p.tables.exec = Jvm.exec) {own C : String} {index : Nat} {y z : MethodName}
    (hown : s.vm.findClass own = some m.cls) (hlink : (Jvm.Cond.methodLink own index y).before args s = true) (hdecl : (Jvm.Cond.declares y).before args s = true) (hnf : NotFace s y)
    (hsel : (Jvm.Cond.selects C y z).before args s = true) (hinst : (Jvm.Cond.instanceMethod z).before args s = true) (hy : y.cls ≠ "java/lang/invoke/MethodHandle" ∧ y.cls ≠ "java/lang/invoke/VarHandle")
    {W : Nat} {as' : Array Value} {h : Heap} {rc rs : Nat} {Q : Option Value → Heap → List Loc → Prop} (hK : Back l R p e below s args z 3 W (fun A a => a = as' ∧ A.U.heap = h ∧ A.cells + rc ≤ R.cells ∧ A.slots + rs ≤ R.slots) (fun A _ v B => ∃ L, Q v B.U.heap L ∧ B.locs = A.locs ++ L ∧ B.cells = A.cells + rc ∧ B.slots = A.slots + rs))
    {b : Addr} {cB : ClassId} (hcB : s.vm.findClass C = some cB) (hrecv : IsOf cB T b)
    {g : JFrame} (hg : g.method = m) (hsize : g.locals.size = c.maxLocals) {argsL rest : List Value}
    (hlen : ∀ sig, parseMethodDescriptor y.desc = some sig → argsL.length = sig.parameters.length) (hstack : g.stack = argsL.reverse ++ .ref b :: rest) (hW : 2 * g.monitorRoom + (rest.map fun v => v.category).sum ≤ W)
    (hdg : decode c.code g.pc = .ok (.invokevirtual index, 3)) (ha : (Value.ref b :: argsL).toArray = as') (eT : T.heap = h) {kc ks : Nat} (hkc : cells + rc = kc) (hks : slots + rs = ks) (hc : kc ≤ R.cells) (hs : ks ≤ R.slots) :
    ∃ (v : Option Value) (T' : State) (Lc : List Loc), Stand p l e R s m args below meth c T' (locs ++ Lc) kc ks ∧ Q v T'.heap Lc ∧ Steps p.tables e below (T.setTop g) (T'.setTop { g with pc := g.pc + 3, stack := v.toList ++ rest }) := by
  subst hkc hks
  obtain ⟨v, vm₁, ⟨T', L', k', n'⟩, -, X', ⟨Lc, hQ, l', y', z'⟩, st⟩ := X.virtualBack hexec hown hlink hdecl hnf hsel hinst hy hK hcB hrecv hg hsize (Steps.refl _) hlen hstack hW hdg (fun _ _ => ⟨ha, eT, hc, hs⟩)
  dsimp only [Pt.U, Pt.locs, Pt.cells, Pt.slots] at X' l' y' z' st hQ
  subst l' y' z'
  exact ⟨v, T', Lc, X', hQ, st⟩
end OwnCalls
/-- a body's contract: called with A at the heap h0, it returns, and Q says what and how -/
abbrev own_MF (l : Launch) (y : MethodName) (cs : List Jvm.Cond) (R : Room) (A : Array Value) (Z : State) (h0 : Heap) (Q : Option Value → Heap → List Loc → Prop) : Prop :=
  MetFree l y (head1 cs R) (fun aa_ U => aa_ = A ∧ Z.Warmed39 U.vm ∧ U.heap = h0) (fun _ _ _ _ _ => True) (fun _ U o U' => ∃ v L, o = .returned v ∧ Q v U'.heap L ∧ FrameEnd U o U' L R.cells R.slots)
section OwnStep
variable {p : Program} {l : Launch} {e : Env} {R : Room} {s : State} {m : MethodId} {args : Array Value} {below : List Frame} {meth : Method} {c : Code} {T : State} {locs : List Loc} {cells slots : Nat} {Fn : Outcome → State → Prop} {pc : Nat} {L : Array Slot} {st : List Value} {k : Nat} {kn : Fin 4} {x y z : Int32} {a : Value} {i o : Int} {cd : ClassFile.Cond}

theorem own_w {Z : State} {a0 : Array Value} {d : Jvm.Cond} (hw : ∀ d ∈ tables_1, d.before a0 Z = true) (i : Nat) (h : tables_1[i]? = some d) : d.before a0 Z = true := hw _ (List.mem_of_getElem? h)
theorem own_il (q : Nat)  (X : Stand p l e R s m args below meth c T locs cells slots) (hx : p.tables.exec = Jvm.exec) (hd : decode c.code pc = .ok (.iload k, 2)) (hl : L[k]? = some (.val (.int x))) (hq : pc + 2 = q) (w : own_E p e below Fn T (mkF m q L (.int x :: st))) : own_E p e below Fn T (mkF m pc L st) := by
  subst hq; exact own_to (T' := T) (mkF m (pc + 2) L (.int x :: st)) (fun _ j => XS.iload X.here hx rfl hd hl j) w
theorem own_iln (q : Nat)  (X : Stand p l e R s m args below meth c T locs cells slots) (hx : p.tables.exec = Jvm.exec) (hd : decode c.code pc = .ok (.iload_n kn, 1)) (hl : L[kn.val]? = some (.val (.int x))) (hq : pc + 1 = q) (w : own_E p e below Fn T (mkF m q L (.int x :: st))) : own_E p e below Fn T (mkF m pc L st) := by
  subst hq; exact own_to (T' := T) (mkF m (pc + 1) L (.int x :: st)) (fun _ j => XS.iloadN X.here hx rfl hd hl j) w
theorem own_al (q : Nat)  (X : Stand p l e R s m args below meth c T locs cells slots) (hx : p.tables.exec = Jvm.exec) (hd : decode c.code pc = .ok (.aload k, 2)) (hl : L[k]? = some (.val a)) (hv : a.isRef = true) (hq : pc + 2 = q) (w : own_E p e below Fn T (mkF m q L (a :: st))) : own_E p e below Fn T (mkF m pc L st) := by
  subst hq; exact own_to (T' := T) (mkF m (pc + 2) L (a :: st)) (fun _ j => XS.aload X.here hx rfl hd hl hv j) w
theorem own_aln (q : Nat)  (X : Stand p l e R s m args below meth c T locs cells slots) (hx : p.tables.exec = Jvm.exec) (hd : decode c.code pc = .ok (.aload_n kn, 1)) (hl : L[kn.val]? = some (.val a)) (hv : a.isRef = true) (hq : pc + 1 = q) (w : own_E p e below Fn T (mkF m q L (a :: st))) : own_E p e below Fn T (mkF m pc L st) := by
  subst hq; exact own_to (T' := T) (mkF m (pc + 1) L (a :: st)) (fun _ j => XS.aloadN X.here hx rfl hd hl hv j) w
theorem own_ic (q : Nat) (z : Int32) (X : Stand p l e R s m args below meth c T locs cells slots) (hx : p.tables.exec = Jvm.exec) (hd : decode c.code pc = .ok (.iconst i, 1)) (hz : Int32.ofInt i = z) (hq : pc + 1 = q) (w : own_E p e below Fn T (mkF m q L (.int z :: st))) : own_E p e below Fn T (mkF m pc L st) := by
  subst hq; subst hz; exact own_to (T' := T) (mkF m (pc + 1) L (.int (Int32.ofInt i) :: st)) (fun _ j => XS.iconst X.here hx rfl hd j) w
theorem own_bi (q : Nat) (z : Int32) (X : Stand p l e R s m args below meth c T locs cells slots) (hx : p.tables.exec = Jvm.exec) (hd : decode c.code pc = .ok (.bipush i, 2)) (hz : (Int8.ofInt i).toInt32 = z) (hq : pc + 2 = q) (w : own_E p e below Fn T (mkF m q L (.int z :: st))) : own_E p e below Fn T (mkF m pc L st) := by
  subst hq; subst hz; exact own_to (T' := T) (mkF m (pc + 2) L (.int ((Int8.ofInt i).toInt32) :: st)) (fun _ j => XS.bipush X.here hx rfl hd j) w
theorem own_si (q : Nat) (z : Int32) (X : Stand p l e R s m args below meth c T locs cells slots) (hx : p.tables.exec = Jvm.exec) (hd : decode c.code pc = .ok (.sipush i, 3)) (hz : (Int16.ofInt i).toInt32 = z) (hq : pc + 3 = q) (w : own_E p e below Fn T (mkF m q L (.int z :: st))) : own_E p e below Fn T (mkF m pc L st) := by
  subst hq; subst hz; exact own_to (T' := T) (mkF m (pc + 3) L (.int ((Int16.ofInt i).toInt32) :: st)) (fun _ j => XS.sipush X.here hx rfl hd j) w
theorem own_iadd (q : Nat)  (X : Stand p l e R s m args below meth c T locs cells slots) (hx : p.tables.exec = Jvm.exec) (hd : decode c.code pc = .ok (.iadd, 1)) (hz : x + y = z) (hq : pc + 1 = q) (w : own_E p e below Fn T (mkF m q L (.int z :: st))) : own_E p e below Fn T (mkF m pc L (.int y :: .int x :: st)) := by
  subst hq; subst hz; exact own_to (T' := T) (mkF m (pc + 1) L (.int (x + y) :: st)) (fun _ j => XS.iadd X.here hx rfl hd rfl j) w
theorem own_isub (q : Nat)  (X : Stand p l e R s m args below meth c T locs cells slots) (hx : p.tables.exec = Jvm.exec) (hd : decode c.code pc = .ok (.isub, 1)) (hz : x - y = z) (hq : pc + 1 = q) (w : own_E p e below Fn T (mkF m q L (.int z :: st))) : own_E p e below Fn T (mkF m pc L (.int y :: .int x :: st)) := by
  subst hq; subst hz; exact own_to (T' := T) (mkF m (pc + 1) L (.int (x - y) :: st)) (fun _ j => XS.isub X.here hx rfl hd rfl j) w
theorem own_iand (q : Nat)  (X : Stand p l e R s m args below meth c T locs cells slots) (hx : p.tables.exec = Jvm.exec) (hd : decode c.code pc = .ok (.iand, 1)) (hz : x &&& y = z) (hq : pc + 1 = q) (w : own_E p e below Fn T (mkF m q L (.int z :: st))) : own_E p e below Fn T (mkF m pc L (.int y :: .int x :: st)) := by
  subst hq; subst hz; exact own_to (T' := T) (mkF m (pc + 1) L (.int (x &&& y) :: st)) (fun _ j => XS.iand X.here hx rfl hd rfl j) w
theorem own_ior (q : Nat)  (X : Stand p l e R s m args below meth c T locs cells slots) (hx : p.tables.exec = Jvm.exec) (hd : decode c.code pc = .ok (.ior, 1)) (hz : x ||| y = z) (hq : pc + 1 = q) (w : own_E p e below Fn T (mkF m q L (.int z :: st))) : own_E p e below Fn T (mkF m pc L (.int y :: .int x :: st)) := by
  subst hq; subst hz; exact own_to (T' := T) (mkF m (pc + 1) L (.int (x ||| y) :: st)) (fun _ j => XS.ior X.here hx rfl hd rfl j) w
theorem own_ishl (q : Nat)  (X : Stand p l e R s m args below meth c T locs cells slots) (hx : p.tables.exec = Jvm.exec) (hd : decode c.code pc = .ok (.ishl, 1)) (hz : x <<< (y &&& 31) = z) (hq : pc + 1 = q) (w : own_E p e below Fn T (mkF m q L (.int z :: st))) : own_E p e below Fn T (mkF m pc L (.int y :: .int x :: st)) := by
  subst hq; subst hz; exact own_to (T' := T) (mkF m (pc + 1) L (.int (x <<< (y &&& 31)) :: st)) (fun _ j => XS.ishl X.here hx rfl hd rfl j) w
theorem own_ishr (q : Nat)  (X : Stand p l e R s m args below meth c T locs cells slots) (hx : p.tables.exec = Jvm.exec) (hd : decode c.code pc = .ok (.ishr, 1)) (hz : x >>> (y &&& 31) = z) (hq : pc + 1 = q) (w : own_E p e below Fn T (mkF m q L (.int z :: st))) : own_E p e below Fn T (mkF m pc L (.int y :: .int x :: st)) := by
  subst hq; subst hz; exact own_to (T' := T) (mkF m (pc + 1) L (.int (x >>> (y &&& 31)) :: st)) (fun _ j => XS.ishr X.here hx rfl hd rfl j) w
theorem own_iushr (q : Nat)  (X : Stand p l e R s m args below meth c T locs cells slots) (hx : p.tables.exec = Jvm.exec) (hd : decode c.code pc = .ok (.iushr, 1)) (hz : (x.toUInt32 >>> (y &&& 31).toUInt32).toInt32 = z) (hq : pc + 1 = q) (w : own_E p e below Fn T (mkF m q L (.int z :: st))) : own_E p e below Fn T (mkF m pc L (.int y :: .int x :: st)) := by
  subst hq; subst hz; exact own_to (T' := T) (mkF m (pc + 1) L (.int ((x.toUInt32 >>> (y &&& 31).toUInt32).toInt32) :: st)) (fun _ j => XS.iushr X.here hx rfl hd rfl j) w
theorem own_i2b (q : Nat)  (X : Stand p l e R s m args below meth c T locs cells slots) (hx : p.tables.exec = Jvm.exec) (hd : decode c.code pc = .ok (.i2b, 1)) (hz : x.toInt8.toInt32 = z) (hq : pc + 1 = q) (w : own_E p e below Fn T (mkF m q L (.int z :: st))) : own_E p e below Fn T (mkF m pc L (.int x :: st)) := by
  subst hq; subst hz; exact own_to (T' := T) (mkF m (pc + 1) L (.int (x.toInt8.toInt32) :: st)) (fun _ j => XS.i2b X.here hx rfl hd rfl j) w
theorem own_i2c (q : Nat)  (X : Stand p l e R s m args below meth c T locs cells slots) (hx : p.tables.exec = Jvm.exec) (hd : decode c.code pc = .ok (.i2c, 1)) (hz : x.toUInt32.toUInt16.toUInt32.toInt32 = z) (hq : pc + 1 = q) (w : own_E p e below Fn T (mkF m q L (.int z :: st))) : own_E p e below Fn T (mkF m pc L (.int x :: st)) := by
  subst hq; subst hz; exact own_to (T' := T) (mkF m (pc + 1) L (.int (x.toUInt32.toUInt16.toUInt32.toInt32) :: st)) (fun _ j => XS.i2c X.here hx rfl hd rfl j) w
theorem own_dup (q : Nat)  (X : Stand p l e R s m args below meth c T locs cells slots) (hx : p.tables.exec = Jvm.exec) (hd : decode c.code pc = .ok (.dup, 1)) (hv : a.category = 1) (hq : pc + 1 = q) (w : own_E p e below Fn T (mkF m q L (a :: a :: st))) : own_E p e below Fn T (mkF m pc L (a :: st)) := by
  subst hq; exact own_to (T' := T) (mkF m (pc + 1) L (a :: a :: st)) (fun _ j => XS.dup X.here hx rfl hd rfl hv j) w
theorem own_nul (q : Nat)  (X : Stand p l e R s m args below meth c T locs cells slots) (hx : p.tables.exec = Jvm.exec) (hd : decode c.code pc = .ok (.aconst_null, 1))  (hq : pc + 1 = q) (w : own_E p e below Fn T (mkF m q L (.null :: st))) : own_E p e below Fn T (mkF m pc L st) := by
  subst hq; exact own_to (T' := T) (mkF m (pc + 1) L (.null :: st)) (fun _ j => XS.aconstNull X.here hx rfl hd j) w
theorem own_is (q : Nat) (L' : Array Slot) (X : Stand p l e R s m args below meth c T locs cells slots) (hx : p.tables.exec = Jvm.exec) (hd : decode c.code pc = .ok (.istore k, 2)) (hl : storeLocals L k (.int x) = some L') (hq : pc + 2 = q) (w : own_E p e below Fn T (mkF m q L' st)) : own_E p e below Fn T (mkF m pc L (.int x :: st)) := by
  subst hq; exact own_to (T' := T) (mkF m (pc + 2) L' st) (fun _ j => XS.istore X.here hx rfl hd rfl hl j) w
theorem own_isn (q : Nat) (L' : Array Slot) (X : Stand p l e R s m args below meth c T locs cells slots) (hx : p.tables.exec = Jvm.exec) (hd : decode c.code pc = .ok (.istore_n kn, 1)) (hl : storeLocals L kn.val (.int x) = some L') (hq : pc + 1 = q) (w : own_E p e below Fn T (mkF m q L' st)) : own_E p e below Fn T (mkF m pc L (.int x :: st)) := by
  subst hq; exact own_to (T' := T) (mkF m (pc + 1) L' st) (fun _ j => XS.istoreN X.here hx rfl hd rfl hl j) w
theorem own_as (q : Nat) (L' : Array Slot) (X : Stand p l e R s m args below meth c T locs cells slots) (hx : p.tables.exec = Jvm.exec) (hd : decode c.code pc = .ok (.astore k, 2)) (hv : a.isRef = true) (hl : storeLocals L k a = some L') (hq : pc + 2 = q) (w : own_E p e below Fn T (mkF m q L' st)) : own_E p e below Fn T (mkF m pc L (a :: st)) := by
  subst hq; exact own_to (T' := T) (mkF m (pc + 2) L' st) (fun _ j => XS.astore X.here hx rfl hd rfl hv hl j) w
theorem own_asn (q : Nat) (L' : Array Slot) (X : Stand p l e R s m args below meth c T locs cells slots) (hx : p.tables.exec = Jvm.exec) (hd : decode c.code pc = .ok (.astore_n kn, 1)) (hv : a.isRef = true) (hl : storeLocals L kn.val a = some L') (hq : pc + 1 = q) (w : own_E p e below Fn T (mkF m q L' st)) : own_E p e below Fn T (mkF m pc L (a :: st)) := by
  subst hq; exact own_to (T' := T) (mkF m (pc + 1) L' st) (fun _ j => XS.astoreN X.here hx rfl hd rfl hv hl j) w
theorem own_inc (q : Nat) (L' : Array Slot) (X : Stand p l e R s m args below meth c T locs cells slots) (hx : p.tables.exec = Jvm.exec) (hd : decode c.code pc = .ok (.iinc k i, 3)) (hl : L[k]? = some (.val (.int x))) (hl' : storeLocals L k (.int (x + Int32.ofInt i)) = some L') (hq : pc + 3 = q) (w : own_E p e below Fn T (mkF m q L' st)) : own_E p e below Fn T (mkF m pc L st) := by
  subst hq; exact own_to (T' := T) (mkF m (pc + 3) L' st) (fun _ j => XS.iinc X.here hx rfl hd hl hl' j) w
theorem own_ifN (q : Nat)  (X : Stand p l e R s m args below meth c T locs cells slots) (hx : p.tables.exec = Jvm.exec) (hd : decode c.code pc = .ok (.ifCond cd o, 3)) (hc : ifCond.holds cd x = false) (hq : pc + 3 = q) (w : own_E p e below Fn T (mkF m q L st)) : own_E p e below Fn T (mkF m pc L (.int x :: st)) := by
  subst hq; exact own_to (T' := T) (mkF m (pc + 3) L st) (fun _ j => XS.ifNo X.here hx rfl hd rfl hc j) w
theorem own_icN (q : Nat)  (X : Stand p l e R s m args below meth c T locs cells slots) (hx : p.tables.exec = Jvm.exec) (hd : decode c.code pc = .ok (.if_icmp cd o, 3)) (hc : if_icmp.holds cd x y = false) (hq : pc + 3 = q) (w : own_E p e below Fn T (mkF m q L st)) : own_E p e below Fn T (mkF m pc L (.int y :: .int x :: st)) := by
  subst hq; exact own_to (T' := T) (mkF m (pc + 3) L st) (fun _ j => XS.icmpNo X.here hx rfl hd rfl hc j) w
theorem own_go (q : Nat) (X : Stand p l e R s m args below meth c T locs cells slots) (hx : p.tables.exec = Jvm.exec) (hd : decode c.code pc = .ok (.goto o, 3)) (ho : 0 ≤ (pc : Int) + o) (hq : ((pc : Int) + o).toNat = q) (w : own_E p e below Fn T (mkF m q L st)) : own_E p e below Fn T (mkF m pc L st) :=
  own_to (T' := T) (mkF m q L st) (fun _ j => XS.goto X.here hx rfl (pc0 := pc) rfl hd ho hq j) w
theorem own_ifY (q : Nat) (X : Stand p l e R s m args below meth c T locs cells slots) (hx : p.tables.exec = Jvm.exec) (hd : decode c.code pc = .ok (.ifCond cd o, 3)) (hc : ifCond.holds cd x = true) (ho : 0 ≤ (pc : Int) + o) (hq : ((pc : Int) + o).toNat = q) (w : own_E p e below Fn T (mkF m q L st)) : own_E p e below Fn T (mkF m pc L (.int x :: st)) :=
  own_to (T' := T) (mkF m q L st) (fun _ j => XS.ifYes X.here hx rfl (pc0 := pc) rfl hd rfl hc ho hq j) w
theorem own_icY (q : Nat) (X : Stand p l e R s m args below meth c T locs cells slots) (hx : p.tables.exec = Jvm.exec) (hd : decode c.code pc = .ok (.if_icmp cd o, 3)) (hc : if_icmp.holds cd x y = true) (ho : 0 ≤ (pc : Int) + o) (hq : ((pc : Int) + o).toNat = q) (w : own_E p e below Fn T (mkF m q L st)) : own_E p e below Fn T (mkF m pc L (.int y :: .int x :: st)) :=
  own_to (T' := T) (mkF m q L st) (fun _ j => XS.icmpYes X.here hx rfl (pc0 := pc) rfl hd rfl hc ho hq j) w
end OwnStep
theorem own_shr16 {x i : Int32} (h0 : 0 ≤ x.toInt) (h1 : x.toInt < 2147483648) (ht : x < (65536 : Int32) → i = x) (hf : ¬ (x < (65536 : Int32)) → i = ((x.toUInt32 >>> ((16 : Int32) &&& 31).toUInt32).toInt32)) : 0 ≤ i.toInt ∧ i.toInt < 65536 := by
  have e : (65536 : Int32).toInt = 65536 := rfl
  by_cases q : x < (65536 : Int32)
  · rw [ht q]; rw [Int32.lt_iff_toInt_lt, e] at q; omega
  · rw [hf q, c_iushr x (16 : Int32) 16 (by decide) (by decide)]; omega
theorem own_sub16 {C : Prop} {n m : Int32} {k : Int} (h : k ≤ n.toInt ∧ n.toInt ≤ 31) (ht : C → m = n) (hf : ¬ C → m = (n + (-16 : Int32))) (hk : 16 ≤ k := by decide) : k - 16 ≤ m.toInt ∧ m.toInt ≤ 31 := by
  by_cases q : C
  · rw [ht q]; omega
  · rw [hf q]
    have e := c_iadd n (-16 : Int32)
    have r := rng32 (n + (-16 : Int32))
    have z : (-16 : Int32).toInt = -16 := rfl
    omega
theorem own_shr8 {x i : Int32} (h0 : 0 ≤ x.toInt) (h1 : x.toInt < 65536) (ht : x < (256 : Int32) → i = x) (hf : ¬ (x < (256 : Int32)) → i = ((x.toUInt32 >>> ((8 : Int32) &&& 31).toUInt32).toInt32)) : 0 ≤ i.toInt ∧ i.toInt < 256 := by
  have e : (256 : Int32).toInt = 256 := rfl
  by_cases q : x < (256 : Int32)
  · rw [ht q]; rw [Int32.lt_iff_toInt_lt, e] at q; omega
  · rw [hf q, c_iushr x (8 : Int32) 8 (by decide) (by decide)]; omega
theorem own_sub8 {C : Prop} {n m : Int32} {k : Int} (h : k ≤ n.toInt ∧ n.toInt ≤ 31) (ht : C → m = n) (hf : ¬ C → m = (n + (-8 : Int32))) (hk : 8 ≤ k := by decide) : k - 8 ≤ m.toInt ∧ m.toInt ≤ 31 := by
  by_cases q : C
  · rw [ht q]; omega
  · rw [hf q]
    have e := c_iadd n (-8 : Int32)
    have r := rng32 (n + (-8 : Int32))
    have z : (-8 : Int32).toInt = -8 := rfl
    omega
theorem own_shr4 {x i : Int32} (h0 : 0 ≤ x.toInt) (h1 : x.toInt < 256) (ht : x < (16 : Int32) → i = x) (hf : ¬ (x < (16 : Int32)) → i = ((x.toUInt32 >>> ((4 : Int32) &&& 31).toUInt32).toInt32)) : 0 ≤ i.toInt ∧ i.toInt < 16 := by
  have e : (16 : Int32).toInt = 16 := rfl
  by_cases q : x < (16 : Int32)
  · rw [ht q]; rw [Int32.lt_iff_toInt_lt, e] at q; omega
  · rw [hf q, c_iushr x (4 : Int32) 4 (by decide) (by decide)]; omega
theorem own_sub4 {C : Prop} {n m : Int32} {k : Int} (h : k ≤ n.toInt ∧ n.toInt ≤ 31) (ht : C → m = n) (hf : ¬ C → m = (n + (-4 : Int32))) (hk : 4 ≤ k := by decide) : k - 4 ≤ m.toInt ∧ m.toInt ≤ 31 := by
  by_cases q : C
  · rw [ht q]; omega
  · rw [hf q]
    have e := c_iadd n (-4 : Int32)
    have r := rng32 (n + (-4 : Int32))
    have z : (-4 : Int32).toInt = -4 := rfl
    omega
theorem own_shr2 {x i : Int32} (h0 : 0 ≤ x.toInt) (h1 : x.toInt < 16) (ht : x < (4 : Int32) → i = x) (hf : ¬ (x < (4 : Int32)) → i = ((x.toUInt32 >>> ((2 : Int32) &&& 31).toUInt32).toInt32)) : 0 ≤ i.toInt ∧ i.toInt < 4 := by
  have e : (4 : Int32).toInt = 4 := rfl
  by_cases q : x < (4 : Int32)
  · rw [ht q]; rw [Int32.lt_iff_toInt_lt, e] at q; omega
  · rw [hf q, c_iushr x (2 : Int32) 2 (by decide) (by decide)]; omega
theorem own_sub2 {C : Prop} {n m : Int32} {k : Int} (h : k ≤ n.toInt ∧ n.toInt ≤ 31) (ht : C → m = n) (hf : ¬ C → m = (n + (-2 : Int32))) (hk : 2 ≤ k := by decide) : k - 2 ≤ m.toInt ∧ m.toInt ≤ 31 := by
  by_cases q : C
  · rw [ht q]; omega
  · rw [hf q]
    have e := c_iadd n (-2 : Int32)
    have r := rng32 (n + (-2 : Int32))
    have z : (-2 : Int32).toInt = -2 := rfl
    omega
theorem own_fin {i n : Int32} {k : Int} (hi : 0 ≤ i.toInt ∧ i.toInt < 4) (hn : k ≤ n.toInt ∧ n.toInt ≤ 31) (hk : 1 ≤ k := by decide) : 0 ≤ (n - ((i.toUInt32 >>> ((1 : Int32) &&& 31).toUInt32).toInt32)).toInt ∧ (n - ((i.toUInt32 >>> ((1 : Int32) &&& 31).toUInt32).toInt32)).toInt ≤ 32 := by
  have e := c_iushr i (1 : Int32) 1 (by decide) (by decide)
  have d := c_isub n ((i.toUInt32 >>> ((1 : Int32) &&& 31).toUInt32).toInt32)
  have r := rng32 (n - ((i.toUInt32 >>> ((1 : Int32) &&& 31).toUInt32).toInt32))
  omega
theorem own_bits {m r : Int32} (h1 : 0 ≤ m.toInt) (h2 : m.toInt ≤ 32) (hr : r = (if (1 : Int32) < ((32 : Int32) - m) then ((32 : Int32) - m) else (1 : Int32))) : 1 ≤ r.toInt ∧ r.toInt ≤ 32 := by
  have d := c_isub (32 : Int32) m
  have z := rng32 ((32 : Int32) - m)
  have e1 : (32 : Int32).toInt = 32 := rfl
  have e2 : (1 : Int32).toInt = 1 := rfl
  by_cases q : (1 : Int32) < ((32 : Int32) - m)
  · rw [hr, if_pos q]; rw [Int32.lt_iff_toInt_lt] at q; omega
  · rw [hr, if_neg q, e2]; omega
theorem own_ge (s : Int32) (k : Int) (e : s.toInt = k) (hk : 32 ≤ k) {w : Int32} (h : w.toInt ≤ 32) : ¬ (s < w) := fun q => by rw [Int32.lt_iff_toInt_lt, e] at q; omega
theorem own_incr {C : Prop} {p l : Int32} {k : Int} (hk : k < 1000) (h : 0 ≤ p.toInt ∧ p.toInt ≤ k) (ht : C → l = (p + (1 : Int32))) (hf : ¬ C → l = p) : 0 ≤ l.toInt ∧ l.toInt ≤ k + 1 := by
  by_cases q : C
  · rw [ht q]
    have e := c_iadd p 1
    have r := rng32 (p + 1)
    have z : (1 : Int32).toInt = 1 := rfl
    omega
  · rw [hf q]; omega
theorem own_kl {l : Int32} {k : Int} (hk : k ≤ 3) (h : 0 ≤ l.toInt ∧ l.toInt ≤ k) : 1 ≤ (l + (1 : Int32)).toInt ∧ (l + (1 : Int32)).toInt ≤ 4 := by
  have e := c_iadd l 1
  have r := rng32 (l + 1)
  have z : (1 : Int32).toInt = 1 := rfl
  omega
theorem own_f0 (f : Int64) : f = (f + ((0 : Int32).toInt64)) := by
  have e : ((0 : Int32).toInt64) = 0 := by decide
  rw [e, Int64.add_zero]
theorem own_mo (x : Int32) {n : Int32} (h : ((1 : Int32) + (((x.toUInt32 >>> ((1 : Int32) &&& 31).toUInt32).toInt32) &&& (3 : Int32))) = n) : n = 1 ∨ n = 2 ∨ n = 3 ∨ n = 4 := by
  subst h
  have e1 : (((x.toUInt32 >>> ((1 : Int32) &&& 31).toUInt32).toInt32) &&& (3 : Int32)).toInt = _ := c_mask ((x.toUInt32 >>> ((1 : Int32) &&& 31).toUInt32).toInt32) 3 2 (by decide) (by decide)
  have e3 := c_iadd 1 (((x.toUInt32 >>> ((1 : Int32) &&& 31).toUInt32).toInt32) &&& (3 : Int32))
  have e5 := rng32 (1 + (((x.toUInt32 >>> ((1 : Int32) &&& 31).toUInt32).toInt32) &&& (3 : Int32)))
  have e4 : (1 : Int32).toInt = 1 := rfl
  rw [← Int32.toInt_inj, ← Int32.toInt_inj, ← Int32.toInt_inj, ← Int32.toInt_inj]
  show _ = 1 ∨ _ = 2 ∨ _ = 3 ∨ _ = 4
  omega
theorem own_pl (x : Int32) {n : Int32} (h : ((1 : Int32) + ((((x.toUInt32 >>> ((3 : Int32) &&& 31).toUInt32).toInt32) &&& (3 : Int32)) % (3 : Int32))) = n) : 1 ≤ n.toInt ∧ n.toInt ≤ 3 := by
  subst h
  have e1 : (((x.toUInt32 >>> ((3 : Int32) &&& 31).toUInt32).toInt32) &&& (3 : Int32)).toInt = _ := c_mask ((x.toUInt32 >>> ((3 : Int32) &&& 31).toUInt32).toInt32) 3 2 (by decide) (by decide)
  have e2 := (c_irem (((x.toUInt32 >>> ((3 : Int32) &&& 31).toUInt32).toInt32) &&& (3 : Int32)) 3 3 rfl).1 (by rw [e1]; omega)
  have e3 := c_iadd 1 ((((x.toUInt32 >>> ((3 : Int32) &&& 31).toUInt32).toInt32) &&& (3 : Int32)) % (3 : Int32))
  have e5 := rng32 (1 + ((((x.toUInt32 >>> ((3 : Int32) &&& 31).toUInt32).toInt32) &&& (3 : Int32)) % (3 : Int32)))
  have e4 : (1 : Int32).toInt = 1 := rfl
  omega
theorem own_pl0 {n : Int32} (h : 1 ≤ n.toInt ∧ n.toInt ≤ 3) : n ≠ 0 := fun q => by
  subst q
  have e : (0 : Int32).toInt = 0 := rfl
  omega
theorem own_wd (x : Int32) {n : Int32} (h : (x &&& (2147483647 : Int32)) = n) : 0 ≤ n.toInt := by
  subst h
  have e1 : (x &&& (2147483647 : Int32)).toInt = _ := c_mask x 2147483647 31 (by decide) (by decide)
  omega
theorem own_ax (x : Int32) {n : Int32} (h : ((x &&& (2147483647 : Int32)) % (4 : Int32)) = n) : 0 ≤ n.toInt ∧ n.toInt ≤ 3 := by
  subst h
  have e1 : (x &&& (2147483647 : Int32)).toInt = _ := c_mask x 2147483647 31 (by decide) (by decide)
  have e2 := (c_irem (x &&& (2147483647 : Int32)) 4 4 rfl).1 (by rw [e1]; omega)
  omega
theorem own_va (x : Int32) {p n : Int32} (hp : 1 ≤ p.toInt ∧ p.toInt ≤ 3) (h : ((x &&& (2147483647 : Int32)) % p) = n) : 0 ≤ n.toInt ∧ n.toInt < p.toInt := by
  subst h
  have e1 : (x &&& (2147483647 : Int32)).toInt = _ := c_mask x 2147483647 31 (by decide) (by decide)
  have e2 := (c_iremV (x &&& (2147483647 : Int32)) p).1 (by rw [e1]; omega) (by omega)
  exact ⟨e2.1, e2.2.1⟩
theorem own_ge1 {k : Int32} (h : 1 ≤ k.toInt) : ¬ (k < (1 : Int32)) := fun q => by rw [Int32.lt_iff_toInt_lt] at q; have e : (1 : Int32).toInt = 1 := rfl; omega
theorem own_le4 {k : Int32} (h : k.toInt ≤ 4) : ¬ ((4 : Int32) < k) := fun q => by rw [Int32.lt_iff_toInt_lt] at q; have e : (4 : Int32).toInt = 4 := rfl; omega
theorem own_tgI {a k v t : Int32} {p : Int} (h1 : 1 ≤ k.toInt) (h2 : k.toInt ≤ 4) (ha : 0 ≤ a.toInt ∧ a.toInt ≤ 3) (hp : 1 ≤ p ∧ p ≤ 3) (hv : 0 ≤ v.toInt ∧ v.toInt < p) (ht : ((a + k) + v) = t) : t.toInt = a.toInt + k.toInt + v.toInt := by
  subst ht
  have e1 := c_iadd a k
  have r1 := rng32 (a + k)
  have e2 := c_iadd (a + k) v
  have r2 := rng32 (a + k + v)
  omega
theorem own_tgw {a k p v t : Int32} (h1 : 1 ≤ k.toInt) (h2 : k.toInt ≤ 4) (ha : 0 ≤ a.toInt ∧ a.toInt ≤ 3) (hp : 1 ≤ p.toInt ∧ p.toInt ≤ 3) (hv : 0 ≤ v.toInt ∧ v.toInt < p.toInt) (ht : ((a + k) + v) = t) : t < (a + (k + p)) := by
  have e := own_tgI h1 h2 ha hp hv ht
  have e1 := c_iadd k p
  have r1 := rng32 (k + p)
  have e2 := c_iadd a (k + p)
  have r2 := rng32 (a + (k + p))
  rw [Int32.lt_iff_toInt_lt]; omega
theorem own_tg10 {a k p v tg : Int32} (h1 : 1 ≤ k.toInt) (h2 : k.toInt ≤ 4) (ha : 0 ≤ a.toInt ∧ a.toInt ≤ 3) (hp : 1 ≤ p.toInt ∧ p.toInt ≤ 3) (hv : 0 ≤ v.toInt ∧ v.toInt < p.toInt) (ht : ((a + k) + v) = tg) : tg = 0 ∨ tg = 1 ∨ tg = 2 ∨ tg = 3 ∨ tg = 4 ∨ tg = 5 ∨ tg = 6 ∨ tg = 7 ∨ tg = 8 ∨ tg = 9 := by
  have e := own_tgI h1 h2 ha hp hv ht
  simp only [← Int32.toInt_inj]
  show _ = 0 ∨ _ = 1 ∨ _ = 2 ∨ _ = 3 ∨ _ = 4 ∨ _ = 5 ∨ _ = 6 ∨ _ = 7 ∨ _ = 8 ∨ _ = 9
  omega
theorem own_d0 : decode jdk_33_method_47_code 0 = .ok (.iload_n 0, 1) := by decide +kernel
theorem own_d1 : decode jdk_33_method_47_code 1 = .ok (.ifCond .gt 14, 3) := by decide +kernel
theorem own_d2 : decode jdk_33_method_47_code 4 = .ok (.iload_n 0, 1) := by decide +kernel
theorem own_d3 : decode jdk_33_method_47_code 5 = .ok (.ifCond .ne 8, 3) := by decide +kernel
theorem own_d4 : decode jdk_33_method_47_code 8 = .ok (.bipush 32, 2) := by decide +kernel
theorem own_d5 : decode jdk_33_method_47_code 10 = .ok (.goto 4, 3) := by decide +kernel
theorem own_d6 : decode jdk_33_method_47_code 14 = .ok (.ireturn, 1) := by decide +kernel
theorem own_d7 : decode jdk_33_method_47_code 13 = .ok (.iconst 0, 1) := by decide +kernel
theorem own_d8 : decode jdk_33_method_47_code 15 = .ok (.bipush 31, 2) := by decide +kernel
theorem own_d9 : decode jdk_33_method_47_code 17 = .ok (.istore_n 1, 1) := by decide +kernel
theorem own_d10 : decode jdk_33_method_47_code 18 = .ok (.iload_n 0, 1) := by decide +kernel
theorem own_d11 : decode jdk_33_method_47_code 19 = .ok (.ldc_w 264, 3) := by decide +kernel
theorem own_d12 : decode jdk_33_method_47_code 22 = .ok (.if_icmp .lt 11, 3) := by decide +kernel
theorem own_d13 : decode jdk_33_method_47_code 25 = .ok (.iinc 1 (-16), 3) := by decide +kernel
theorem own_d14 : decode jdk_33_method_47_code 28 = .ok (.iload_n 0, 1) := by decide +kernel
theorem own_d15 : decode jdk_33_method_47_code 29 = .ok (.bipush 16, 2) := by decide +kernel
theorem own_d16 : decode jdk_33_method_47_code 31 = .ok (.iushr, 1) := by decide +kernel
theorem own_d17 : decode jdk_33_method_47_code 32 = .ok (.istore_n 0, 1) := by decide +kernel
theorem own_d18 : decode jdk_33_method_47_code 33 = .ok (.iload_n 0, 1) := by decide +kernel
theorem own_d19 : decode jdk_33_method_47_code 34 = .ok (.sipush 256, 3) := by decide +kernel
theorem own_d20 : decode jdk_33_method_47_code 37 = .ok (.if_icmp .lt 11, 3) := by decide +kernel
theorem own_d21 : decode jdk_33_method_47_code 40 = .ok (.iinc 1 (-8), 3) := by decide +kernel
theorem own_d22 : decode jdk_33_method_47_code 43 = .ok (.iload_n 0, 1) := by decide +kernel
theorem own_d23 : decode jdk_33_method_47_code 44 = .ok (.bipush 8, 2) := by decide +kernel
theorem own_d24 : decode jdk_33_method_47_code 46 = .ok (.iushr, 1) := by decide +kernel
theorem own_d25 : decode jdk_33_method_47_code 47 = .ok (.istore_n 0, 1) := by decide +kernel
theorem own_d26 : decode jdk_33_method_47_code 48 = .ok (.iload_n 0, 1) := by decide +kernel
theorem own_d27 : decode jdk_33_method_47_code 49 = .ok (.bipush 16, 2) := by decide +kernel
theorem own_d28 : decode jdk_33_method_47_code 51 = .ok (.if_icmp .lt 10, 3) := by decide +kernel
theorem own_d29 : decode jdk_33_method_47_code 54 = .ok (.iinc 1 (-4), 3) := by decide +kernel
theorem own_d30 : decode jdk_33_method_47_code 57 = .ok (.iload_n 0, 1) := by decide +kernel
theorem own_d31 : decode jdk_33_method_47_code 58 = .ok (.iconst 4, 1) := by decide +kernel
theorem own_d32 : decode jdk_33_method_47_code 59 = .ok (.iushr, 1) := by decide +kernel
theorem own_d33 : decode jdk_33_method_47_code 60 = .ok (.istore_n 0, 1) := by decide +kernel
theorem own_d34 : decode jdk_33_method_47_code 61 = .ok (.iload_n 0, 1) := by decide +kernel
theorem own_d35 : decode jdk_33_method_47_code 62 = .ok (.iconst 4, 1) := by decide +kernel
theorem own_d36 : decode jdk_33_method_47_code 63 = .ok (.if_icmp .lt 10, 3) := by decide +kernel
theorem own_d37 : decode jdk_33_method_47_code 66 = .ok (.iinc 1 (-2), 3) := by decide +kernel
theorem own_d38 : decode jdk_33_method_47_code 69 = .ok (.iload_n 0, 1) := by decide +kernel
theorem own_d39 : decode jdk_33_method_47_code 70 = .ok (.iconst 2, 1) := by decide +kernel
theorem own_d40 : decode jdk_33_method_47_code 71 = .ok (.iushr, 1) := by decide +kernel
theorem own_d41 : decode jdk_33_method_47_code 72 = .ok (.istore_n 0, 1) := by decide +kernel
theorem own_d42 : decode jdk_33_method_47_code 73 = .ok (.iload_n 1, 1) := by decide +kernel
theorem own_d43 : decode jdk_33_method_47_code 74 = .ok (.iload_n 0, 1) := by decide +kernel
theorem own_d44 : decode jdk_33_method_47_code 75 = .ok (.iconst 1, 1) := by decide +kernel
theorem own_d45 : decode jdk_33_method_47_code 76 = .ok (.iushr, 1) := by decide +kernel
theorem own_d46 : decode jdk_33_method_47_code 77 = .ok (.isub, 1) := by decide +kernel
theorem own_d47 : decode jdk_33_method_47_code 78 = .ok (.ireturn, 1) := by decide +kernel
theorem own_d48 : decode jdk_29_method_65_code 0 = .ok (.iload_n 0, 1) := by decide +kernel
theorem own_d49 : decode jdk_29_method_65_code 1 = .ok (.iload_n 1, 1) := by decide +kernel
theorem own_d50 : decode jdk_29_method_65_code 2 = .ok (.if_icmp .lt 7, 3) := by decide +kernel
theorem own_d51 : decode jdk_29_method_65_code 9 = .ok (.iload_n 1, 1) := by decide +kernel
theorem own_d52 : decode jdk_29_method_65_code 10 = .ok (.ireturn, 1) := by decide +kernel
theorem own_d53 : decode jdk_29_method_65_code 5 = .ok (.iload_n 0, 1) := by decide +kernel
theorem own_d54 : decode jdk_29_method_65_code 6 = .ok (.goto 4, 3) := by decide +kernel
theorem own_d55 : decode prog_19_method_12_code 0 = .ok (.iconst 1, 1) := by decide +kernel
theorem own_d56 : decode prog_19_method_12_code 1 = .ok (.bipush 32, 2) := by decide +kernel
theorem own_d57 : decode prog_19_method_12_code 3 = .ok (.iload_n 0, 1) := by decide +kernel
theorem own_d58 : decode prog_19_method_12_code 4 = .ok (.invokestatic 72, 3) := by decide +kernel
theorem own_d59 : decode prog_19_method_12_code 7 = .ok (.isub, 1) := by decide +kernel
theorem own_d60 : decode prog_19_method_12_code 8 = .ok (.invokestatic 75, 3) := by decide +kernel
theorem own_d61 : decode prog_19_method_12_code 11 = .ok (.ireturn, 1) := by decide +kernel
theorem own_d62 : decode prog_19_method_1_code 0 = .ok (.aload_n 0, 1) := by decide +kernel
theorem own_d63 : decode prog_19_method_1_code 1 = .ok (.invokespecial 3, 3) := by decide +kernel
theorem own_d64 : decode prog_19_method_1_code 4 = .ok (.aload_n 0, 1) := by decide +kernel
theorem own_d65 : decode prog_19_method_1_code 5 = .ok (.aload_n 1, 1) := by decide +kernel
theorem own_d66 : decode prog_19_method_1_code 6 = .ok (.putfield 9, 3) := by decide +kernel
theorem own_d67 : decode prog_19_method_1_code 9 = .ok (.iload_n 3, 1) := by decide +kernel
theorem own_d68 : decode prog_19_method_1_code 10 = .ok (.invokestatic 15, 3) := by decide +kernel
theorem own_d69 : decode prog_19_method_1_code 13 = .ok (.istore 5, 2) := by decide +kernel
theorem own_d70 : decode prog_19_method_1_code 15 = .ok (.aload_n 0, 1) := by decide +kernel
theorem own_d71 : decode prog_19_method_1_code 16 = .ok (.lconst 1, 1) := by decide +kernel
theorem own_d72 : decode prog_19_method_1_code 17 = .ok (.iload 5, 2) := by decide +kernel
theorem own_d73 : decode prog_19_method_1_code 19 = .ok (.lshl, 1) := by decide +kernel
theorem own_d74 : decode prog_19_method_1_code 20 = .ok (.lconst 1, 1) := by decide +kernel
theorem own_d75 : decode prog_19_method_1_code 21 = .ok (.lsub, 1) := by decide +kernel
theorem own_d76 : decode prog_19_method_1_code 22 = .ok (.putfield 19, 3) := by decide +kernel
theorem own_d77 : decode prog_19_method_1_code 25 = .ok (.aload_n 0, 1) := by decide +kernel
theorem own_d78 : decode prog_19_method_1_code 26 = .ok (.iload_n 2, 1) := by decide +kernel
theorem own_d79 : decode prog_19_method_1_code 27 = .ok (.newarray .int, 2) := by decide +kernel
theorem own_d80 : decode prog_19_method_1_code 29 = .ok (.putfield 23, 3) := by decide +kernel
theorem own_d81 : decode prog_19_method_1_code 32 = .ok (.aload_n 0, 1) := by decide +kernel
theorem own_d82 : decode prog_19_method_1_code 33 = .ok (.iload_n 2, 1) := by decide +kernel
theorem own_d83 : decode prog_19_method_1_code 34 = .ok (.newarray .int, 2) := by decide +kernel
theorem own_d84 : decode prog_19_method_1_code 36 = .ok (.putfield 27, 3) := by decide +kernel
theorem own_d85 : decode prog_19_method_1_code 39 = .ok (.iconst 0, 1) := by decide +kernel
theorem own_d86 : decode prog_19_method_1_code 40 = .ok (.istore 6, 2) := by decide +kernel
theorem own_d87 : decode prog_19_method_1_code 42 = .ok (.bipush 63, 2) := by decide +kernel
theorem own_d88 : decode prog_19_method_1_code 44 = .ok (.istore 7, 2) := by decide +kernel
theorem own_d89 : decode prog_19_method_1_code 46 = .ok (.aload_n 1, 1) := by decide +kernel
theorem own_d90 : decode prog_19_method_1_code 47 = .ok (.getstatic 30, 3) := by decide +kernel
theorem own_d91 : decode prog_19_method_1_code 50 = .ok (.if_acmp .ne 29, 3) := by decide +kernel
theorem own_d92 : decode prog_19_method_1_code 53 = .ok (.iload_n 2, 1) := by decide +kernel
theorem own_d93 : decode prog_19_method_1_code 54 = .ok (.invokestatic 15, 3) := by decide +kernel
theorem own_d94 : decode prog_19_method_1_code 57 = .ok (.istore 8, 2) := by decide +kernel
theorem own_d95 : decode prog_19_method_1_code 59 = .ok (.aload_n 0, 1) := by decide +kernel
theorem own_d96 : decode prog_19_method_1_code 60 = .ok (.lconst 1, 1) := by decide +kernel
theorem own_d97 : decode prog_19_method_1_code 61 = .ok (.iload 8, 2) := by decide +kernel
theorem own_d98 : decode prog_19_method_1_code 63 = .ok (.lshl, 1) := by decide +kernel
theorem own_d99 : decode prog_19_method_1_code 64 = .ok (.lconst 1, 1) := by decide +kernel
theorem own_d100 : decode prog_19_method_1_code 65 = .ok (.lsub, 1) := by decide +kernel
theorem own_d101 : decode prog_19_method_1_code 66 = .ok (.putfield 35, 3) := by decide +kernel
theorem own_d102 : decode prog_19_method_1_code 69 = .ok (.iload 7, 2) := by decide +kernel
theorem own_d103 : decode prog_19_method_1_code 71 = .ok (.iload 8, 2) := by decide +kernel
theorem own_d104 : decode prog_19_method_1_code 73 = .ok (.isub, 1) := by decide +kernel
theorem own_d105 : decode prog_19_method_1_code 74 = .ok (.istore 7, 2) := by decide +kernel
theorem own_d106 : decode prog_19_method_1_code 76 = .ok (.goto 8, 3) := by decide +kernel
theorem own_d107 : decode prog_19_method_1_code 84 = .ok (.aload_n 0, 1) := by decide +kernel
theorem own_d108 : decode prog_19_method_1_code 85 = .ok (.iload 7, 2) := by decide +kernel
theorem own_d109 : decode prog_19_method_1_code 87 = .ok (.putfield 38, 3) := by decide +kernel
theorem own_d110 : decode prog_19_method_1_code 90 = .ok (.iconst 0, 1) := by decide +kernel
theorem own_d111 : decode prog_19_method_1_code 91 = .ok (.istore 8, 2) := by decide +kernel
theorem own_d112 : decode prog_19_method_1_code 93 = .ok (.iload 8, 2) := by decide +kernel
theorem own_d113 : decode prog_19_method_1_code 95 = .ok (.iload_n 2, 1) := by decide +kernel
theorem own_d114 : decode prog_19_method_1_code 96 = .ok (.if_icmp .ge 48, 3) := by decide +kernel
theorem own_d115 : decode prog_19_method_1_code 99 = .ok (.iload 7, 2) := by decide +kernel
theorem own_d116 : decode prog_19_method_1_code 101 = .ok (.iload 5, 2) := by decide +kernel
theorem own_d117 : decode prog_19_method_1_code 103 = .ok (.if_icmp .ge 10, 3) := by decide +kernel
theorem own_d118 : decode prog_19_method_1_code 113 = .ok (.iload 7, 2) := by decide +kernel
theorem own_d119 : decode prog_19_method_1_code 115 = .ok (.iload 5, 2) := by decide +kernel
theorem own_d120 : decode prog_19_method_1_code 117 = .ok (.isub, 1) := by decide +kernel
theorem own_d121 : decode prog_19_method_1_code 118 = .ok (.istore 7, 2) := by decide +kernel
theorem own_d122 : decode prog_19_method_1_code 120 = .ok (.aload_n 0, 1) := by decide +kernel
theorem own_d123 : decode prog_19_method_1_code 121 = .ok (.getfield 23, 3) := by decide +kernel
theorem own_d124 : decode prog_19_method_1_code 124 = .ok (.iload 8, 2) := by decide +kernel
theorem own_d125 : decode prog_19_method_1_code 126 = .ok (.iload 6, 2) := by decide +kernel
theorem own_d126 : decode prog_19_method_1_code 128 = .ok (.iastore, 1) := by decide +kernel
theorem own_d127 : decode prog_19_method_1_code 129 = .ok (.aload_n 0, 1) := by decide +kernel
theorem own_d128 : decode prog_19_method_1_code 130 = .ok (.getfield 27, 3) := by decide +kernel
theorem own_d129 : decode prog_19_method_1_code 133 = .ok (.iload 8, 2) := by decide +kernel
theorem own_d130 : decode prog_19_method_1_code 135 = .ok (.iload 7, 2) := by decide +kernel
theorem own_d131 : decode prog_19_method_1_code 137 = .ok (.iastore, 1) := by decide +kernel
theorem own_d132 : decode prog_19_method_1_code 138 = .ok (.iinc 8 1, 3) := by decide +kernel
theorem own_d133 : decode prog_19_method_1_code 141 = .ok (.goto (-48), 3) := by decide +kernel
theorem own_d134 : decode prog_19_method_1_code 144 = .ok (.aload_n 0, 1) := by decide +kernel
theorem own_d135 : decode prog_19_method_1_code 145 = .ok (.iload 6, 2) := by decide +kernel
theorem own_d136 : decode prog_19_method_1_code 147 = .ok (.iconst 1, 1) := by decide +kernel
theorem own_d137 : decode prog_19_method_1_code 148 = .ok (.iadd, 1) := by decide +kernel
theorem own_d138 : decode prog_19_method_1_code 149 = .ok (.putfield 42, 3) := by decide +kernel
theorem own_d139 : decode prog_19_method_1_code 152 = .ok (.aload_n 0, 1) := by decide +kernel
theorem own_d140 : decode prog_19_method_1_code 153 = .ok (.aload_n 0, 1) := by decide +kernel
theorem own_d141 : decode prog_19_method_1_code 154 = .ok (.getfield 42, 3) := by decide +kernel
theorem own_d142 : decode prog_19_method_1_code 157 = .ok (.iload 4, 2) := by decide +kernel
theorem own_d143 : decode prog_19_method_1_code 159 = .ok (.iadd, 1) := by decide +kernel
theorem own_d144 : decode prog_19_method_1_code 160 = .ok (.putfield 45, 3) := by decide +kernel
theorem own_d145 : decode prog_19_method_1_code 163 = .ok (.return_, 1) := by decide +kernel
theorem own_d146 : decode prog_19_method_1_code 106 = .ok (.iinc 6 1, 3) := by decide +kernel
theorem own_d147 : decode prog_19_method_1_code 109 = .ok (.bipush 63, 2) := by decide +kernel
theorem own_d148 : decode prog_19_method_1_code 111 = .ok (.istore 7, 2) := by decide +kernel
theorem own_d149 : decode prog_19_method_1_code 79 = .ok (.aload_n 0, 1) := by decide +kernel
theorem own_d150 : decode prog_19_method_1_code 80 = .ok (.lconst 0, 1) := by decide +kernel
theorem own_d151 : decode prog_19_method_1_code 81 = .ok (.putfield 35, 3) := by decide +kernel
theorem own_d152 : decode prog_19_method_3_code 0 = .ok (.aload_n 0, 1) := by decide +kernel
theorem own_d153 : decode prog_19_method_3_code 1 = .ok (.getfield 42, 3) := by decide +kernel
theorem own_d154 : decode prog_19_method_3_code 4 = .ok (.ireturn, 1) := by decide +kernel
theorem own_d155 : decode prog_19_method_4_code 0 = .ok (.aload_n 0, 1) := by decide +kernel
theorem own_d156 : decode prog_19_method_4_code 1 = .ok (.getfield 45, 3) := by decide +kernel
theorem own_d157 : decode prog_19_method_4_code 4 = .ok (.ireturn, 1) := by decide +kernel
theorem own_d158 : decode prog_19_method_9_code 0 = .ok (.aload_n 1, 1) := by decide +kernel
theorem own_d159 : decode prog_19_method_9_code 1 = .ok (.iload_n 2, 1) := by decide +kernel
theorem own_d160 : decode prog_19_method_9_code 2 = .ok (.aload_n 0, 1) := by decide +kernel
theorem own_d161 : decode prog_19_method_9_code 3 = .ok (.getfield 42, 3) := by decide +kernel
theorem own_d162 : decode prog_19_method_9_code 6 = .ok (.iadd, 1) := by decide +kernel
theorem own_d163 : decode prog_19_method_9_code 7 = .ok (.iload_n 3, 1) := by decide +kernel
theorem own_d164 : decode prog_19_method_9_code 8 = .ok (.iadd, 1) := by decide +kernel
theorem own_d165 : decode prog_19_method_9_code 9 = .ok (.lload 4, 2) := by decide +kernel
theorem own_d166 : decode prog_19_method_9_code 11 = .ok (.lastore, 1) := by decide +kernel
theorem own_d167 : decode prog_19_method_9_code 12 = .ok (.return_, 1) := by decide +kernel
theorem own_d168 : decode prog_19_method_8_code 0 = .ok (.aload_n 1, 1) := by decide +kernel
theorem own_d169 : decode prog_19_method_8_code 1 = .ok (.iload_n 2, 1) := by decide +kernel
theorem own_d170 : decode prog_19_method_8_code 2 = .ok (.aload_n 0, 1) := by decide +kernel
theorem own_d171 : decode prog_19_method_8_code 3 = .ok (.getfield 42, 3) := by decide +kernel
theorem own_d172 : decode prog_19_method_8_code 6 = .ok (.iadd, 1) := by decide +kernel
theorem own_d173 : decode prog_19_method_8_code 7 = .ok (.iload_n 3, 1) := by decide +kernel
theorem own_d174 : decode prog_19_method_8_code 8 = .ok (.iadd, 1) := by decide +kernel
theorem own_d175 : decode prog_19_method_8_code 9 = .ok (.laload, 1) := by decide +kernel
theorem own_d176 : decode prog_19_method_8_code 10 = .ok (.lreturn, 1) := by decide +kernel
theorem own_d177 : decode method_2_code 0 = .ok (.aload_n 0, 1) := by decide +kernel
theorem own_d178 : decode method_2_code 1 = .ok (.iload_n 1, 1) := by decide +kernel
theorem own_d179 : decode method_2_code 2 = .ok (.laload, 1) := by decide +kernel
theorem own_d180 : decode method_2_code 3 = .ok (.iload_n 1, 1) := by decide +kernel
theorem own_d181 : decode method_2_code 4 = .ok (.iload_n 2, 1) := by decide +kernel
theorem own_d182 : decode method_2_code 5 = .ok (.if_icmp .ne 7, 3) := by decide +kernel
theorem own_d183 : decode method_2_code 8 = .ok (.lload_n 3, 1) := by decide +kernel
theorem own_d184 : decode method_2_code 9 = .ok (.goto 8, 3) := by decide +kernel
theorem own_d185 : decode method_2_code 17 = .ok (.lcmp, 1) := by decide +kernel
theorem own_d186 : decode method_2_code 18 = .ok (.ifCond .ne 7, 3) := by decide +kernel
theorem own_d187 : decode method_2_code 12 = .ok (.lload 5, 2) := by decide +kernel
theorem own_d188 : decode method_2_code 14 = .ok (.iload_n 1, 1) := by decide +kernel
theorem own_d189 : decode method_2_code 15 = .ok (.i2l, 1) := by decide +kernel
theorem own_d190 : decode method_2_code 16 = .ok (.ladd, 1) := by decide +kernel
theorem own_d191 : decode method_2_code 21 = .ok (.iconst 1, 1) := by decide +kernel
theorem own_d192 : decode method_2_code 22 = .ok (.goto 4, 3) := by decide +kernel
theorem own_d193 : decode method_2_code 26 = .ok (.ireturn, 1) := by decide +kernel
theorem own_pd0 : parseMethodDescriptor "(I)I" = some ⟨[.int], some .int⟩ := by decide +kernel
theorem own_pd1 : parseMethodDescriptor "(II)I" = some ⟨[.int, .int], some .int⟩ := by decide +kernel
theorem own_pd2 : parseMethodDescriptor "(Lcom/example/gramstead/gramstead/estimation/RecordOrder;III)V" = some ⟨[(.object "com/example/gramstead/gramstead/estimation/RecordOrder"), .int, .int, .int], none⟩ := by decide +kernel
theorem own_pd3 : parseMethodDescriptor "()I" = some ⟨[], some .int⟩ := by decide +kernel
theorem own_pd4 : parseMethodDescriptor "([JIIJ)V" = some ⟨[(.array .long), .int, .int, .long], none⟩ := by decide +kernel
theorem own_pd5 : parseMethodDescriptor "([JII)J" = some ⟨[(.array .long), .int, .int], some .long⟩ := by decide +kernel
theorem own_pd6 : parseMethodDescriptor "([JIIJJ)Z" = some ⟨[(.array .long), .int, .int, .long, .long], some .boolean⟩ := by decide +kernel
theorem own_pn0 : plainName "java/lang/Integer" = true := by first | (simp [plainName, overriddenIn]; done) | decide +kernel
theorem own_pn1 : plainName "com/example/gramstead/gramstead/estimation/RecordLayout" = true := by first | (simp [plainName, overriddenIn]; done) | decide +kernel
theorem own_pn2 : plainName "com/example/gramstead/gramstead/estimation/RecordLayoutPutLongPinLaw" = true := by first | (simp [plainName, overriddenIn]; done) | decide +kernel
theorem own_ef_N (m : MethodId) (x0 : Int32) : entryFrame m #[(.int x0)] 2 = mkF m 0 #[.val (.int x0), .unset] [] := by first | (simp [entryFrame, mkF, argsToLocals, Value.category]; done) | rfl
theorem own_ef_N1 (m : MethodId) (x0 : Int32) : entryFrame m #[(.int x0)] 2 = mkF m 0 #[.val (.int x0), .unset] [] := by first | (simp [entryFrame, mkF, argsToLocals, Value.category]; done) | rfl
theorem own_ef_N2 (m : MethodId) (x0 : Int32) : entryFrame m #[(.int x0)] 2 = mkF m 0 #[.val (.int x0), .unset] [] := by first | (simp [entryFrame, mkF, argsToLocals, Value.category]; done) | rfl
theorem own_ef_N3 (m : MethodId) (x0 : Int32) : entryFrame m #[(.int x0)] 2 = mkF m 0 #[.val (.int x0), .unset] [] := by first | (simp [entryFrame, mkF, argsToLocals, Value.category]; done) | rfl
theorem own_ef_N4 (m : MethodId) (x0 : Int32) : entryFrame m #[(.int x0)] 2 = mkF m 0 #[.val (.int x0), .unset] [] := by first | (simp [entryFrame, mkF, argsToLocals, Value.category]; done) | rfl
theorem own_ef_M (m : MethodId) (x0 : Int32) (x1 : Int32) : entryFrame m #[(.int x0), (.int x1)] 2 = mkF m 0 #[.val (.int x0), .val (.int x1)] [] := by first | (simp [entryFrame, mkF, argsToLocals, Value.category]; done) | rfl
theorem own_ef_B (m : MethodId) (x0 : Int32) : entryFrame m #[(.int x0)] 1 = mkF m 0 #[.val (.int x0)] [] := by first | (simp [entryFrame, mkF, argsToLocals, Value.category]; done) | rfl
theorem own_ef_B1 (m : MethodId) (x0 : Int32) : entryFrame m #[(.int x0)] 1 = mkF m 0 #[.val (.int x0)] [] := by first | (simp [entryFrame, mkF, argsToLocals, Value.category]; done) | rfl
theorem own_ef_B2 (m : MethodId) (x0 : Int32) : entryFrame m #[(.int x0)] 1 = mkF m 0 #[.val (.int x0)] [] := by first | (simp [entryFrame, mkF, argsToLocals, Value.category]; done) | rfl
theorem own_ef_B3 (m : MethodId) (x0 : Int32) : entryFrame m #[(.int x0)] 1 = mkF m 0 #[.val (.int x0)] [] := by first | (simp [entryFrame, mkF, argsToLocals, Value.category]; done) | rfl
theorem own_ef_B4 (m : MethodId) (x0 : Int32) : entryFrame m #[(.int x0)] 1 = mkF m 0 #[.val (.int x0)] [] := by first | (simp [entryFrame, mkF, argsToLocals, Value.category]; done) | rfl
theorem own_ef_CC (m : MethodId) (x0 : Addr) (x1 : Addr) (x2 : Int32) (x3 : Int32) (x4 : Int32) : entryFrame m #[(.ref x0), (.ref x1), (.int x2), (.int x3), (.int x4)] 9 = mkF m 0 #[.val (.ref x0), .val (.ref x1), .val (.int x2), .val (.int x3), .val (.int x4), .unset, .unset, .unset, .unset] [] := by first | (simp [entryFrame, mkF, argsToLocals, Value.category]; done) | rfl
theorem own_ef_CS (m : MethodId) (x0 : Addr) (x1 : Addr) (x2 : Int32) (x3 : Int32) (x4 : Int32) : entryFrame m #[(.ref x0), (.ref x1), (.int x2), (.int x3), (.int x4)] 9 = mkF m 0 #[.val (.ref x0), .val (.ref x1), .val (.int x2), .val (.int x3), .val (.int x4), .unset, .unset, .unset, .unset] [] := by first | (simp [entryFrame, mkF, argsToLocals, Value.category]; done) | rfl
theorem own_ef_K (m : MethodId) (x0 : Addr) : entryFrame m #[(.ref x0)] 1 = mkF m 0 #[.val (.ref x0)] [] := by first | (simp [entryFrame, mkF, argsToLocals, Value.category]; done) | rfl
theorem own_ef_W (m : MethodId) (x0 : Addr) : entryFrame m #[(.ref x0)] 1 = mkF m 0 #[.val (.ref x0)] [] := by first | (simp [entryFrame, mkF, argsToLocals, Value.category]; done) | rfl
theorem own_ef_P (m : MethodId) (x0 : Addr) (x1 : Addr) (x2 : Int32) (x3 : Int32) (x4 : Int64) : entryFrame m #[(.ref x0), (.ref x1), (.int x2), (.int x3), (.long x4)] 6 = mkF m 0 #[.val (.ref x0), .val (.ref x1), .val (.int x2), .val (.int x3), .val (.long x4), .second] [] := by first | (simp [entryFrame, mkF, argsToLocals, Value.category]; done) | rfl
theorem own_ef_G (m : MethodId) (x0 : Addr) (x1 : Addr) (x2 : Int32) (x3 : Int32) : entryFrame m #[(.ref x0), (.ref x1), (.int x2), (.int x3)] 4 = mkF m 0 #[.val (.ref x0), .val (.ref x1), .val (.int x2), .val (.int x3)] [] := by first | (simp [entryFrame, mkF, argsToLocals, Value.category]; done) | rfl
theorem own_ef_E0 (m : MethodId) (x0 : Addr) (x1 : Int32) (x2 : Int32) (x3 : Int64) (x4 : Int64) : entryFrame m #[(.ref x0), (.int x1), (.int x2), (.long x3), (.long x4)] 7 = mkF m 0 #[.val (.ref x0), .val (.int x1), .val (.int x2), .val (.long x3), .second, .val (.long x4), .second] [] := by first | (simp [entryFrame, mkF, argsToLocals, Value.category]; done) | rfl
theorem own_ef_E1 (m : MethodId) (x0 : Addr) (x1 : Int32) (x2 : Int32) (x3 : Int64) (x4 : Int64) : entryFrame m #[(.ref x0), (.int x1), (.int x2), (.long x3), (.long x4)] 7 = mkF m 0 #[.val (.ref x0), .val (.int x1), .val (.int x2), .val (.long x3), .second, .val (.long x4), .second] [] := by first | (simp [entryFrame, mkF, argsToLocals, Value.category]; done) | rfl
theorem own_ef_E2 (m : MethodId) (x0 : Addr) (x1 : Int32) (x2 : Int32) (x3 : Int64) (x4 : Int64) : entryFrame m #[(.ref x0), (.int x1), (.int x2), (.long x3), (.long x4)] 7 = mkF m 0 #[.val (.ref x0), .val (.int x1), .val (.int x2), .val (.long x3), .second, .val (.long x4), .second] [] := by first | (simp [entryFrame, mkF, argsToLocals, Value.category]; done) | rfl
theorem own_ef_E3 (m : MethodId) (x0 : Addr) (x1 : Int32) (x2 : Int32) (x3 : Int64) (x4 : Int64) : entryFrame m #[(.ref x0), (.int x1), (.int x2), (.long x3), (.long x4)] 7 = mkF m 0 #[.val (.ref x0), .val (.int x1), .val (.int x2), .val (.long x3), .second, .val (.long x4), .second] [] := by first | (simp [entryFrame, mkF, argsToLocals, Value.category]; done) | rfl
theorem own_ef_E4 (m : MethodId) (x0 : Addr) (x1 : Int32) (x2 : Int32) (x3 : Int64) (x4 : Int64) : entryFrame m #[(.ref x0), (.int x1), (.int x2), (.long x3), (.long x4)] 7 = mkF m 0 #[.val (.ref x0), .val (.int x1), .val (.int x2), .val (.long x3), .second, .val (.long x4), .second] [] := by first | (simp [entryFrame, mkF, argsToLocals, Value.category]; done) | rfl
theorem own_ef_E5 (m : MethodId) (x0 : Addr) (x1 : Int32) (x2 : Int32) (x3 : Int64) (x4 : Int64) : entryFrame m #[(.ref x0), (.int x1), (.int x2), (.long x3), (.long x4)] 7 = mkF m 0 #[.val (.ref x0), .val (.int x1), .val (.int x2), .val (.long x3), .second, .val (.long x4), .second] [] := by first | (simp [entryFrame, mkF, argsToLocals, Value.category]; done) | rfl
theorem own_ef_E6 (m : MethodId) (x0 : Addr) (x1 : Int32) (x2 : Int32) (x3 : Int64) (x4 : Int64) : entryFrame m #[(.ref x0), (.int x1), (.int x2), (.long x3), (.long x4)] 7 = mkF m 0 #[.val (.ref x0), .val (.int x1), .val (.int x2), .val (.long x3), .second, .val (.long x4), .second] [] := by first | (simp [entryFrame, mkF, argsToLocals, Value.category]; done) | rfl
theorem own_ef_E7 (m : MethodId) (x0 : Addr) (x1 : Int32) (x2 : Int32) (x3 : Int64) (x4 : Int64) : entryFrame m #[(.ref x0), (.int x1), (.int x2), (.long x3), (.long x4)] 7 = mkF m 0 #[.val (.ref x0), .val (.int x1), .val (.int x2), .val (.long x3), .second, .val (.long x4), .second] [] := by first | (simp [entryFrame, mkF, argsToLocals, Value.category]; done) | rfl
theorem own_ef_E8 (m : MethodId) (x0 : Addr) (x1 : Int32) (x2 : Int32) (x3 : Int64) (x4 : Int64) : entryFrame m #[(.ref x0), (.int x1), (.int x2), (.long x3), (.long x4)] 7 = mkF m 0 #[.val (.ref x0), .val (.int x1), .val (.int x2), .val (.long x3), .second, .val (.long x4), .second] [] := by first | (simp [entryFrame, mkF, argsToLocals, Value.category]; done) | rfl
theorem own_ef_E9 (m : MethodId) (x0 : Addr) (x1 : Int32) (x2 : Int32) (x3 : Int64) (x4 : Int64) : entryFrame m #[(.ref x0), (.int x1), (.int x2), (.long x3), (.long x4)] 7 = mkF m 0 #[.val (.ref x0), .val (.int x1), .val (.int x2), .val (.long x3), .second, .val (.long x4), .second] [] := by first | (simp [entryFrame, mkF, argsToLocals, Value.category]; done) | rfl
theorem own_ef_0 (m : MethodId) (x0 : Int32) (x1 : Int32) (x2 : Int32) (x3 : Int32) (x4 : Int64) (x5 : Int64) : entryFrame m #[(.int x0), (.int x1), (.int x2), (.int x3), (.long x4), (.long x5)] maxLocals = mkF m 0 #[.val (.int x0), .val (.int x1), .val (.int x2), .val (.int x3), .val (.long x4), .second, .val (.long x5), .second, .unset, .unset, .unset, .unset, .unset, .unset, .unset, .unset, .unset, .unset, .unset] [] := by first | (simp [entryFrame, mkF, argsToLocals, Value.category, maxLocals]; done) | rfl
def own_QN (Z : State) (x0 : Int32) (h0 : Heap) (n0 : Nat) (v : Option Value) (h : Heap) (L : List Loc) : Prop := ∃ r : Int32, v = some (.int r) ∧ 0 ≤ r.toInt ∧ r.toInt ≤ 32 ∧ Fr n0 L ∧ h = h0
set_option maxRecDepth 65536 in
set_option maxHeartbeats 40000000 in
theorem own_rmN (l : Launch) (Z : State) (a0 : Array Value) (hw : ∀ d ∈ tables_1, d.before a0 Z = true) (ws : List Jvm.Cond) (x0 : Int32) (h0 : Heap) (n0 : Nat) (Z0 : n0 ≤ h0.size) (OL : Old Z n0 h0) (hx0 : 0 ≤ x0.toInt) :
    own_MF l (⟨"java/lang/Integer", "numberOfLeadingZeros", "(I)I"⟩ : MethodName) (Jvm.Cond.code (⟨"java/lang/Integer", "numberOfLeadingZeros", "(I)I"⟩ : MethodName) jdk_33_method_47_code 2 (some .int) :: ws) ({ frames := 0, cells := 0, slots := 0, locals := 0 } : Room) #[(.int x0)] Z h0 (own_QN Z x0 h0 n0) := by
  refine MetFree.of_bodySF (plainFor_of_name own_pn0) hisR ?_
  intro p e s m args below meth c s₁ Bd hml0 hP hK
  obtain ⟨rfl, hZ, hh⟩ := hP
  have hx := Bd.exec
  have hby := Bd.bytes
  have hlk : meth.locks = false := BodyLoose.notSynchronized Bd
  have hml : c.maxLocals = 2 := hml0
  have hown : s.vm.findClass "java/lang/Integer" = some m.cls := findClass_of_methodNamed Bd.named
  have hnm := (name_of_methodNamed Bd.named Bd.method).1
  have X0 : Stand p l e ({ frames := 0, cells := 0, slots := 0, locals := 0 } : Room) s m #[(.int x0)] below meth c s₁ [] 0 0 := Stand.of_body Bd
  have e0 : s₁.heap = h0 := by rw [← hh, Bd.state]; rfl
  have N0 := Fr.nil n0
  have KP : Keep h0 h0 [] := Keep.refl _ _
  refine own_start (Fin := (own_Fin s (own_QN Z x0 h0 n0) ({ frames := 0, cells := 0, slots := 0, locals := 0 } : Room).cells ({ frames := 0, cells := 0, slots := 0, locals := 0 } : Room).slots)) (own_from (mkF m 0 #[iv x0, .unset] []) (castTop (own_ef_N m x0)) ?_)
  refine own_iln 1 X0 hx (hb hby own_d0) rfl rfl ?_
  by_cases hp : (0 : Int32) < x0
  · refine own_ifY 15 X0 hx (hb hby own_d1) ((if0 _ _).trans (tlt hp).2.2.1) (by decide) (by decide) ?_
    have hn0 : 31 ≤ (31 : Int32).toInt ∧ (31 : Int32).toInt ≤ 31 := by decide
    have hi0 : 0 ≤ x0.toInt ∧ x0.toInt < 2147483648 := ⟨hx0, (rng32 x0).2⟩
    refine own_bi 17 31 X0 hx (hb hby own_d8) rfl rfl ?_
    refine own_isn 18 #[iv x0, iv 31] X0 hx (hb hby own_d9) rfl rfl ?_
    refine own_iln 19 X0 hx (hb hby own_d10) rfl rfl ?_
    refine own_to (mkF m 22 #[iv x0, iv 31] [(.int (65536 : Int32)), (.int x0)]) (X0.ldcwInt hx hown (mvT hZ (own_w hw 22 rfl)) (g := (mkF m 19 #[iv x0, iv 31] [(.int x0)])) rfl (hb hby own_d11)) ?_
    suffices jn1 : ∀ i1 : Int32, (x0 < (65536 : Int32) → i1 = x0) → (¬ (x0 < (65536 : Int32)) → i1 = ((x0.toUInt32 >>> ((16 : Int32) &&& 31).toUInt32).toInt32)) → ∀ n1 : Int32, (x0 < (65536 : Int32) → n1 = (31 : Int32)) → (¬ (x0 < (65536 : Int32)) → n1 = ((31 : Int32) + (-16 : Int32))) → own_E p e below (own_Fin s (own_QN Z x0 h0 n0) ({ frames := 0, cells := 0, slots := 0, locals := 0 } : Room).cells ({ frames := 0, cells := 0, slots := 0, locals := 0 } : Room).slots) s₁ (mkF m 33 #[iv i1, iv n1] []) from by
      by_cases hj0 : x0 < (65536 : Int32)
      · refine own_icY 33 X0 hx (hb hby own_d12) (tlt hj0).1 (by decide) (by decide) ?_
        exact jn1 x0 (fun _ => rfl) (fun q => absurd hj0 q) (31 : Int32) (fun _ => rfl) (fun q => absurd hj0 q)
      · refine own_icN 25 X0 hx (hb hby own_d12) (flt hj0).1 rfl ?_
        refine own_inc 28 #[iv x0, iv ((31 : Int32) + (-16 : Int32))] X0 hx (hb hby own_d13) rfl rfl rfl ?_
        refine own_iln 29 X0 hx (hb hby own_d14) rfl rfl ?_
        refine own_bi 31 16 X0 hx (hb hby own_d15) rfl rfl ?_
        refine own_iushr 32 X0 hx (hb hby own_d16) rfl rfl ?_
        refine own_isn 33 #[iv ((x0.toUInt32 >>> ((16 : Int32) &&& 31).toUInt32).toInt32), iv ((31 : Int32) + (-16 : Int32))] X0 hx (hb hby own_d17) rfl rfl ?_
        exact jn1 ((x0.toUInt32 >>> ((16 : Int32) &&& 31).toUInt32).toInt32) (fun q => absurd q hj0) (fun _ => rfl) ((31 : Int32) + (-16 : Int32)) (fun q => absurd q hj0) (fun _ => rfl)
    intro i1 hi1t hi1f n1 hn1t hn1f
    have hi1 : 0 ≤ i1.toInt ∧ i1.toInt < 65536 := own_shr16 hi0.1 hi0.2 hi1t hi1f
    have hn1 := own_sub16 hn0 hn1t hn1f
    refine own_iln 34 X0 hx (hb hby own_d18) rfl rfl ?_
    refine own_si 37 256 X0 hx (hb hby own_d19) rfl rfl ?_
    suffices jn2 : ∀ i2 : Int32, (i1 < (256 : Int32) → i2 = i1) → (¬ (i1 < (256 : Int32)) → i2 = ((i1.toUInt32 >>> ((8 : Int32) &&& 31).toUInt32).toInt32)) → ∀ n2 : Int32, (i1 < (256 : Int32) → n2 = n1) → (¬ (i1 < (256 : Int32)) → n2 = (n1 + (-8 : Int32))) → own_E p e below (own_Fin s (own_QN Z x0 h0 n0) ({ frames := 0, cells := 0, slots := 0, locals := 0 } : Room).cells ({ frames := 0, cells := 0, slots := 0, locals := 0 } : Room).slots) s₁ (mkF m 48 #[iv i2, iv n2] []) from by
      by_cases hj1 : i1 < (256 : Int32)
      · refine own_icY 48 X0 hx (hb hby own_d20) (tlt hj1).1 (by decide) (by decide) ?_
        exact jn2 i1 (fun _ => rfl) (fun q => absurd hj1 q) n1 (fun _ => rfl) (fun q => absurd hj1 q)
      · refine own_icN 40 X0 hx (hb hby own_d20) (flt hj1).1 rfl ?_
        refine own_inc 43 #[iv i1, iv (n1 + (-8 : Int32))] X0 hx (hb hby own_d21) rfl rfl rfl ?_
        refine own_iln 44 X0 hx (hb hby own_d22) rfl rfl ?_
        refine own_bi 46 8 X0 hx (hb hby own_d23) rfl rfl ?_
        refine own_iushr 47 X0 hx (hb hby own_d24) rfl rfl ?_
        refine own_isn 48 #[iv ((i1.toUInt32 >>> ((8 : Int32) &&& 31).toUInt32).toInt32), iv (n1 + (-8 : Int32))] X0 hx (hb hby own_d25) rfl rfl ?_
        exact jn2 ((i1.toUInt32 >>> ((8 : Int32) &&& 31).toUInt32).toInt32) (fun q => absurd q hj1) (fun _ => rfl) (n1 + (-8 : Int32)) (fun q => absurd q hj1) (fun _ => rfl)
    intro i2 hi2t hi2f n2 hn2t hn2f
    have hi2 : 0 ≤ i2.toInt ∧ i2.toInt < 256 := own_shr8 hi1.1 hi1.2 hi2t hi2f
    have hn2 := own_sub8 hn1 hn2t hn2f
    refine own_iln 49 X0 hx (hb hby own_d26) rfl rfl ?_
    refine own_bi 51 16 X0 hx (hb hby own_d27) rfl rfl ?_
    suffices jn3 : ∀ i3 : Int32, (i2 < (16 : Int32) → i3 = i2) → (¬ (i2 < (16 : Int32)) → i3 = ((i2.toUInt32 >>> ((4 : Int32) &&& 31).toUInt32).toInt32)) → ∀ n3 : Int32, (i2 < (16 : Int32) → n3 = n2) → (¬ (i2 < (16 : Int32)) → n3 = (n2 + (-4 : Int32))) → own_E p e below (own_Fin s (own_QN Z x0 h0 n0) ({ frames := 0, cells := 0, slots := 0, locals := 0 } : Room).cells ({ frames := 0, cells := 0, slots := 0, locals := 0 } : Room).slots) s₁ (mkF m 61 #[iv i3, iv n3] []) from by
      by_cases hj2 : i2 < (16 : Int32)
      · refine own_icY 61 X0 hx (hb hby own_d28) (tlt hj2).1 (by decide) (by decide) ?_
        exact jn3 i2 (fun _ => rfl) (fun q => absurd hj2 q) n2 (fun _ => rfl) (fun q => absurd hj2 q)
      · refine own_icN 54 X0 hx (hb hby own_d28) (flt hj2).1 rfl ?_
        refine own_inc 57 #[iv i2, iv (n2 + (-4 : Int32))] X0 hx (hb hby own_d29) rfl rfl rfl ?_
        refine own_iln 58 X0 hx (hb hby own_d30) rfl rfl ?_
        refine own_ic 59 4 X0 hx (hb hby own_d31) rfl rfl ?_
        refine own_iushr 60 X0 hx (hb hby own_d32) rfl rfl ?_
        refine own_isn 61 #[iv ((i2.toUInt32 >>> ((4 : Int32) &&& 31).toUInt32).toInt32), iv (n2 + (-4 : Int32))] X0 hx (hb hby own_d33) rfl rfl ?_
        exact jn3 ((i2.toUInt32 >>> ((4 : Int32) &&& 31).toUInt32).toInt32) (fun q => absurd q hj2) (fun _ => rfl) (n2 + (-4 : Int32)) (fun q => absurd q hj2) (fun _ => rfl)
    intro i3 hi3t hi3f n3 hn3t hn3f
    have hi3 : 0 ≤ i3.toInt ∧ i3.toInt < 16 := own_shr4 hi2.1 hi2.2 hi3t hi3f
    have hn3 := own_sub4 hn2 hn3t hn3f
    refine own_iln 62 X0 hx (hb hby own_d34) rfl rfl ?_
    refine own_ic 63 4 X0 hx (hb hby own_d35) rfl rfl ?_
    suffices jn4 : ∀ i4 : Int32, (i3 < (4 : Int32) → i4 = i3) → (¬ (i3 < (4 : Int32)) → i4 = ((i3.toUInt32 >>> ((2 : Int32) &&& 31).toUInt32).toInt32)) → ∀ n4 : Int32, (i3 < (4 : Int32) → n4 = n3) → (¬ (i3 < (4 : Int32)) → n4 = (n3 + (-2 : Int32))) → own_E p e below (own_Fin s (own_QN Z x0 h0 n0) ({ frames := 0, cells := 0, slots := 0, locals := 0 } : Room).cells ({ frames := 0, cells := 0, slots := 0, locals := 0 } : Room).slots) s₁ (mkF m 73 #[iv i4, iv n4] []) from by
      by_cases hj3 : i3 < (4 : Int32)
      · refine own_icY 73 X0 hx (hb hby own_d36) (tlt hj3).1 (by decide) (by decide) ?_
        exact jn4 i3 (fun _ => rfl) (fun q => absurd hj3 q) n3 (fun _ => rfl) (fun q => absurd hj3 q)
      · refine own_icN 66 X0 hx (hb hby own_d36) (flt hj3).1 rfl ?_
        refine own_inc 69 #[iv i3, iv (n3 + (-2 : Int32))] X0 hx (hb hby own_d37) rfl rfl rfl ?_
        refine own_iln 70 X0 hx (hb hby own_d38) rfl rfl ?_
        refine own_ic 71 2 X0 hx (hb hby own_d39) rfl rfl ?_
        refine own_iushr 72 X0 hx (hb hby own_d40) rfl rfl ?_
        refine own_isn 73 #[iv ((i3.toUInt32 >>> ((2 : Int32) &&& 31).toUInt32).toInt32), iv (n3 + (-2 : Int32))] X0 hx (hb hby own_d41) rfl rfl ?_
        exact jn4 ((i3.toUInt32 >>> ((2 : Int32) &&& 31).toUInt32).toInt32) (fun q => absurd q hj3) (fun _ => rfl) (n3 + (-2 : Int32)) (fun q => absurd q hj3) (fun _ => rfl)
    intro i4 hi4t hi4f n4 hn4t hn4f
    have hi4 : 0 ≤ i4.toInt ∧ i4.toInt < 4 := own_shr2 hi3.1 hi3.2 hi4t hi4f
    have hn4 := own_sub2 hn3 hn4t hn4f
    refine own_iln 74 X0 hx (hb hby own_d42) rfl rfl ?_
    refine own_iln 75 X0 hx (hb hby own_d43) rfl rfl ?_
    refine own_ic 76 1 X0 hx (hb hby own_d44) rfl rfl ?_
    refine own_iushr 77 X0 hx (hb hby own_d45) rfl rfl ?_
    refine own_isub 78 X0 hx (hb hby own_d46) rfl rfl ?_
    exact own_retI X0 hx Bd.returns hlk (hb hby own_d47) (by decide) (by decide) (by rw [e0]; exact ⟨_, rfl, (own_fin hi4 hn4).1, (own_fin hi4 hn4).2, N0, rfl⟩)
  · refine own_ifN 4 X0 hx (hb hby own_d1) ((if0 _ _).trans (flt hp).2.2.1) rfl ?_
    refine own_iln 5 X0 hx (hb hby own_d2) rfl rfl ?_
    by_cases hz : x0 = (0 : Int32)
    · refine own_ifN 8 X0 hx (hb hby own_d3) ((if0 _ _).trans (teq hz).2) rfl ?_
      refine own_bi 10 32 X0 hx (hb hby own_d4) rfl rfl ?_
      refine own_go 14 X0 hx (hb hby own_d5) (by decide) (by decide) ?_
      exact own_retI X0 hx Bd.returns hlk (hb hby own_d6) (by decide) (by decide) (by rw [e0]; exact ⟨_, rfl, by decide, by decide, N0, rfl⟩)
    · refine own_ifY 13 X0 hx (hb hby own_d3) ((if0 _ _).trans (feq hz).2) (by decide) (by decide) ?_
      refine own_ic 14 0 X0 hx (hb hby own_d7) rfl rfl ?_
      exact own_retI X0 hx Bd.returns hlk (hb hby own_d6) (by decide) (by decide) (by rw [e0]; exact ⟨_, rfl, by decide, by decide, N0, rfl⟩)
def own_QN1 (Z : State)  (h0 : Heap) (n0 : Nat) (v : Option Value) (h : Heap) (L : List Loc) : Prop := v = some (.int (31 : Int32)) ∧ Fr n0 L ∧ h = h0
set_option maxRecDepth 65536 in
set_option maxHeartbeats 40000000 in
theorem own_rmN1 (l : Launch) (Z : State) (a0 : Array Value) (hw : ∀ d ∈ tables_1, d.before a0 Z = true) (ws : List Jvm.Cond)  (h0 : Heap) (n0 : Nat) (Z0 : n0 ≤ h0.size) (OL : Old Z n0 h0)  :
    own_MF l (⟨"java/lang/Integer", "numberOfLeadingZeros", "(I)I"⟩ : MethodName) (Jvm.Cond.code (⟨"java/lang/Integer", "numberOfLeadingZeros", "(I)I"⟩ : MethodName) jdk_33_method_47_code 2 (some .int) :: ws) ({ frames := 0, cells := 0, slots := 0, locals := 0 } : Room) #[(.int (1 : Int32))] Z h0 (own_QN1 Z  h0 n0) := by
  refine MetFree.of_bodySF (plainFor_of_name own_pn0) hisR ?_
  intro p e s m args below meth c s₁ Bd hml0 hP hK
  obtain ⟨rfl, hZ, hh⟩ := hP
  have hx := Bd.exec
  have hby := Bd.bytes
  have hlk : meth.locks = false := BodyLoose.notSynchronized Bd
  have hml : c.maxLocals = 2 := hml0
  have hown : s.vm.findClass "java/lang/Integer" = some m.cls := findClass_of_methodNamed Bd.named
  have hnm := (name_of_methodNamed Bd.named Bd.method).1
  have X0 : Stand p l e ({ frames := 0, cells := 0, slots := 0, locals := 0 } : Room) s m #[(.int (1 : Int32))] below meth c s₁ [] 0 0 := Stand.of_body Bd
  have e0 : s₁.heap = h0 := by rw [← hh, Bd.state]; rfl
  have N0 := Fr.nil n0
  have KP : Keep h0 h0 [] := Keep.refl _ _
  refine own_start (Fin := (own_Fin s (own_QN1 Z  h0 n0) ({ frames := 0, cells := 0, slots := 0, locals := 0 } : Room).cells ({ frames := 0, cells := 0, slots := 0, locals := 0 } : Room).slots)) (own_from (mkF m 0 #[iv 1, .unset] []) (castTop (own_ef_N1 m (1 : Int32))) ?_)
  refine own_iln 1 X0 hx (hb hby own_d0) rfl rfl ?_
  refine own_ifY 15 X0 hx (hb hby own_d1) ((if0 _ _).trans (tlt (by decide : (0 : Int32) < (1 : Int32))).2.2.1) (by decide) (by decide) ?_
  refine own_bi 17 31 X0 hx (hb hby own_d8) rfl rfl ?_
  refine own_isn 18 #[iv 1, iv 31] X0 hx (hb hby own_d9) rfl rfl ?_
  refine own_iln 19 X0 hx (hb hby own_d10) rfl rfl ?_
  refine own_to (mkF m 22 #[iv 1, iv 31] [(.int (65536 : Int32)), (.int (1 : Int32))]) (X0.ldcwInt hx hown (mvT hZ (own_w hw 22 rfl)) (g := (mkF m 19 #[iv 1, iv 31] [(.int (1 : Int32))])) rfl (hb hby own_d11)) ?_
  refine own_icY 33 X0 hx (hb hby own_d12) (tlt (by decide : (1 : Int32) < (65536 : Int32))).1 (by decide) (by decide) ?_
  refine own_iln 34 X0 hx (hb hby own_d18) rfl rfl ?_
  refine own_si 37 256 X0 hx (hb hby own_d19) rfl rfl ?_
  refine own_icY 48 X0 hx (hb hby own_d20) (tlt (by decide : (1 : Int32) < (256 : Int32))).1 (by decide) (by decide) ?_
  refine own_iln 49 X0 hx (hb hby own_d26) rfl rfl ?_
  refine own_bi 51 16 X0 hx (hb hby own_d27) rfl rfl ?_
  refine own_icY 61 X0 hx (hb hby own_d28) (tlt (by decide : (1 : Int32) < (16 : Int32))).1 (by decide) (by decide) ?_
  refine own_iln 62 X0 hx (hb hby own_d34) rfl rfl ?_
  refine own_ic 63 4 X0 hx (hb hby own_d35) rfl rfl ?_
  refine own_icY 73 X0 hx (hb hby own_d36) (tlt (by decide : (1 : Int32) < (4 : Int32))).1 (by decide) (by decide) ?_
  refine own_iln 74 X0 hx (hb hby own_d42) rfl rfl ?_
  refine own_iln 75 X0 hx (hb hby own_d43) rfl rfl ?_
  refine own_ic 76 1 X0 hx (hb hby own_d44) rfl rfl ?_
  refine own_iushr 77 X0 hx (hb hby own_d45) (z := (0 : Int32)) rfl rfl ?_
  refine own_isub 78 X0 hx (hb hby own_d46) (z := (31 : Int32)) rfl rfl ?_
  exact own_retI X0 hx Bd.returns hlk (hb hby own_d47) (by decide) (by decide) (by rw [e0]; exact ⟨rfl, N0, rfl⟩)
def own_QN2 (Z : State)  (h0 : Heap) (n0 : Nat) (v : Option Value) (h : Heap) (L : List Loc) : Prop := v = some (.int (30 : Int32)) ∧ Fr n0 L ∧ h = h0
set_option maxRecDepth 65536 in
set_option maxHeartbeats 40000000 in
theorem own_rmN2 (l : Launch) (Z : State) (a0 : Array Value) (hw : ∀ d ∈ tables_1, d.before a0 Z = true) (ws : List Jvm.Cond)  (h0 : Heap) (n0 : Nat) (Z0 : n0 ≤ h0.size) (OL : Old Z n0 h0)  :
    own_MF l (⟨"java/lang/Integer", "numberOfLeadingZeros", "(I)I"⟩ : MethodName) (Jvm.Cond.code (⟨"java/lang/Integer", "numberOfLeadingZeros", "(I)I"⟩ : MethodName) jdk_33_method_47_code 2 (some .int) :: ws) ({ frames := 0, cells := 0, slots := 0, locals := 0 } : Room) #[(.int (2 : Int32))] Z h0 (own_QN2 Z  h0 n0) := by
  refine MetFree.of_bodySF (plainFor_of_name own_pn0) hisR ?_
  intro p e s m args below meth c s₁ Bd hml0 hP hK
  obtain ⟨rfl, hZ, hh⟩ := hP
  have hx := Bd.exec
  have hby := Bd.bytes
  have hlk : meth.locks = false := BodyLoose.notSynchronized Bd
  have hml : c.maxLocals = 2 := hml0
  have hown : s.vm.findClass "java/lang/Integer" = some m.cls := findClass_of_methodNamed Bd.named
  have hnm := (name_of_methodNamed Bd.named Bd.method).1
  have X0 : Stand p l e ({ frames := 0, cells := 0, slots := 0, locals := 0 } : Room) s m #[(.int (2 : Int32))] below meth c s₁ [] 0 0 := Stand.of_body Bd
  have e0 : s₁.heap = h0 := by rw [← hh, Bd.state]; rfl
  have N0 := Fr.nil n0
  have KP : Keep h0 h0 [] := Keep.refl _ _
  refine own_start (Fin := (own_Fin s (own_QN2 Z  h0 n0) ({ frames := 0, cells := 0, slots := 0, locals := 0 } : Room).cells ({ frames := 0, cells := 0, slots := 0, locals := 0 } : Room).slots)) (own_from (mkF m 0 #[iv 2, .unset] []) (castTop (own_ef_N2 m (2 : Int32))) ?_)
  refine own_iln 1 X0 hx (hb hby own_d0) rfl rfl ?_
  refine own_ifY 15 X0 hx (hb hby own_d1) ((if0 _ _).trans (tlt (by decide : (0 : Int32) < (2 : Int32))).2.2.1) (by decide) (by decide) ?_
  refine own_bi 17 31 X0 hx (hb hby own_d8) rfl rfl ?_
  refine own_isn 18 #[iv 2, iv 31] X0 hx (hb hby own_d9) rfl rfl ?_
  refine own_iln 19 X0 hx (hb hby own_d10) rfl rfl ?_
  refine own_to (mkF m 22 #[iv 2, iv 31] [(.int (65536 : Int32)), (.int (2 : Int32))]) (X0.ldcwInt hx hown (mvT hZ (own_w hw 22 rfl)) (g := (mkF m 19 #[iv 2, iv 31] [(.int (2 : Int32))])) rfl (hb hby own_d11)) ?_
  refine own_icY 33 X0 hx (hb hby own_d12) (tlt (by decide : (2 : Int32) < (65536 : Int32))).1 (by decide) (by decide) ?_
  refine own_iln 34 X0 hx (hb hby own_d18) rfl rfl ?_
  refine own_si 37 256 X0 hx (hb hby own_d19) rfl rfl ?_
  refine own_icY 48 X0 hx (hb hby own_d20) (tlt (by decide : (2 : Int32) < (256 : Int32))).1 (by decide) (by decide) ?_
  refine own_iln 49 X0 hx (hb hby own_d26) rfl rfl ?_
  refine own_bi 51 16 X0 hx (hb hby own_d27) rfl rfl ?_
  refine own_icY 61 X0 hx (hb hby own_d28) (tlt (by decide : (2 : Int32) < (16 : Int32))).1 (by decide) (by decide) ?_
  refine own_iln 62 X0 hx (hb hby own_d34) rfl rfl ?_
  refine own_ic 63 4 X0 hx (hb hby own_d35) rfl rfl ?_
  refine own_icY 73 X0 hx (hb hby own_d36) (tlt (by decide : (2 : Int32) < (4 : Int32))).1 (by decide) (by decide) ?_
  refine own_iln 74 X0 hx (hb hby own_d42) rfl rfl ?_
  refine own_iln 75 X0 hx (hb hby own_d43) rfl rfl ?_
  refine own_ic 76 1 X0 hx (hb hby own_d44) rfl rfl ?_
  refine own_iushr 77 X0 hx (hb hby own_d45) (z := (1 : Int32)) rfl rfl ?_
  refine own_isub 78 X0 hx (hb hby own_d46) (z := (30 : Int32)) rfl rfl ?_
  exact own_retI X0 hx Bd.returns hlk (hb hby own_d47) (by decide) (by decide) (by rw [e0]; exact ⟨rfl, N0, rfl⟩)
def own_QN3 (Z : State)  (h0 : Heap) (n0 : Nat) (v : Option Value) (h : Heap) (L : List Loc) : Prop := v = some (.int (30 : Int32)) ∧ Fr n0 L ∧ h = h0
set_option maxRecDepth 65536 in
set_option maxHeartbeats 40000000 in
theorem own_rmN3 (l : Launch) (Z : State) (a0 : Array Value) (hw : ∀ d ∈ tables_1, d.before a0 Z = true) (ws : List Jvm.Cond)  (h0 : Heap) (n0 : Nat) (Z0 : n0 ≤ h0.size) (OL : Old Z n0 h0)  :
    own_MF l (⟨"java/lang/Integer", "numberOfLeadingZeros", "(I)I"⟩ : MethodName) (Jvm.Cond.code (⟨"java/lang/Integer", "numberOfLeadingZeros", "(I)I"⟩ : MethodName) jdk_33_method_47_code 2 (some .int) :: ws) ({ frames := 0, cells := 0, slots := 0, locals := 0 } : Room) #[(.int (3 : Int32))] Z h0 (own_QN3 Z  h0 n0) := by
  refine MetFree.of_bodySF (plainFor_of_name own_pn0) hisR ?_
  intro p e s m args below meth c s₁ Bd hml0 hP hK
  obtain ⟨rfl, hZ, hh⟩ := hP
  have hx := Bd.exec
  have hby := Bd.bytes
  have hlk : meth.locks = false := BodyLoose.notSynchronized Bd
  have hml : c.maxLocals = 2 := hml0
  have hown : s.vm.findClass "java/lang/Integer" = some m.cls := findClass_of_methodNamed Bd.named
  have hnm := (name_of_methodNamed Bd.named Bd.method).1
  have X0 : Stand p l e ({ frames := 0, cells := 0, slots := 0, locals := 0 } : Room) s m #[(.int (3 : Int32))] below meth c s₁ [] 0 0 := Stand.of_body Bd
  have e0 : s₁.heap = h0 := by rw [← hh, Bd.state]; rfl
  have N0 := Fr.nil n0
  have KP : Keep h0 h0 [] := Keep.refl _ _
  refine own_start (Fin := (own_Fin s (own_QN3 Z  h0 n0) ({ frames := 0, cells := 0, slots := 0, locals := 0 } : Room).cells ({ frames := 0, cells := 0, slots := 0, locals := 0 } : Room).slots)) (own_from (mkF m 0 #[iv 3, .unset] []) (castTop (own_ef_N3 m (3 : Int32))) ?_)
  refine own_iln 1 X0 hx (hb hby own_d0) rfl rfl ?_
  refine own_ifY 15 X0 hx (hb hby own_d1) ((if0 _ _).trans (tlt (by decide : (0 : Int32) < (3 : Int32))).2.2.1) (by decide) (by decide) ?_
  refine own_bi 17 31 X0 hx (hb hby own_d8) rfl rfl ?_
  refine own_isn 18 #[iv 3, iv 31] X0 hx (hb hby own_d9) rfl rfl ?_
  refine own_iln 19 X0 hx (hb hby own_d10) rfl rfl ?_
  refine own_to (mkF m 22 #[iv 3, iv 31] [(.int (65536 : Int32)), (.int (3 : Int32))]) (X0.ldcwInt hx hown (mvT hZ (own_w hw 22 rfl)) (g := (mkF m 19 #[iv 3, iv 31] [(.int (3 : Int32))])) rfl (hb hby own_d11)) ?_
  refine own_icY 33 X0 hx (hb hby own_d12) (tlt (by decide : (3 : Int32) < (65536 : Int32))).1 (by decide) (by decide) ?_
  refine own_iln 34 X0 hx (hb hby own_d18) rfl rfl ?_
  refine own_si 37 256 X0 hx (hb hby own_d19) rfl rfl ?_
  refine own_icY 48 X0 hx (hb hby own_d20) (tlt (by decide : (3 : Int32) < (256 : Int32))).1 (by decide) (by decide) ?_
  refine own_iln 49 X0 hx (hb hby own_d26) rfl rfl ?_
  refine own_bi 51 16 X0 hx (hb hby own_d27) rfl rfl ?_
  refine own_icY 61 X0 hx (hb hby own_d28) (tlt (by decide : (3 : Int32) < (16 : Int32))).1 (by decide) (by decide) ?_
  refine own_iln 62 X0 hx (hb hby own_d34) rfl rfl ?_
  refine own_ic 63 4 X0 hx (hb hby own_d35) rfl rfl ?_
  refine own_icY 73 X0 hx (hb hby own_d36) (tlt (by decide : (3 : Int32) < (4 : Int32))).1 (by decide) (by decide) ?_
  refine own_iln 74 X0 hx (hb hby own_d42) rfl rfl ?_
  refine own_iln 75 X0 hx (hb hby own_d43) rfl rfl ?_
  refine own_ic 76 1 X0 hx (hb hby own_d44) rfl rfl ?_
  refine own_iushr 77 X0 hx (hb hby own_d45) (z := (1 : Int32)) rfl rfl ?_
  refine own_isub 78 X0 hx (hb hby own_d46) (z := (30 : Int32)) rfl rfl ?_
  exact own_retI X0 hx Bd.returns hlk (hb hby own_d47) (by decide) (by decide) (by rw [e0]; exact ⟨rfl, N0, rfl⟩)
def own_QN4 (Z : State)  (h0 : Heap) (n0 : Nat) (v : Option Value) (h : Heap) (L : List Loc) : Prop := v = some (.int (29 : Int32)) ∧ Fr n0 L ∧ h = h0
set_option maxRecDepth 65536 in
set_option maxHeartbeats 40000000 in
theorem own_rmN4 (l : Launch) (Z : State) (a0 : Array Value) (hw : ∀ d ∈ tables_1, d.before a0 Z = true) (ws : List Jvm.Cond)  (h0 : Heap) (n0 : Nat) (Z0 : n0 ≤ h0.size) (OL : Old Z n0 h0)  :
    own_MF l (⟨"java/lang/Integer", "numberOfLeadingZeros", "(I)I"⟩ : MethodName) (Jvm.Cond.code (⟨"java/lang/Integer", "numberOfLeadingZeros", "(I)I"⟩ : MethodName) jdk_33_method_47_code 2 (some .int) :: ws) ({ frames := 0, cells := 0, slots := 0, locals := 0 } : Room) #[(.int (4 : Int32))] Z h0 (own_QN4 Z  h0 n0) := by
  refine MetFree.of_bodySF (plainFor_of_name own_pn0) hisR ?_
  intro p e s m args below meth c s₁ Bd hml0 hP hK
  obtain ⟨rfl, hZ, hh⟩ := hP
  have hx := Bd.exec
  have hby := Bd.bytes
  have hlk : meth.locks = false := BodyLoose.notSynchronized Bd
  have hml : c.maxLocals = 2 := hml0
  have hown : s.vm.findClass "java/lang/Integer" = some m.cls := findClass_of_methodNamed Bd.named
  have hnm := (name_of_methodNamed Bd.named Bd.method).1
  have X0 : Stand p l e ({ frames := 0, cells := 0, slots := 0, locals := 0 } : Room) s m #[(.int (4 : Int32))] below meth c s₁ [] 0 0 := Stand.of_body Bd
  have e0 : s₁.heap = h0 := by rw [← hh, Bd.state]; rfl
  have N0 := Fr.nil n0
  have KP : Keep h0 h0 [] := Keep.refl _ _
  refine own_start (Fin := (own_Fin s (own_QN4 Z  h0 n0) ({ frames := 0, cells := 0, slots := 0, locals := 0 } : Room).cells ({ frames := 0, cells := 0, slots := 0, locals := 0 } : Room).slots)) (own_from (mkF m 0 #[iv 4, .unset] []) (castTop (own_ef_N4 m (4 : Int32))) ?_)
  refine own_iln 1 X0 hx (hb hby own_d0) rfl rfl ?_
  refine own_ifY 15 X0 hx (hb hby own_d1) ((if0 _ _).trans (tlt (by decide : (0 : Int32) < (4 : Int32))).2.2.1) (by decide) (by decide) ?_
  refine own_bi 17 31 X0 hx (hb hby own_d8) rfl rfl ?_
  refine own_isn 18 #[iv 4, iv 31] X0 hx (hb hby own_d9) rfl rfl ?_
  refine own_iln 19 X0 hx (hb hby own_d10) rfl rfl ?_
  refine own_to (mkF m 22 #[iv 4, iv 31] [(.int (65536 : Int32)), (.int (4 : Int32))]) (X0.ldcwInt hx hown (mvT hZ (own_w hw 22 rfl)) (g := (mkF m 19 #[iv 4, iv 31] [(.int (4 : Int32))])) rfl (hb hby own_d11)) ?_
  refine own_icY 33 X0 hx (hb hby own_d12) (tlt (by decide : (4 : Int32) < (65536 : Int32))).1 (by decide) (by decide) ?_
  refine own_iln 34 X0 hx (hb hby own_d18) rfl rfl ?_
  refine own_si 37 256 X0 hx (hb hby own_d19) rfl rfl ?_
  refine own_icY 48 X0 hx (hb hby own_d20) (tlt (by decide : (4 : Int32) < (256 : Int32))).1 (by decide) (by decide) ?_
  refine own_iln 49 X0 hx (hb hby own_d26) rfl rfl ?_
  refine own_bi 51 16 X0 hx (hb hby own_d27) rfl rfl ?_
  refine own_icY 61 X0 hx (hb hby own_d28) (tlt (by decide : (4 : Int32) < (16 : Int32))).1 (by decide) (by decide) ?_
  refine own_iln 62 X0 hx (hb hby own_d34) rfl rfl ?_
  refine own_ic 63 4 X0 hx (hb hby own_d35) rfl rfl ?_
  refine own_icN 66 X0 hx (hb hby own_d36) (flt (by decide : ¬ ((4 : Int32) < (4 : Int32)))).1 rfl ?_
  refine own_inc 69 #[iv 4, iv 29] X0 hx (hb hby own_d37) rfl rfl rfl ?_
  refine own_iln 70 X0 hx (hb hby own_d38) rfl rfl ?_
  refine own_ic 71 2 X0 hx (hb hby own_d39) rfl rfl ?_
  refine own_iushr 72 X0 hx (hb hby own_d40) (z := (1 : Int32)) rfl rfl ?_
  refine own_isn 73 #[iv 1, iv 29] X0 hx (hb hby own_d41) rfl rfl ?_
  refine own_iln 74 X0 hx (hb hby own_d42) rfl rfl ?_
  refine own_iln 75 X0 hx (hb hby own_d43) rfl rfl ?_
  refine own_ic 76 1 X0 hx (hb hby own_d44) rfl rfl ?_
  refine own_iushr 77 X0 hx (hb hby own_d45) (z := (0 : Int32)) rfl rfl ?_
  refine own_isub 78 X0 hx (hb hby own_d46) (z := (29 : Int32)) rfl rfl ?_
  exact own_retI X0 hx Bd.returns hlk (hb hby own_d47) (by decide) (by decide) (by rw [e0]; exact ⟨rfl, N0, rfl⟩)
def own_QM (Z : State) (x0 x1 : Int32) (h0 : Heap) (n0 : Nat) (v : Option Value) (h : Heap) (L : List Loc) : Prop := ∃ r : Int32, v = some (.int r) ∧ r = (if x0 < x1 then x1 else x0) ∧ Fr n0 L ∧ h = h0
set_option maxRecDepth 65536 in
set_option maxHeartbeats 40000000 in
theorem own_rmM (l : Launch) (Z : State) (a0 : Array Value) (hw : ∀ d ∈ tables_1, d.before a0 Z = true) (ws : List Jvm.Cond) (x0 x1 : Int32) (h0 : Heap) (n0 : Nat) (Z0 : n0 ≤ h0.size) (OL : Old Z n0 h0)  :
    own_MF l (⟨"java/lang/Math", "max", "(II)I"⟩ : MethodName) (Jvm.Cond.code (⟨"java/lang/Math", "max", "(II)I"⟩ : MethodName) jdk_29_method_65_code 2 (some .int) :: ws) ({ frames := 0, cells := 0, slots := 0, locals := 0 } : Room) #[(.int x0), (.int x1)] Z h0 (own_QM Z x0 x1 h0 n0) := by
  refine MetFree.of_bodySF (Jvm.Free.JP.mathPlain rfl (by decide +kernel)) hisR ?_
  intro p e s m args below meth c s₁ Bd hml0 hP hK
  obtain ⟨rfl, hZ, hh⟩ := hP
  have hx := Bd.exec
  have hby := Bd.bytes
  have hlk : meth.locks = false := BodyLoose.notSynchronized Bd
  have hml : c.maxLocals = 2 := hml0
  have hown : s.vm.findClass "java/lang/Math" = some m.cls := findClass_of_methodNamed Bd.named
  have hnm := (name_of_methodNamed Bd.named Bd.method).1
  have X0 : Stand p l e ({ frames := 0, cells := 0, slots := 0, locals := 0 } : Room) s m #[(.int x0), (.int x1)] below meth c s₁ [] 0 0 := Stand.of_body Bd
  have e0 : s₁.heap = h0 := by rw [← hh, Bd.state]; rfl
  have N0 := Fr.nil n0
  have KP : Keep h0 h0 [] := Keep.refl _ _
  refine own_start (Fin := (own_Fin s (own_QM Z x0 x1 h0 n0) ({ frames := 0, cells := 0, slots := 0, locals := 0 } : Room).cells ({ frames := 0, cells := 0, slots := 0, locals := 0 } : Room).slots)) (own_from (mkF m 0 #[iv x0, iv x1] []) (castTop (own_ef_M m x0 x1)) ?_)
  refine own_iln 1 X0 hx (hb hby own_d48) rfl rfl ?_
  refine own_iln 2 X0 hx (hb hby own_d49) rfl rfl ?_
  by_cases h1 : x0 < x1
  · refine own_icY 9 X0 hx (hb hby own_d50) (tlt h1).1 (by decide) (by decide) ?_
    refine own_iln 10 X0 hx (hb hby own_d51) rfl rfl ?_
    exact own_retI X0 hx Bd.returns hlk (hb hby own_d52) (by decide) (by decide) (by rw [e0]; exact ⟨_, rfl, (if_pos h1).symm, N0, rfl⟩)
  · refine own_icN 5 X0 hx (hb hby own_d50) (flt h1).1 rfl ?_
    refine own_iln 6 X0 hx (hb hby own_d53) rfl rfl ?_
    refine own_go 10 X0 hx (hb hby own_d54) (by decide) (by decide) ?_
    exact own_retI X0 hx Bd.returns hlk (hb hby own_d52) (by decide) (by decide) (by rw [e0]; exact ⟨_, rfl, (if_neg h1).symm, N0, rfl⟩)
def own_QB (Z : State) (x0 : Int32) (h0 : Heap) (n0 : Nat) (v : Option Value) (h : Heap) (L : List Loc) : Prop := ∃ r : Int32, v = some (.int r) ∧ 1 ≤ r.toInt ∧ r.toInt ≤ 32 ∧ Fr n0 L ∧ h = h0
set_option maxRecDepth 65536 in
set_option maxHeartbeats 40000000 in
theorem own_rmB (l : Launch) (Z : State) (a0 : Array Value) (hw : ∀ d ∈ tables_1, d.before a0 Z = true) (ws : List Jvm.Cond) (x0 : Int32) (h0 : Heap) (n0 : Nat) (Z0 : n0 ≤ h0.size) (OL : Old Z n0 h0) (hx0 : 0 ≤ x0.toInt) :
    own_MF l (⟨"com/example/gramstead/gramstead/estimation/RecordLayout", "bitsFor", "(I)I"⟩ : MethodName) (Jvm.Cond.code (⟨"com/example/gramstead/gramstead/estimation/RecordLayout", "bitsFor", "(I)I"⟩ : MethodName) prog_19_method_12_code 1 (some .int) :: ws) ({ frames := 1, cells := 0, slots := 0, locals := 20 } : Room) #[(.int x0)] Z h0 (own_QB Z x0 h0 n0) := by
  refine MetFree.of_bodySF (plainFor_of_name own_pn1) hisR ?_
  intro p e s m args below meth c s₁ Bd hml0 hP hK
  obtain ⟨rfl, hZ, hh⟩ := hP
  have hx := Bd.exec
  have hby := Bd.bytes
  have hlk : meth.locks = false := BodyLoose.notSynchronized Bd
  have hml : c.maxLocals = 1 := hml0
  have hown : s.vm.findClass "com/example/gramstead/gramstead/estimation/RecordLayout" = some m.cls := findClass_of_methodNamed Bd.named
  have hnm := (name_of_methodNamed Bd.named Bd.method).1
  have X0 : Stand p l e ({ frames := 1, cells := 0, slots := 0, locals := 20 } : Room) s m #[(.int x0)] below meth c s₁ [] 0 0 := Stand.of_body Bd
  have e0 : s₁.heap = h0 := by rw [← hh, Bd.state]; rfl
  have N0 := Fr.nil n0
  have KP : Keep h0 h0 [] := Keep.refl _ _
  refine own_start (Fin := (own_Fin s (own_QB Z x0 h0 n0) ({ frames := 1, cells := 0, slots := 0, locals := 20 } : Room).cells ({ frames := 1, cells := 0, slots := 0, locals := 20 } : Room).slots)) (own_from (mkF m 0 #[iv x0] []) (castTop (own_ef_B m x0)) ?_)
  refine own_ic 1 1 X0 hx (hb hby own_d55) rfl rfl ?_
  refine own_bi 3 32 X0 hx (hb hby own_d56) rfl rfl ?_
  refine own_iln 4 X0 hx (hb hby own_d57) rfl rfl ?_
  obtain ⟨_, T5, Lc5, X5, hQ5, st5⟩ := own_callS X0 hx (y := (⟨"java/lang/Integer", "numberOfLeadingZeros", "(I)I"⟩ : MethodName)) hown (mvT hZ (own_w hw 18 rfl)) (mvT hZ (own_w hw 19 rfl)) (mvT hZ (own_w hw 20 rfl)) (mvT hZ (own_w hw 21 rfl)) (by decide) (backOf (W := 2) (own_rmN l Z a0 hw [] x0 h0 n0 (Nat.le_trans Z0 KP.1) OL hx0) hZ (own_w hw 21 rfl) (own_w hw 20 rfl) (by decide) (by decide)) (g := (mkF m 4 #[iv x0] [(.int x0), (.int (32 : Int32)), (.int (1 : Int32))])) rfl (by rw [hml]; rfl) (argsL := [(.int x0)]) (rest := [(.int (32 : Int32)), (.int (1 : Int32))]) (lenOf own_pd0 rfl) rfl (by show 2 * 0 + _ ≤ _; exact Nat.le_of_eq rfl) (hb hby own_d58) rfl e0 (kc := 0) (ks := 0) rfl rfl (by decide) (by decide)
  obtain ⟨r5, rfl, h15, h25, N5q, e5⟩ := hQ5
  have N5 := Fr.app N0 N5q
  refine own_to (mkF m 7 #[iv x0] [(.int r5), (.int (32 : Int32)), (.int (1 : Int32))]) st5 ?_
  refine own_isub 8 X5 hx (hb hby own_d59) rfl rfl ?_
  obtain ⟨_, T6, Lc6, X6, hQ6, st6⟩ := own_callS X5 hx (y := (⟨"java/lang/Math", "max", "(II)I"⟩ : MethodName)) hown (mvT hZ (own_w hw 23 rfl)) (mvT hZ (own_w hw 24 rfl)) (mvT hZ (own_w hw 25 rfl)) (mvT hZ (own_w hw 26 rfl)) (by decide) (backOf (W := 0) (own_rmM l Z a0 hw [] (1 : Int32) ((32 : Int32) - r5) h0 n0 (Nat.le_trans Z0 KP.1) OL) hZ (own_w hw 26 rfl) (own_w hw 25 rfl) (by decide) (by decide)) (g := (mkF m 8 #[iv x0] [(.int ((32 : Int32) - r5)), (.int (1 : Int32))])) rfl (by rw [hml]; rfl) (argsL := [(.int (1 : Int32)), (.int ((32 : Int32) - r5))]) (rest := []) (lenOf own_pd1 rfl) rfl (by show 2 * 0 + _ ≤ _; exact Nat.le_of_eq rfl) (hb hby own_d60) rfl e5 (kc := 0) (ks := 0) rfl rfl (by decide) (by decide)
  obtain ⟨r6, rfl, hr6, N6q, e6⟩ := hQ6
  have N6 := Fr.app N5 N6q
  refine own_to (mkF m 11 #[iv x0] [(.int r6)]) st6 ?_
  exact own_retI X6 hx Bd.returns hlk (hb hby own_d61) (by decide) (by decide) (by rw [e6]; exact ⟨_, rfl, (own_bits h15 h25 hr6).1, (own_bits h15 h25 hr6).2, N6, rfl⟩)
def own_QB1 (Z : State)  (h0 : Heap) (n0 : Nat) (v : Option Value) (h : Heap) (L : List Loc) : Prop := v = some (.int (1 : Int32)) ∧ Fr n0 L ∧ h = h0
set_option maxRecDepth 65536 in
set_option maxHeartbeats 40000000 in
theorem own_rmB1 (l : Launch) (Z : State) (a0 : Array Value) (hw : ∀ d ∈ tables_1, d.before a0 Z = true) (ws : List Jvm.Cond)  (h0 : Heap) (n0 : Nat) (Z0 : n0 ≤ h0.size) (OL : Old Z n0 h0)  :
    own_MF l (⟨"com/example/gramstead/gramstead/estimation/RecordLayout", "bitsFor", "(I)I"⟩ : MethodName) (Jvm.Cond.code (⟨"com/example/gramstead/gramstead/estimation/RecordLayout", "bitsFor", "(I)I"⟩ : MethodName) prog_19_method_12_code 1 (some .int) :: ws) ({ frames := 1, cells := 0, slots := 0, locals := 20 } : Room) #[(.int (1 : Int32))] Z h0 (own_QB1 Z  h0 n0) := by
  refine MetFree.of_bodySF (plainFor_of_name own_pn1) hisR ?_
  intro p e s m args below meth c s₁ Bd hml0 hP hK
  obtain ⟨rfl, hZ, hh⟩ := hP
  have hx := Bd.exec
  have hby := Bd.bytes
  have hlk : meth.locks = false := BodyLoose.notSynchronized Bd
  have hml : c.maxLocals = 1 := hml0
  have hown : s.vm.findClass "com/example/gramstead/gramstead/estimation/RecordLayout" = some m.cls := findClass_of_methodNamed Bd.named
  have hnm := (name_of_methodNamed Bd.named Bd.method).1
  have X0 : Stand p l e ({ frames := 1, cells := 0, slots := 0, locals := 20 } : Room) s m #[(.int (1 : Int32))] below meth c s₁ [] 0 0 := Stand.of_body Bd
  have e0 : s₁.heap = h0 := by rw [← hh, Bd.state]; rfl
  have N0 := Fr.nil n0
  have KP : Keep h0 h0 [] := Keep.refl _ _
  refine own_start (Fin := (own_Fin s (own_QB1 Z  h0 n0) ({ frames := 1, cells := 0, slots := 0, locals := 20 } : Room).cells ({ frames := 1, cells := 0, slots := 0, locals := 20 } : Room).slots)) (own_from (mkF m 0 #[iv 1] []) (castTop (own_ef_B1 m (1 : Int32))) ?_)
  refine own_ic 1 1 X0 hx (hb hby own_d55) rfl rfl ?_
  refine own_bi 3 32 X0 hx (hb hby own_d56) rfl rfl ?_
  refine own_iln 4 X0 hx (hb hby own_d57) rfl rfl ?_
  obtain ⟨_, T7, Lc7, X7, hQ7, st7⟩ := own_callS X0 hx (y := (⟨"java/lang/Integer", "numberOfLeadingZeros", "(I)I"⟩ : MethodName)) hown (mvT hZ (own_w hw 18 rfl)) (mvT hZ (own_w hw 19 rfl)) (mvT hZ (own_w hw 20 rfl)) (mvT hZ (own_w hw 21 rfl)) (by decide) (backOf (W := 2) (own_rmN1 l Z a0 hw [] h0 n0 (Nat.le_trans Z0 KP.1) OL) hZ (own_w hw 21 rfl) (own_w hw 20 rfl) (by decide) (by decide)) (g := (mkF m 4 #[iv 1] [(.int (1 : Int32)), (.int (32 : Int32)), (.int (1 : Int32))])) rfl (by rw [hml]; rfl) (argsL := [(.int (1 : Int32))]) (rest := [(.int (32 : Int32)), (.int (1 : Int32))]) (lenOf own_pd0 rfl) rfl (by show 2 * 0 + _ ≤ _; exact Nat.le_of_eq rfl) (hb hby own_d58) rfl e0 (kc := 0) (ks := 0) rfl rfl (by decide) (by decide)
  obtain ⟨rfl, N7q, e7⟩ := hQ7
  have N7 := Fr.app N0 N7q
  refine own_to (mkF m 7 #[iv 1] [(.int (31 : Int32)), (.int (32 : Int32)), (.int (1 : Int32))]) st7 ?_
  refine own_isub 8 X7 hx (hb hby own_d59) (z := (1 : Int32)) rfl rfl ?_
  obtain ⟨_, T8, Lc8, X8, hQ8, st8⟩ := own_callS X7 hx (y := (⟨"java/lang/Math", "max", "(II)I"⟩ : MethodName)) hown (mvT hZ (own_w hw 23 rfl)) (mvT hZ (own_w hw 24 rfl)) (mvT hZ (own_w hw 25 rfl)) (mvT hZ (own_w hw 26 rfl)) (by decide) (backOf (W := 0) (own_rmM l Z a0 hw [] (1 : Int32) (1 : Int32) h0 n0 (Nat.le_trans Z0 KP.1) OL) hZ (own_w hw 26 rfl) (own_w hw 25 rfl) (by decide) (by decide)) (g := (mkF m 8 #[iv 1] [(.int (1 : Int32)), (.int (1 : Int32))])) rfl (by rw [hml]; rfl) (argsL := [(.int (1 : Int32)), (.int (1 : Int32))]) (rest := []) (lenOf own_pd1 rfl) rfl (by show 2 * 0 + _ ≤ _; exact Nat.le_of_eq rfl) (hb hby own_d60) rfl e7 (kc := 0) (ks := 0) rfl rfl (by decide) (by decide)
  obtain ⟨r8, rfl, hr8, N8q, e8⟩ := hQ8
  have N8 := Fr.app N7 N8q
  refine own_to (mkF m 11 #[iv 1] [(.int r8)]) st8 ?_
  have hr : r8 = (1 : Int32) := by rw [hr8]; decide
  subst hr
  exact own_retI X8 hx Bd.returns hlk (hb hby own_d61) (by decide) (by decide) (by rw [e8]; exact ⟨rfl, N8, rfl⟩)
def own_QB2 (Z : State)  (h0 : Heap) (n0 : Nat) (v : Option Value) (h : Heap) (L : List Loc) : Prop := v = some (.int (2 : Int32)) ∧ Fr n0 L ∧ h = h0
set_option maxRecDepth 65536 in
set_option maxHeartbeats 40000000 in
theorem own_rmB2 (l : Launch) (Z : State) (a0 : Array Value) (hw : ∀ d ∈ tables_1, d.before a0 Z = true) (ws : List Jvm.Cond)  (h0 : Heap) (n0 : Nat) (Z0 : n0 ≤ h0.size) (OL : Old Z n0 h0)  :
    own_MF l (⟨"com/example/gramstead/gramstead/estimation/RecordLayout", "bitsFor", "(I)I"⟩ : MethodName) (Jvm.Cond.code (⟨"com/example/gramstead/gramstead/estimation/RecordLayout", "bitsFor", "(I)I"⟩ : MethodName) prog_19_method_12_code 1 (some .int) :: ws) ({ frames := 1, cells := 0, slots := 0, locals := 20 } : Room) #[(.int (2 : Int32))] Z h0 (own_QB2 Z  h0 n0) := by
  refine MetFree.of_bodySF (plainFor_of_name own_pn1) hisR ?_
  intro p e s m args below meth c s₁ Bd hml0 hP hK
  obtain ⟨rfl, hZ, hh⟩ := hP
  have hx := Bd.exec
  have hby := Bd.bytes
  have hlk : meth.locks = false := BodyLoose.notSynchronized Bd
  have hml : c.maxLocals = 1 := hml0
  have hown : s.vm.findClass "com/example/gramstead/gramstead/estimation/RecordLayout" = some m.cls := findClass_of_methodNamed Bd.named
  have hnm := (name_of_methodNamed Bd.named Bd.method).1
  have X0 : Stand p l e ({ frames := 1, cells := 0, slots := 0, locals := 20 } : Room) s m #[(.int (2 : Int32))] below meth c s₁ [] 0 0 := Stand.of_body Bd
  have e0 : s₁.heap = h0 := by rw [← hh, Bd.state]; rfl
  have N0 := Fr.nil n0
  have KP : Keep h0 h0 [] := Keep.refl _ _
  refine own_start (Fin := (own_Fin s (own_QB2 Z  h0 n0) ({ frames := 1, cells := 0, slots := 0, locals := 20 } : Room).cells ({ frames := 1, cells := 0, slots := 0, locals := 20 } : Room).slots)) (own_from (mkF m 0 #[iv 2] []) (castTop (own_ef_B2 m (2 : Int32))) ?_)
  refine own_ic 1 1 X0 hx (hb hby own_d55) rfl rfl ?_
  refine own_bi 3 32 X0 hx (hb hby own_d56) rfl rfl ?_
  refine own_iln 4 X0 hx (hb hby own_d57) rfl rfl ?_
  obtain ⟨_, T9, Lc9, X9, hQ9, st9⟩ := own_callS X0 hx (y := (⟨"java/lang/Integer", "numberOfLeadingZeros", "(I)I"⟩ : MethodName)) hown (mvT hZ (own_w hw 18 rfl)) (mvT hZ (own_w hw 19 rfl)) (mvT hZ (own_w hw 20 rfl)) (mvT hZ (own_w hw 21 rfl)) (by decide) (backOf (W := 2) (own_rmN2 l Z a0 hw [] h0 n0 (Nat.le_trans Z0 KP.1) OL) hZ (own_w hw 21 rfl) (own_w hw 20 rfl) (by decide) (by decide)) (g := (mkF m 4 #[iv 2] [(.int (2 : Int32)), (.int (32 : Int32)), (.int (1 : Int32))])) rfl (by rw [hml]; rfl) (argsL := [(.int (2 : Int32))]) (rest := [(.int (32 : Int32)), (.int (1 : Int32))]) (lenOf own_pd0 rfl) rfl (by show 2 * 0 + _ ≤ _; exact Nat.le_of_eq rfl) (hb hby own_d58) rfl e0 (kc := 0) (ks := 0) rfl rfl (by decide) (by decide)
  obtain ⟨rfl, N9q, e9⟩ := hQ9
  have N9 := Fr.app N0 N9q
  refine own_to (mkF m 7 #[iv 2] [(.int (30 : Int32)), (.int (32 : Int32)), (.int (1 : Int32))]) st9 ?_
  refine own_isub 8 X9 hx (hb hby own_d59) (z := (2 : Int32)) rfl rfl ?_
  obtain ⟨_, T10, Lc10, X10, hQ10, st10⟩ := own_callS X9 hx (y := (⟨"java/lang/Math", "max", "(II)I"⟩ : MethodName)) hown (mvT hZ (own_w hw 23 rfl)) (mvT hZ (own_w hw 24 rfl)) (mvT hZ (own_w hw 25 rfl)) (mvT hZ (own_w hw 26 rfl)) (by decide) (backOf (W := 0) (own_rmM l Z a0 hw [] (1 : Int32) (2 : Int32) h0 n0 (Nat.le_trans Z0 KP.1) OL) hZ (own_w hw 26 rfl) (own_w hw 25 rfl) (by decide) (by decide)) (g := (mkF m 8 #[iv 2] [(.int (2 : Int32)), (.int (1 : Int32))])) rfl (by rw [hml]; rfl) (argsL := [(.int (1 : Int32)), (.int (2 : Int32))]) (rest := []) (lenOf own_pd1 rfl) rfl (by show 2 * 0 + _ ≤ _; exact Nat.le_of_eq rfl) (hb hby own_d60) rfl e9 (kc := 0) (ks := 0) rfl rfl (by decide) (by decide)
  obtain ⟨r10, rfl, hr10, N10q, e10⟩ := hQ10
  have N10 := Fr.app N9 N10q
  refine own_to (mkF m 11 #[iv 2] [(.int r10)]) st10 ?_
  have hr : r10 = (2 : Int32) := by rw [hr10]; decide
  subst hr
  exact own_retI X10 hx Bd.returns hlk (hb hby own_d61) (by decide) (by decide) (by rw [e10]; exact ⟨rfl, N10, rfl⟩)
def own_QB3 (Z : State)  (h0 : Heap) (n0 : Nat) (v : Option Value) (h : Heap) (L : List Loc) : Prop := v = some (.int (2 : Int32)) ∧ Fr n0 L ∧ h = h0
set_option maxRecDepth 65536 in
set_option maxHeartbeats 40000000 in
theorem own_rmB3 (l : Launch) (Z : State) (a0 : Array Value) (hw : ∀ d ∈ tables_1, d.before a0 Z = true) (ws : List Jvm.Cond)  (h0 : Heap) (n0 : Nat) (Z0 : n0 ≤ h0.size) (OL : Old Z n0 h0)  :
    own_MF l (⟨"com/example/gramstead/gramstead/estimation/RecordLayout", "bitsFor", "(I)I"⟩ : MethodName) (Jvm.Cond.code (⟨"com/example/gramstead/gramstead/estimation/RecordLayout", "bitsFor", "(I)I"⟩ : MethodName) prog_19_method_12_code 1 (some .int) :: ws) ({ frames := 1, cells := 0, slots := 0, locals := 20 } : Room) #[(.int (3 : Int32))] Z h0 (own_QB3 Z  h0 n0) := by
  refine MetFree.of_bodySF (plainFor_of_name own_pn1) hisR ?_
  intro p e s m args below meth c s₁ Bd hml0 hP hK
  obtain ⟨rfl, hZ, hh⟩ := hP
  have hx := Bd.exec
  have hby := Bd.bytes
  have hlk : meth.locks = false := BodyLoose.notSynchronized Bd
  have hml : c.maxLocals = 1 := hml0
  have hown : s.vm.findClass "com/example/gramstead/gramstead/estimation/RecordLayout" = some m.cls := findClass_of_methodNamed Bd.named
  have hnm := (name_of_methodNamed Bd.named Bd.method).1
  have X0 : Stand p l e ({ frames := 1, cells := 0, slots := 0, locals := 20 } : Room) s m #[(.int (3 : Int32))] below meth c s₁ [] 0 0 := Stand.of_body Bd
  have e0 : s₁.heap = h0 := by rw [← hh, Bd.state]; rfl
  have N0 := Fr.nil n0
  have KP : Keep h0 h0 [] := Keep.refl _ _
  refine own_start (Fin := (own_Fin s (own_QB3 Z  h0 n0) ({ frames := 1, cells := 0, slots := 0, locals := 20 } : Room).cells ({ frames := 1, cells := 0, slots := 0, locals := 20 } : Room).slots)) (own_from (mkF m 0 #[iv 3] []) (castTop (own_ef_B3 m (3 : Int32))) ?_)
  refine own_ic 1 1 X0 hx (hb hby own_d55) rfl rfl ?_
  refine own_bi 3 32 X0 hx (hb hby own_d56) rfl rfl ?_
  refine own_iln 4 X0 hx (hb hby own_d57) rfl rfl ?_
  obtain ⟨_, T11, Lc11, X11, hQ11, st11⟩ := own_callS X0 hx (y := (⟨"java/lang/Integer", "numberOfLeadingZeros", "(I)I"⟩ : MethodName)) hown (mvT hZ (own_w hw 18 rfl)) (mvT hZ (own_w hw 19 rfl)) (mvT hZ (own_w hw 20 rfl)) (mvT hZ (own_w hw 21 rfl)) (by decide) (backOf (W := 2) (own_rmN3 l Z a0 hw [] h0 n0 (Nat.le_trans Z0 KP.1) OL) hZ (own_w hw 21 rfl) (own_w hw 20 rfl) (by decide) (by decide)) (g := (mkF m 4 #[iv 3] [(.int (3 : Int32)), (.int (32 : Int32)), (.int (1 : Int32))])) rfl (by rw [hml]; rfl) (argsL := [(.int (3 : Int32))]) (rest := [(.int (32 : Int32)), (.int (1 : Int32))]) (lenOf own_pd0 rfl) rfl (by show 2 * 0 + _ ≤ _; exact Nat.le_of_eq rfl) (hb hby own_d58) rfl e0 (kc := 0) (ks := 0) rfl rfl (by decide) (by decide)
  obtain ⟨rfl, N11q, e11⟩ := hQ11
  have N11 := Fr.app N0 N11q
  refine own_to (mkF m 7 #[iv 3] [(.int (30 : Int32)), (.int (32 : Int32)), (.int (1 : Int32))]) st11 ?_
  refine own_isub 8 X11 hx (hb hby own_d59) (z := (2 : Int32)) rfl rfl ?_
  obtain ⟨_, T12, Lc12, X12, hQ12, st12⟩ := own_callS X11 hx (y := (⟨"java/lang/Math", "max", "(II)I"⟩ : MethodName)) hown (mvT hZ (own_w hw 23 rfl)) (mvT hZ (own_w hw 24 rfl)) (mvT hZ (own_w hw 25 rfl)) (mvT hZ (own_w hw 26 rfl)) (by decide) (backOf (W := 0) (own_rmM l Z a0 hw [] (1 : Int32) (2 : Int32) h0 n0 (Nat.le_trans Z0 KP.1) OL) hZ (own_w hw 26 rfl) (own_w hw 25 rfl) (by decide) (by decide)) (g := (mkF m 8 #[iv 3] [(.int (2 : Int32)), (.int (1 : Int32))])) rfl (by rw [hml]; rfl) (argsL := [(.int (1 : Int32)), (.int (2 : Int32))]) (rest := []) (lenOf own_pd1 rfl) rfl (by show 2 * 0 + _ ≤ _; exact Nat.le_of_eq rfl) (hb hby own_d60) rfl e11 (kc := 0) (ks := 0) rfl rfl (by decide) (by decide)
  obtain ⟨r12, rfl, hr12, N12q, e12⟩ := hQ12
  have N12 := Fr.app N11 N12q
  refine own_to (mkF m 11 #[iv 3] [(.int r12)]) st12 ?_
  have hr : r12 = (2 : Int32) := by rw [hr12]; decide
  subst hr
  exact own_retI X12 hx Bd.returns hlk (hb hby own_d61) (by decide) (by decide) (by rw [e12]; exact ⟨rfl, N12, rfl⟩)
def own_QB4 (Z : State)  (h0 : Heap) (n0 : Nat) (v : Option Value) (h : Heap) (L : List Loc) : Prop := v = some (.int (3 : Int32)) ∧ Fr n0 L ∧ h = h0
set_option maxRecDepth 65536 in
set_option maxHeartbeats 40000000 in
theorem own_rmB4 (l : Launch) (Z : State) (a0 : Array Value) (hw : ∀ d ∈ tables_1, d.before a0 Z = true) (ws : List Jvm.Cond)  (h0 : Heap) (n0 : Nat) (Z0 : n0 ≤ h0.size) (OL : Old Z n0 h0)  :
    own_MF l (⟨"com/example/gramstead/gramstead/estimation/RecordLayout", "bitsFor", "(I)I"⟩ : MethodName) (Jvm.Cond.code (⟨"com/example/gramstead/gramstead/estimation/RecordLayout", "bitsFor", "(I)I"⟩ : MethodName) prog_19_method_12_code 1 (some .int) :: ws) ({ frames := 1, cells := 0, slots := 0, locals := 20 } : Room) #[(.int (4 : Int32))] Z h0 (own_QB4 Z  h0 n0) := by
  refine MetFree.of_bodySF (plainFor_of_name own_pn1) hisR ?_
  intro p e s m args below meth c s₁ Bd hml0 hP hK
  obtain ⟨rfl, hZ, hh⟩ := hP
  have hx := Bd.exec
  have hby := Bd.bytes
  have hlk : meth.locks = false := BodyLoose.notSynchronized Bd
  have hml : c.maxLocals = 1 := hml0
  have hown : s.vm.findClass "com/example/gramstead/gramstead/estimation/RecordLayout" = some m.cls := findClass_of_methodNamed Bd.named
  have hnm := (name_of_methodNamed Bd.named Bd.method).1
  have X0 : Stand p l e ({ frames := 1, cells := 0, slots := 0, locals := 20 } : Room) s m #[(.int (4 : Int32))] below meth c s₁ [] 0 0 := Stand.of_body Bd
  have e0 : s₁.heap = h0 := by rw [← hh, Bd.state]; rfl
  have N0 := Fr.nil n0
  have KP : Keep h0 h0 [] := Keep.refl _ _
  refine own_start (Fin := (own_Fin s (own_QB4 Z  h0 n0) ({ frames := 1, cells := 0, slots := 0, locals := 20 } : Room).cells ({ frames := 1, cells := 0, slots := 0, locals := 20 } : Room).slots)) (own_from (mkF m 0 #[iv 4] []) (castTop (own_ef_B4 m (4 : Int32))) ?_)
  refine own_ic 1 1 X0 hx (hb hby own_d55) rfl rfl ?_
  refine own_bi 3 32 X0 hx (hb hby own_d56) rfl rfl ?_
  refine own_iln 4 X0 hx (hb hby own_d57) rfl rfl ?_
  obtain ⟨_, T13, Lc13, X13, hQ13, st13⟩ := own_callS X0 hx (y := (⟨"java/lang/Integer", "numberOfLeadingZeros", "(I)I"⟩ : MethodName)) hown (mvT hZ (own_w hw 18 rfl)) (mvT hZ (own_w hw 19 rfl)) (mvT hZ (own_w hw 20 rfl)) (mvT hZ (own_w hw 21 rfl)) (by decide) (backOf (W := 2) (own_rmN4 l Z a0 hw [] h0 n0 (Nat.le_trans Z0 KP.1) OL) hZ (own_w hw 21 rfl) (own_w hw 20 rfl) (by decide) (by decide)) (g := (mkF m 4 #[iv 4] [(.int (4 : Int32)), (.int (32 : Int32)), (.int (1 : Int32))])) rfl (by rw [hml]; rfl) (argsL := [(.int (4 : Int32))]) (rest := [(.int (32 : Int32)), (.int (1 : Int32))]) (lenOf own_pd0 rfl) rfl (by show 2 * 0 + _ ≤ _; exact Nat.le_of_eq rfl) (hb hby own_d58) rfl e0 (kc := 0) (ks := 0) rfl rfl (by decide) (by decide)
  obtain ⟨rfl, N13q, e13⟩ := hQ13
  have N13 := Fr.app N0 N13q
  refine own_to (mkF m 7 #[iv 4] [(.int (29 : Int32)), (.int (32 : Int32)), (.int (1 : Int32))]) st13 ?_
  refine own_isub 8 X13 hx (hb hby own_d59) (z := (3 : Int32)) rfl rfl ?_
  obtain ⟨_, T14, Lc14, X14, hQ14, st14⟩ := own_callS X13 hx (y := (⟨"java/lang/Math", "max", "(II)I"⟩ : MethodName)) hown (mvT hZ (own_w hw 23 rfl)) (mvT hZ (own_w hw 24 rfl)) (mvT hZ (own_w hw 25 rfl)) (mvT hZ (own_w hw 26 rfl)) (by decide) (backOf (W := 0) (own_rmM l Z a0 hw [] (1 : Int32) (3 : Int32) h0 n0 (Nat.le_trans Z0 KP.1) OL) hZ (own_w hw 26 rfl) (own_w hw 25 rfl) (by decide) (by decide)) (g := (mkF m 8 #[iv 4] [(.int (3 : Int32)), (.int (1 : Int32))])) rfl (by rw [hml]; rfl) (argsL := [(.int (1 : Int32)), (.int (3 : Int32))]) (rest := []) (lenOf own_pd1 rfl) rfl (by show 2 * 0 + _ ≤ _; exact Nat.le_of_eq rfl) (hb hby own_d60) rfl e13 (kc := 0) (ks := 0) rfl rfl (by decide) (by decide)
  obtain ⟨r14, rfl, hr14, N14q, e14⟩ := hQ14
  have N14 := Fr.app N13 N14q
  refine own_to (mkF m 11 #[iv 4] [(.int r14)]) st14 ?_
  have hr : r14 = (3 : Int32) := by rw [hr14]; decide
  subst hr
  exact own_retI X14 hx Bd.returns hlk (hb hby own_d61) (by decide) (by decide) (by rw [e14]; exact ⟨rfl, N14, rfl⟩)
def own_QCC (Z : State) (a aC aS : Addr) (mo wd pl : Int32) (h0 : Heap) (n0 : Nat) (v : Option Value) (h : Heap) (L : List Loc) : Prop := v = none ∧ Fr n0 L ∧ Keep h0 h [a] ∧ Exa Z h a "com/example/gramstead/gramstead/estimation/RecordLayout" ∧ ∃ kl : Int32, 1 ≤ kl.toInt ∧ kl.toInt ≤ 4 ∧ Fld Z h a "com/example/gramstead/gramstead/estimation/RecordLayout" "keyLongs" "I" (.int kl) ∧ Fld Z h a "com/example/gramstead/gramstead/estimation/RecordLayout" "width" "I" (.int (kl + pl))
set_option maxRecDepth 65536 in
set_option maxHeartbeats 40000000 in
theorem own_rmCC (l : Launch) (Z : State) (a0 : Array Value) (hw : ∀ d ∈ tables_1, d.before a0 Z = true) (ws : List Jvm.Cond) (a aC aS : Addr) (mo wd pl : Int32) (h0 : Heap) (n0 : Nat) (Z0 : n0 ≤ h0.size) (OL : Old Z n0 h0) (SC : Sta Z Z.heap "com/example/gramstead/gramstead/estimation/RecordOrder" "CONTEXT" "Lcom/example/gramstead/gramstead/estimation/RecordOrder;" (.ref aC)) (ne_aS_aC : aS ≠ aC) (hmo : mo = 1 ∨ mo = 2 ∨ mo = 3 ∨ mo = 4) (hwd : 0 ≤ wd.toInt) (ge_a : n0 ≤ a) (E_a : Exa Z h0 a "com/example/gramstead/gramstead/estimation/RecordLayout") (F_order_a : Fld Z h0 a "com/example/gramstead/gramstead/estimation/RecordLayout" "order" "Lcom/example/gramstead/gramstead/estimation/RecordOrder;" .null) (F_wordMask_a : Fld Z h0 a "com/example/gramstead/gramstead/estimation/RecordLayout" "wordMask" "J" (.long (0 : Int64))) (F_slotLongs_a : Fld Z h0 a "com/example/gramstead/gramstead/estimation/RecordLayout" "slotLongs" "[I" .null) (F_slotShifts_a : Fld Z h0 a "com/example/gramstead/gramstead/estimation/RecordLayout" "slotShifts" "[I" .null) (F_orderMask_a : Fld Z h0 a "com/example/gramstead/gramstead/estimation/RecordLayout" "orderMask" "J" (.long (0 : Int64))) (F_orderShift_a : Fld Z h0 a "com/example/gramstead/gramstead/estimation/RecordLayout" "orderShift" "I" (.int (0 : Int32))) (F_keyLongs_a : Fld Z h0 a "com/example/gramstead/gramstead/estimation/RecordLayout" "keyLongs" "I" (.int (0 : Int32))) (F_width_a : Fld Z h0 a "com/example/gramstead/gramstead/estimation/RecordLayout" "width" "I" (.int (0 : Int32))) :
    own_MF l (⟨"com/example/gramstead/gramstead/estimation/RecordLayout", "<init>", "(Lcom/example/gramstead/gramstead/estimation/RecordOrder;III)V"⟩ : MethodName) (Jvm.Cond.code (⟨"com/example/gramstead/gramstead/estimation/RecordLayout", "<init>", "(Lcom/example/gramstead/gramstead/estimation/RecordOrder;III)V"⟩ : MethodName) prog_19_method_1_code 9 none :: ws) ({ frames := 2, cells := 2, slots := 8, locals := 40 } : Room) #[(.ref a), (.ref aC), (.int mo), (.int wd), (.int pl)] Z h0 (own_QCC Z a aC aS mo wd pl h0 n0) := by
  refine MetFree.of_bodySF (plainFor_of_name own_pn1) hisR ?_
  intro p e s m args below meth c s₁ Bd hml0 hP hK
  obtain ⟨rfl, hZ, hh⟩ := hP
  have hx := Bd.exec
  have hby := Bd.bytes
  have hlk : meth.locks = false := BodyLoose.notSynchronized Bd
  have hml : c.maxLocals = 9 := hml0
  have hown : s.vm.findClass "com/example/gramstead/gramstead/estimation/RecordLayout" = some m.cls := findClass_of_methodNamed Bd.named
  have hnm := (name_of_methodNamed Bd.named Bd.method).1
  have X0 : Stand p l e ({ frames := 2, cells := 2, slots := 8, locals := 40 } : Room) s m #[(.ref a), (.ref aC), (.int mo), (.int wd), (.int pl)] below meth c s₁ [] 0 0 := Stand.of_body Bd
  have e0 : s₁.heap = h0 := by rw [← hh, Bd.state]; rfl
  have N0 := Fr.nil n0
  have KP : Keep h0 h0 [a] := Keep.refl _ _
  refine own_start (Fin := (own_Fin s (own_QCC Z a aC aS mo wd pl h0 n0) ({ frames := 2, cells := 2, slots := 8, locals := 40 } : Room).cells ({ frames := 2, cells := 2, slots := 8, locals := 40 } : Room).slots)) (own_from (mkF m 0 #[rv a, rv aC, iv mo, iv wd, iv pl, .unset, .unset, .unset, .unset] []) (castTop (own_ef_CC m a aC mo wd pl)) ?_)
  rcases hmo with q | q | q | q
  · subst q
    refine own_aln 1 X0 hx (hb hby own_d62) rfl rfl rfl ?_
    obtain ⟨T15, X15, e15, st15⟩ := initO X0 hx hZ hown (own_w hw 10 rfl) (own_w hw 11 rfl) (own_w hw 12 rfl) e0 (g := (mkF m 1 #[rv a, rv aC, iv 1, iv wd, iv pl, .unset, .unset, .unset, .unset] [(.ref a)])) rfl (by rw [hml]; rfl) rfl (hb hby own_d63) (by decide) (W := 0) (by show 2 * 0 + _ ≤ _; exact Nat.le_of_eq rfl) (by decide)
    refine own_to (mkF m 4 #[rv a, rv aC, iv 1, iv wd, iv pl, .unset, .unset, .unset, .unset] []) st15 ?_
    refine own_aln 5 X15 hx (hb hby own_d64) rfl rfl rfl ?_
    refine own_aln 6 X15 hx (hb hby own_d65) rfl rfl rfl ?_
    obtain ⟨T16, h16, X16, e16, W16, st16⟩ := putF X15 hx hZ hown (host := "") (Or.inl (own_w hw 13 rfl)) Via.refl e15 F_order_a E_a (Or.inr ⟨(own_w hw 14 rfl), rfl, hnm⟩) (own_w hw 4 rfl) (ty := (.object "com/example/gramstead/gramstead/estimation/RecordOrder")) (by decide) rfl rfl (g := (mkF m 6 #[rv a, rv aC, iv 1, iv wd, iv pl, .unset, .unset, .unset, .unset] [(.ref aC), (.ref a)])) rfl rfl (hb hby own_d66)
    refine own_to (mkF m 9 #[rv a, rv aC, iv 1, iv wd, iv pl, .unset, .unset, .unset, .unset] []) st16 ?_
    have N16 := Fr.snoc X16 N0 ge_a
    have tmp16 : Fld Z h16 a "com/example/gramstead/gramstead/estimation/RecordLayout" "order" "Lcom/example/gramstead/gramstead/estimation/RecordOrder;" (.ref aC) := F_order_a.same W16
    have OL := OL.wr W16 ge_a
    have KP := KP.wr W16 (Or.inl (List.mem_of_getElem? (i := 0) rfl))
    have E_a := E_a.wr W16
    have F_wordMask_a := F_wordMask_a.other W16 (Or.inr (slot_ne (Or.inr (own_w hw 28 rfl)) (Or.inr (own_w hw 14 rfl)) (by decide) (t := .long) (t' := (.object "com/example/gramstead/gramstead/estimation/RecordOrder")) (by decide) (by decide)))
    have F_slotLongs_a := F_slotLongs_a.other W16 (Or.inr (slot_ne (Or.inr (own_w hw 31 rfl)) (Or.inr (own_w hw 14 rfl)) (by decide) (t := (.array .int)) (t' := (.object "com/example/gramstead/gramstead/estimation/RecordOrder")) (by decide) (by decide)))
    have F_slotShifts_a := F_slotShifts_a.other W16 (Or.inr (slot_ne (Or.inr (own_w hw 33 rfl)) (Or.inr (own_w hw 14 rfl)) (by decide) (t := (.array .int)) (t' := (.object "com/example/gramstead/gramstead/estimation/RecordOrder")) (by decide) (by decide)))
    have F_orderMask_a := F_orderMask_a.other W16 (Or.inr (slot_ne (Or.inr (own_w hw 37 rfl)) (Or.inr (own_w hw 14 rfl)) (by decide) (t := .long) (t' := (.object "com/example/gramstead/gramstead/estimation/RecordOrder")) (by decide) (by decide)))
    have F_orderShift_a := F_orderShift_a.other W16 (Or.inr (slot_ne (Or.inr (own_w hw 39 rfl)) (Or.inr (own_w hw 14 rfl)) (by decide) (t := .int) (t' := (.object "com/example/gramstead/gramstead/estimation/RecordOrder")) (by decide) (by decide)))
    have F_keyLongs_a := F_keyLongs_a.other W16 (Or.inr (slot_ne (Or.inr (own_w hw 41 rfl)) (Or.inr (own_w hw 14 rfl)) (by decide) (t := .int) (t' := (.object "com/example/gramstead/gramstead/estimation/RecordOrder")) (by decide) (by decide)))
    have F_width_a := F_width_a.other W16 (Or.inr (slot_ne (Or.inr (own_w hw 43 rfl)) (Or.inr (own_w hw 14 rfl)) (by decide) (t := .int) (t' := (.object "com/example/gramstead/gramstead/estimation/RecordOrder")) (by decide) (by decide)))
    have F_order_a := tmp16
    refine own_iln 10 X16 hx (hb hby own_d67) rfl rfl ?_
    obtain ⟨_, T17, Lc17, X17, hQ17, st17⟩ := own_callS X16 hx (y := (⟨"com/example/gramstead/gramstead/estimation/RecordLayout", "bitsFor", "(I)I"⟩ : MethodName)) hown (mvT hZ (own_w hw 15 rfl)) (mvT hZ (own_w hw 16 rfl)) (mvT hZ (own_w hw 5 rfl)) (mvT hZ (own_w hw 17 rfl)) (by decide) (backOf (W := 0) (own_rmB l Z a0 hw [] wd h16 n0 (Nat.le_trans Z0 KP.1) OL hwd) hZ (own_w hw 17 rfl) (own_w hw 5 rfl) (by decide) (by decide)) (g := (mkF m 10 #[rv a, rv aC, iv 1, iv wd, iv pl, .unset, .unset, .unset, .unset] [(.int wd)])) rfl (by rw [hml]; rfl) (argsL := [(.int wd)]) (rest := []) (lenOf own_pd0 rfl) rfl (by show 2 * 0 + _ ≤ _; exact Nat.le_of_eq rfl) (hb hby own_d68) rfl e16 (kc := 0) (ks := 0) rfl rfl (by decide) (by decide)
    obtain ⟨wb, rfl, hb1, hb2, N17q, e17⟩ := hQ17
    have N17 := Fr.app N16 N17q
    refine own_to (mkF m 13 #[rv a, rv aC, iv 1, iv wd, iv pl, .unset, .unset, .unset, .unset] [(.int wb)]) st17 ?_
    refine own_is 15 #[rv a, rv aC, iv 1, iv wd, iv pl, iv wb, .unset, .unset, .unset] X17 hx (hb hby own_d69) rfl rfl ?_
    refine own_aln 16 X17 hx (hb hby own_d70) rfl rfl rfl ?_
    refine own_to (T' := T17) (mkF m 17 #[rv a, rv aC, iv 1, iv wd, iv pl, iv wb, .unset, .unset, .unset] [(.long (1 : Int64)), (.ref a)]) (fun _ k => XS.lconst X17.here hx rfl (hb hby own_d71) k) ?_
    refine own_il 19 X17 hx (hb hby own_d72) rfl rfl ?_
    refine own_to (T' := T17) (mkF m 20 #[rv a, rv aC, iv 1, iv wd, iv pl, iv wb, .unset, .unset, .unset] [(.long ((1 : Int64) <<< (wb &&& 0x3f).toInt64)), (.ref a)]) (fun _ k => XS.lshl X17.here hx rfl (hb hby own_d73) rfl k) ?_
    refine own_to (T' := T17) (mkF m 21 #[rv a, rv aC, iv 1, iv wd, iv pl, iv wb, .unset, .unset, .unset] [(.long (1 : Int64)), (.long ((1 : Int64) <<< (wb &&& 0x3f).toInt64)), (.ref a)]) (fun _ k => XS.lconst X17.here hx rfl (hb hby own_d74) k) ?_
    refine own_to (T' := T17) (mkF m 22 #[rv a, rv aC, iv 1, iv wd, iv pl, iv wb, .unset, .unset, .unset] [(.long (((1 : Int64) <<< (wb &&& 0x3f).toInt64) - (1 : Int64))), (.ref a)]) (fun _ k => XS.lsub X17.here hx rfl (hb hby own_d75) rfl k) ?_
    obtain ⟨T18, h18, X18, e18, W18, st18⟩ := putF X17 hx hZ hown (host := "") (Or.inl (own_w hw 27 rfl)) Via.refl e17 F_wordMask_a E_a (Or.inr ⟨(own_w hw 28 rfl), rfl, hnm⟩) (own_w hw 4 rfl) (ty := .long) (by decide) rfl rfl (g := (mkF m 22 #[rv a, rv aC, iv 1, iv wd, iv pl, iv wb, .unset, .unset, .unset] [(.long (((1 : Int64) <<< (wb &&& 0x3f).toInt64) - (1 : Int64))), (.ref a)])) rfl rfl (hb hby own_d76)
    refine own_to (mkF m 25 #[rv a, rv aC, iv 1, iv wd, iv pl, iv wb, .unset, .unset, .unset] []) st18 ?_
    have N18 := Fr.snoc X18 N17 ge_a
    have tmp18 : Fld Z h18 a "com/example/gramstead/gramstead/estimation/RecordLayout" "wordMask" "J" (.long (((1 : Int64) <<< (wb &&& 0x3f).toInt64) - (1 : Int64))) := F_wordMask_a.same W18
    have OL := OL.wr W18 ge_a
    have KP := KP.wr W18 (Or.inl (List.mem_of_getElem? (i := 0) rfl))
    have E_a := E_a.wr W18
    have F_slotLongs_a := F_slotLongs_a.other W18 (Or.inr (slot_ne (Or.inr (own_w hw 31 rfl)) (Or.inr (own_w hw 28 rfl)) (by decide) (t := (.array .int)) (t' := .long) (by decide) (by decide)))
    have F_slotShifts_a := F_slotShifts_a.other W18 (Or.inr (slot_ne (Or.inr (own_w hw 33 rfl)) (Or.inr (own_w hw 28 rfl)) (by decide) (t := (.array .int)) (t' := .long) (by decide) (by decide)))
    have F_orderMask_a := F_orderMask_a.other W18 (Or.inr (slot_ne (Or.inr (own_w hw 37 rfl)) (Or.inr (own_w hw 28 rfl)) (by decide) (t := .long) (t' := .long) (by decide) (by decide)))
    have F_orderShift_a := F_orderShift_a.other W18 (Or.inr (slot_ne (Or.inr (own_w hw 39 rfl)) (Or.inr (own_w hw 28 rfl)) (by decide) (t := .int) (t' := .long) (by decide) (by decide)))
    have F_keyLongs_a := F_keyLongs_a.other W18 (Or.inr (slot_ne (Or.inr (own_w hw 41 rfl)) (Or.inr (own_w hw 28 rfl)) (by decide) (t := .int) (t' := .long) (by decide) (by decide)))
    have F_width_a := F_width_a.other W18 (Or.inr (slot_ne (Or.inr (own_w hw 43 rfl)) (Or.inr (own_w hw 28 rfl)) (by decide) (t := .int) (t' := .long) (by decide) (by decide)))
    have F_wordMask_a := tmp18
    refine own_aln 26 X18 hx (hb hby own_d77) rfl rfl rfl ?_
    refine own_iln 27 X18 hx (hb hby own_d78) rfl rfl ?_
    obtain ⟨T19, h19, k19, X19, e19, E19, A19, B19, st19⟩ := newPE X18 hx hZ (own_w hw 29 rfl) e18 (g := (mkF m 27 #[rv a, rv aC, iv 1, iv wd, iv pl, iv wb, .unset, .unset, .unset] [(.int (1 : Int32)), (.ref a)])) rfl (hb hby own_d79) rfl (by decide) (cap := 1) (by decide) (by decide) (by decide) (by decide) (ad := "[I") (by decide)
    obtain ⟨b19, g19⟩ : ∃ z, z = h18.size := ⟨_, rfl⟩
    rw [← g19] at A19 B19 st19
    have sz_b19 : h0.size ≤ b19 := Nat.le_trans KP.1 (Nat.le_of_eq g19.symm)
    have ge_b19 : n0 ≤ b19 := Nat.le_trans Z0 sz_b19
    have ne_a_b19 : a ≠ b19 := Nat.ne_of_lt (Nat.lt_of_lt_of_le E_a.lt (Nat.le_of_eq g19.symm))
    have OL := OL.ext E19
    have KP := KP.ext E19
    have E_a := E_a.ext E19
    have F_slotLongs_a := F_slotLongs_a.ext E19
    have F_slotShifts_a := F_slotShifts_a.ext E19
    have F_orderMask_a := F_orderMask_a.ext E19
    have F_orderShift_a := F_orderShift_a.ext E19
    have F_keyLongs_a := F_keyLongs_a.ext E19
    have F_width_a := F_width_a.ext E19
    have V_b19 : Arv Z h19 b19 k19 .int (1 : Int32) [(.int (0 : Int32))] (.int (0 : Int32)) := (Arv.new A19 (by decide)).pad (pad_rep [] (.int (0 : Int32)) 1)
    refine own_to (mkF m 29 #[rv a, rv aC, iv 1, iv wd, iv pl, iv wb, .unset, .unset, .unset] [(.ref b19), (.ref a)]) st19 ?_
    obtain ⟨T20, h20, X20, e20, W20, st20⟩ := putF X19 hx hZ hown (host := "") (Or.inl (own_w hw 30 rfl)) Via.refl e19 F_slotLongs_a E_a (Or.inr ⟨(own_w hw 31 rfl), rfl, hnm⟩) (own_w hw 4 rfl) (ty := (.array .int)) (by decide) rfl rfl (g := (mkF m 29 #[rv a, rv aC, iv 1, iv wd, iv pl, iv wb, .unset, .unset, .unset] [(.ref b19), (.ref a)])) rfl rfl (hb hby own_d80)
    refine own_to (mkF m 32 #[rv a, rv aC, iv 1, iv wd, iv pl, iv wb, .unset, .unset, .unset] []) st20 ?_
    have N20 := Fr.snoc X20 N18 ge_a
    have tmp20 : Fld Z h20 a "com/example/gramstead/gramstead/estimation/RecordLayout" "slotLongs" "[I" (.ref b19) := F_slotLongs_a.same W20
    have OL := OL.wr W20 ge_a
    have KP := KP.wr W20 (Or.inl (List.mem_of_getElem? (i := 0) rfl))
    have E_a := E_a.wr W20
    have F_slotShifts_a := F_slotShifts_a.other W20 (Or.inr (slot_ne (Or.inr (own_w hw 33 rfl)) (Or.inr (own_w hw 31 rfl)) (by decide) (t := (.array .int)) (t' := (.array .int)) (by decide) (by decide)))
    have F_orderMask_a := F_orderMask_a.other W20 (Or.inr (slot_ne (Or.inr (own_w hw 37 rfl)) (Or.inr (own_w hw 31 rfl)) (by decide) (t := .long) (t' := (.array .int)) (by decide) (by decide)))
    have F_orderShift_a := F_orderShift_a.other W20 (Or.inr (slot_ne (Or.inr (own_w hw 39 rfl)) (Or.inr (own_w hw 31 rfl)) (by decide) (t := .int) (t' := (.array .int)) (by decide) (by decide)))
    have F_keyLongs_a := F_keyLongs_a.other W20 (Or.inr (slot_ne (Or.inr (own_w hw 41 rfl)) (Or.inr (own_w hw 31 rfl)) (by decide) (t := .int) (t' := (.array .int)) (by decide) (by decide)))
    have F_width_a := F_width_a.other W20 (Or.inr (slot_ne (Or.inr (own_w hw 43 rfl)) (Or.inr (own_w hw 31 rfl)) (by decide) (t := .int) (t' := (.array .int)) (by decide) (by decide)))
    have V_b19 := V_b19.other W20 (Ne.symm ne_a_b19)
    have F_slotLongs_a := tmp20
    refine own_aln 33 X20 hx (hb hby own_d81) rfl rfl rfl ?_
    refine own_iln 34 X20 hx (hb hby own_d82) rfl rfl ?_
    obtain ⟨T21, h21, k21, X21, e21, E21, A21, B21, st21⟩ := newPE X20 hx hZ (own_w hw 29 rfl) e20 (g := (mkF m 34 #[rv a, rv aC, iv 1, iv wd, iv pl, iv wb, .unset, .unset, .unset] [(.int (1 : Int32)), (.ref a)])) rfl (hb hby own_d83) rfl (by decide) (cap := 1) (by decide) (by decide) (by decide) (by decide) (ad := "[I") (by decide)
    obtain ⟨b21, g21⟩ : ∃ z, z = h20.size := ⟨_, rfl⟩
    rw [← g21] at A21 B21 st21
    have sz_b21 : h0.size ≤ b21 := Nat.le_trans KP.1 (Nat.le_of_eq g21.symm)
    have ge_b21 : n0 ≤ b21 := Nat.le_trans Z0 sz_b21
    have ne_a_b21 : a ≠ b21 := Nat.ne_of_lt (Nat.lt_of_lt_of_le E_a.lt (Nat.le_of_eq g21.symm))
    have ne_b19_b21 : b19 ≠ b21 := Nat.ne_of_lt (Nat.lt_of_lt_of_le V_b19.lt (Nat.le_of_eq g21.symm))
    have OL := OL.ext E21
    have KP := KP.ext E21
    have E_a := E_a.ext E21
    have F_slotLongs_a := F_slotLongs_a.ext E21
    have F_slotShifts_a := F_slotShifts_a.ext E21
    have F_orderMask_a := F_orderMask_a.ext E21
    have F_orderShift_a := F_orderShift_a.ext E21
    have F_keyLongs_a := F_keyLongs_a.ext E21
    have F_width_a := F_width_a.ext E21
    have V_b19 := V_b19.ext E21
    have V_b21 : Arv Z h21 b21 k21 .int (1 : Int32) [(.int (0 : Int32))] (.int (0 : Int32)) := (Arv.new A21 (by decide)).pad (pad_rep [] (.int (0 : Int32)) 1)
    refine own_to (mkF m 36 #[rv a, rv aC, iv 1, iv wd, iv pl, iv wb, .unset, .unset, .unset] [(.ref b21), (.ref a)]) st21 ?_
    obtain ⟨T22, h22, X22, e22, W22, st22⟩ := putF X21 hx hZ hown (host := "") (Or.inl (own_w hw 32 rfl)) Via.refl e21 F_slotShifts_a E_a (Or.inr ⟨(own_w hw 33 rfl), rfl, hnm⟩) (own_w hw 4 rfl) (ty := (.array .int)) (by decide) rfl rfl (g := (mkF m 36 #[rv a, rv aC, iv 1, iv wd, iv pl, iv wb, .unset, .unset, .unset] [(.ref b21), (.ref a)])) rfl rfl (hb hby own_d84)
    refine own_to (mkF m 39 #[rv a, rv aC, iv 1, iv wd, iv pl, iv wb, .unset, .unset, .unset] []) st22 ?_
    have N22 := Fr.snoc X22 N20 ge_a
    have tmp22 : Fld Z h22 a "com/example/gramstead/gramstead/estimation/RecordLayout" "slotShifts" "[I" (.ref b21) := F_slotShifts_a.same W22
    have OL := OL.wr W22 ge_a
    have KP := KP.wr W22 (Or.inl (List.mem_of_getElem? (i := 0) rfl))
    have E_a := E_a.wr W22
    have F_slotLongs_a := F_slotLongs_a.other W22 (Or.inr (slot_ne (Or.inr (own_w hw 31 rfl)) (Or.inr (own_w hw 33 rfl)) (by decide) (t := (.array .int)) (t' := (.array .int)) (by decide) (by decide)))
    have F_orderMask_a := F_orderMask_a.other W22 (Or.inr (slot_ne (Or.inr (own_w hw 37 rfl)) (Or.inr (own_w hw 33 rfl)) (by decide) (t := .long) (t' := (.array .int)) (by decide) (by decide)))
    have F_orderShift_a := F_orderShift_a.other W22 (Or.inr (slot_ne (Or.inr (own_w hw 39 rfl)) (Or.inr (own_w hw 33 rfl)) (by decide) (t := .int) (t' := (.array .int)) (by decide) (by decide)))
    have F_keyLongs_a := F_keyLongs_a.other W22 (Or.inr (slot_ne (Or.inr (own_w hw 41 rfl)) (Or.inr (own_w hw 33 rfl)) (by decide) (t := .int) (t' := (.array .int)) (by decide) (by decide)))
    have F_width_a := F_width_a.other W22 (Or.inr (slot_ne (Or.inr (own_w hw 43 rfl)) (Or.inr (own_w hw 33 rfl)) (by decide) (t := .int) (t' := (.array .int)) (by decide) (by decide)))
    have V_b19 := V_b19.other W22 (Ne.symm ne_a_b19)
    have V_b21 := V_b21.other W22 (Ne.symm ne_a_b21)
    have F_slotShifts_a := tmp22
    refine own_ic 40 0 X22 hx (hb hby own_d85) rfl rfl ?_
    refine own_is 42 #[rv a, rv aC, iv 1, iv wd, iv pl, iv wb, iv 0, .unset, .unset] X22 hx (hb hby own_d86) rfl rfl ?_
    refine own_bi 44 63 X22 hx (hb hby own_d87) rfl rfl ?_
    refine own_is 46 #[rv a, rv aC, iv 1, iv wd, iv pl, iv wb, iv 0, iv 63, .unset] X22 hx (hb hby own_d88) rfl rfl ?_
    refine own_aln 47 X22 hx (hb hby own_d89) rfl rfl rfl ?_
    obtain ⟨T23, X23, e23, st23⟩ := getS2 X22 hx hZ hown (host := "") (Or.inl (own_w hw 34 rfl)) Via.refl e22 (SC.ext OL.2) (g := (mkF m 47 #[rv a, rv aC, iv 1, iv wd, iv pl, iv wb, iv 0, iv 63, .unset] [(.ref aC)])) rfl (hb hby own_d90)
    refine own_to (mkF m 50 #[rv a, rv aC, iv 1, iv wd, iv pl, iv wb, iv 0, iv 63, .unset] [(.ref aC), (.ref aC)]) st23 ?_
    refine own_to (T' := T23) (mkF m 53 #[rv a, rv aC, iv 1, iv wd, iv pl, iv wb, iv 0, iv 63, .unset] []) (fun _ k => Jvm.RoadKit.acmp (g := (mkF m 50 #[rv a, rv aC, iv 1, iv wd, iv pl, iv wb, iv 0, iv 63, .unset] [(.ref aC), (.ref aC)])) X23 hx rfl rfl rfl (pc0 := 50) (pc' := 53) (same := true) rfl (hb hby own_d91) rfl (decide_eq_true rfl) (by decide) (by decide) k) ?_
    refine own_iln 54 X23 hx (hb hby own_d92) rfl rfl ?_
    obtain ⟨_, T24, Lc24, X24, hQ24, st24⟩ := own_callS X23 hx (y := (⟨"com/example/gramstead/gramstead/estimation/RecordLayout", "bitsFor", "(I)I"⟩ : MethodName)) hown (mvT hZ (own_w hw 15 rfl)) (mvT hZ (own_w hw 16 rfl)) (mvT hZ (own_w hw 5 rfl)) (mvT hZ (own_w hw 17 rfl)) (by decide) (backOf (W := 0) (own_rmB1 l Z a0 hw [] h22 n0 (Nat.le_trans Z0 KP.1) OL) hZ (own_w hw 17 rfl) (own_w hw 5 rfl) (by decide) (by decide)) (g := (mkF m 54 #[rv a, rv aC, iv 1, iv wd, iv pl, iv wb, iv 0, iv 63, .unset] [(.int (1 : Int32))])) rfl (by rw [hml]; rfl) (argsL := [(.int (1 : Int32))]) (rest := []) (lenOf own_pd0 rfl) rfl (by show 2 * 0 + _ ≤ _; exact Nat.le_of_eq rfl) (hb hby own_d93) rfl e23 (kc := 2) (ks := 2) rfl rfl (by decide) (by decide)
    obtain ⟨rfl, N24q, e24⟩ := hQ24
    have N24 := Fr.app N22 N24q
    refine own_to (mkF m 57 #[rv a, rv aC, iv 1, iv wd, iv pl, iv wb, iv 0, iv 63, .unset] [(.int (1 : Int32))]) st24 ?_
    refine own_is 59 #[rv a, rv aC, iv 1, iv wd, iv pl, iv wb, iv 0, iv 63, iv 1] X24 hx (hb hby own_d94) rfl rfl ?_
    refine own_aln 60 X24 hx (hb hby own_d95) rfl rfl rfl ?_
    refine own_to (T' := T24) (mkF m 61 #[rv a, rv aC, iv 1, iv wd, iv pl, iv wb, iv 0, iv 63, iv 1] [(.long (1 : Int64)), (.ref a)]) (fun _ k => XS.lconst X24.here hx rfl (hb hby own_d96) k) ?_
    refine own_il 63 X24 hx (hb hby own_d97) rfl rfl ?_
    refine own_to (T' := T24) (mkF m 64 #[rv a, rv aC, iv 1, iv wd, iv pl, iv wb, iv 0, iv 63, iv 1] [(.long ((1 : Int64) <<< ((1 : Int32) &&& 0x3f).toInt64)), (.ref a)]) (fun _ k => XS.lshl X24.here hx rfl (hb hby own_d98) rfl k) ?_
    refine own_to (T' := T24) (mkF m 65 #[rv a, rv aC, iv 1, iv wd, iv pl, iv wb, iv 0, iv 63, iv 1] [(.long (1 : Int64)), (.long ((1 : Int64) <<< ((1 : Int32) &&& 0x3f).toInt64)), (.ref a)]) (fun _ k => XS.lconst X24.here hx rfl (hb hby own_d99) k) ?_
    refine own_to (T' := T24) (mkF m 66 #[rv a, rv aC, iv 1, iv wd, iv pl, iv wb, iv 0, iv 63, iv 1] [(.long (((1 : Int64) <<< ((1 : Int32) &&& 0x3f).toInt64) - (1 : Int64))), (.ref a)]) (fun _ k => XS.lsub X24.here hx rfl (hb hby own_d100) rfl k) ?_
    obtain ⟨T25, h25, X25, e25, W25, st25⟩ := putF X24 hx hZ hown (host := "") (Or.inl (own_w hw 36 rfl)) Via.refl e24 F_orderMask_a E_a (Or.inr ⟨(own_w hw 37 rfl), rfl, hnm⟩) (own_w hw 4 rfl) (ty := .long) (by decide) rfl rfl (g := (mkF m 66 #[rv a, rv aC, iv 1, iv wd, iv pl, iv wb, iv 0, iv 63, iv 1] [(.long (((1 : Int64) <<< ((1 : Int32) &&& 0x3f).toInt64) - (1 : Int64))), (.ref a)])) rfl rfl (hb hby own_d101)
    refine own_to (mkF m 69 #[rv a, rv aC, iv 1, iv wd, iv pl, iv wb, iv 0, iv 63, iv 1] []) st25 ?_
    have N25 := Fr.snoc X25 N24 ge_a
    have tmp25 : Fld Z h25 a "com/example/gramstead/gramstead/estimation/RecordLayout" "orderMask" "J" (.long (((1 : Int64) <<< ((1 : Int32) &&& 0x3f).toInt64) - (1 : Int64))) := F_orderMask_a.same W25
    have OL := OL.wr W25 ge_a
    have KP := KP.wr W25 (Or.inl (List.mem_of_getElem? (i := 0) rfl))
    have E_a := E_a.wr W25
    have F_slotLongs_a := F_slotLongs_a.other W25 (Or.inr (slot_ne (Or.inr (own_w hw 31 rfl)) (Or.inr (own_w hw 37 rfl)) (by decide) (t := (.array .int)) (t' := .long) (by decide) (by decide)))
    have F_slotShifts_a := F_slotShifts_a.other W25 (Or.inr (slot_ne (Or.inr (own_w hw 33 rfl)) (Or.inr (own_w hw 37 rfl)) (by decide) (t := (.array .int)) (t' := .long) (by decide) (by decide)))
    have F_orderShift_a := F_orderShift_a.other W25 (Or.inr (slot_ne (Or.inr (own_w hw 39 rfl)) (Or.inr (own_w hw 37 rfl)) (by decide) (t := .int) (t' := .long) (by decide) (by decide)))
    have F_keyLongs_a := F_keyLongs_a.other W25 (Or.inr (slot_ne (Or.inr (own_w hw 41 rfl)) (Or.inr (own_w hw 37 rfl)) (by decide) (t := .int) (t' := .long) (by decide) (by decide)))
    have F_width_a := F_width_a.other W25 (Or.inr (slot_ne (Or.inr (own_w hw 43 rfl)) (Or.inr (own_w hw 37 rfl)) (by decide) (t := .int) (t' := .long) (by decide) (by decide)))
    have V_b19 := V_b19.other W25 (Ne.symm ne_a_b19)
    have V_b21 := V_b21.other W25 (Ne.symm ne_a_b21)
    have F_orderMask_a := tmp25
    refine own_il 71 X25 hx (hb hby own_d102) rfl rfl ?_
    refine own_il 73 X25 hx (hb hby own_d103) rfl rfl ?_
    refine own_isub 74 X25 hx (hb hby own_d104) (z := (62 : Int32)) rfl rfl ?_
    refine own_is 76 #[rv a, rv aC, iv 1, iv wd, iv pl, iv wb, iv 0, iv 62, iv 1] X25 hx (hb hby own_d105) rfl rfl ?_
    refine own_go 84 X25 hx (hb hby own_d106) (by decide) (by decide) ?_
    refine own_aln 85 X25 hx (hb hby own_d107) rfl rfl rfl ?_
    refine own_il 87 X25 hx (hb hby own_d108) rfl rfl ?_
    obtain ⟨T26, h26, X26, e26, W26, st26⟩ := putF X25 hx hZ hown (host := "") (Or.inl (own_w hw 38 rfl)) Via.refl e25 F_orderShift_a E_a (Or.inr ⟨(own_w hw 39 rfl), rfl, hnm⟩) (own_w hw 4 rfl) (ty := .int) (by decide) rfl rfl (g := (mkF m 87 #[rv a, rv aC, iv 1, iv wd, iv pl, iv wb, iv 0, iv 62, iv 1] [(.int (62 : Int32)), (.ref a)])) rfl rfl (hb hby own_d109)
    refine own_to (mkF m 90 #[rv a, rv aC, iv 1, iv wd, iv pl, iv wb, iv 0, iv 62, iv 1] []) st26 ?_
    have N26 := Fr.snoc X26 N25 ge_a
    have tmp26 : Fld Z h26 a "com/example/gramstead/gramstead/estimation/RecordLayout" "orderShift" "I" (.int (62 : Int32)) := F_orderShift_a.same W26
    have OL := OL.wr W26 ge_a
    have KP := KP.wr W26 (Or.inl (List.mem_of_getElem? (i := 0) rfl))
    have E_a := E_a.wr W26
    have F_slotLongs_a := F_slotLongs_a.other W26 (Or.inr (slot_ne (Or.inr (own_w hw 31 rfl)) (Or.inr (own_w hw 39 rfl)) (by decide) (t := (.array .int)) (t' := .int) (by decide) (by decide)))
    have F_slotShifts_a := F_slotShifts_a.other W26 (Or.inr (slot_ne (Or.inr (own_w hw 33 rfl)) (Or.inr (own_w hw 39 rfl)) (by decide) (t := (.array .int)) (t' := .int) (by decide) (by decide)))
    have F_orderMask_a := F_orderMask_a.other W26 (Or.inr (slot_ne (Or.inr (own_w hw 37 rfl)) (Or.inr (own_w hw 39 rfl)) (by decide) (t := .long) (t' := .int) (by decide) (by decide)))
    have F_keyLongs_a := F_keyLongs_a.other W26 (Or.inr (slot_ne (Or.inr (own_w hw 41 rfl)) (Or.inr (own_w hw 39 rfl)) (by decide) (t := .int) (t' := .int) (by decide) (by decide)))
    have F_width_a := F_width_a.other W26 (Or.inr (slot_ne (Or.inr (own_w hw 43 rfl)) (Or.inr (own_w hw 39 rfl)) (by decide) (t := .int) (t' := .int) (by decide) (by decide)))
    have V_b19 := V_b19.other W26 (Ne.symm ne_a_b19)
    have V_b21 := V_b21.other W26 (Ne.symm ne_a_b21)
    have F_orderShift_a := tmp26
    refine own_ic 91 0 X26 hx (hb hby own_d110) rfl rfl ?_
    refine own_is 93 #[rv a, rv aC, iv 1, iv wd, iv pl, iv wb, iv 0, iv 62, iv 0] X26 hx (hb hby own_d111) rfl rfl ?_
    refine own_il 95 X26 hx (hb hby own_d112) rfl rfl ?_
    refine own_iln 96 X26 hx (hb hby own_d113) rfl rfl ?_
    refine own_icN 99 X26 hx (hb hby own_d114) (tlt (by decide : (0 : Int32) < (1 : Int32))).2.1 rfl ?_
    refine own_il 101 X26 hx (hb hby own_d115) rfl rfl ?_
    refine own_il 103 X26 hx (hb hby own_d116) rfl rfl ?_
    refine own_icY 113 X26 hx (hb hby own_d117) (flt (own_ge (62 : Int32) 62 rfl (by decide) hb2)).2.1 (by decide) (by decide) ?_
    have hl0 : 0 ≤ (0 : Int32).toInt ∧ (0 : Int32).toInt ≤ 0 := by decide
    refine own_il 115 X26 hx (hb hby own_d118) rfl rfl ?_
    refine own_il 117 X26 hx (hb hby own_d119) rfl rfl ?_
    refine own_isub 118 X26 hx (hb hby own_d120) rfl rfl ?_
    refine own_is 120 #[rv a, rv aC, iv 1, iv wd, iv pl, iv wb, iv 0, iv ((62 : Int32) - wb), iv 0] X26 hx (hb hby own_d121) rfl rfl ?_
    refine own_aln 121 X26 hx (hb hby own_d122) rfl rfl rfl ?_
    obtain ⟨T27, X27, e27, st27⟩ := getF X26 hx hZ hown (host := "") (Or.inl (own_w hw 30 rfl)) Via.refl e26 F_slotLongs_a (g := (mkF m 121 #[rv a, rv aC, iv 1, iv wd, iv pl, iv wb, iv 0, iv ((62 : Int32) - wb), iv 0] [(.ref a)])) rfl rfl (hb hby own_d123)
    refine own_to (mkF m 124 #[rv a, rv aC, iv 1, iv wd, iv pl, iv wb, iv 0, iv ((62 : Int32) - wb), iv 0] [(.ref b19)]) st27 ?_
    refine own_il 126 X27 hx (hb hby own_d124) rfl rfl ?_
    refine own_il 128 X27 hx (hb hby own_d125) rfl rfl ?_
    obtain ⟨cl28, Ar28, q28, S28, M28, H28, G28⟩ := id V_b19
    obtain ⟨T28, h28, X28, e28, W28, st28⟩ := stI X27 hx hZ e27 Ar28 (j := (0 : Int32)) (inb_of S28 ⟨by decide, by decide⟩) (g := (mkF m 128 #[rv a, rv aC, iv 1, iv wd, iv pl, iv wb, iv 0, iv ((62 : Int32) - wb), iv 0] [(.int (0 : Int32)), (.int (0 : Int32)), (.ref b19)])) rfl rfl (hb hby own_d126)
    refine own_to (mkF m 129 #[rv a, rv aC, iv 1, iv wd, iv pl, iv wb, iv 0, iv ((62 : Int32) - wb), iv 0] []) st28 ?_
    have N28 := Fr.snoc X28 N26 ge_b19
    have tmp28 : Arv Z h28 b19 k19 .int (1 : Int32) [(.int (0 : Int32))] (.int (0 : Int32)) := Arv.set Ar28 q28 S28 M28 H28 G28 rfl W28 0 rfl (Nat.le_of_ble_eq_true rfl)
    have OL := OL.wr W28 ge_b19
    have KP := KP.wr W28 (Or.inr sz_b19)
    have E_a := E_a.wr W28
    have F_slotLongs_a := F_slotLongs_a.other W28 (Or.inl ne_a_b19)
    have F_slotShifts_a := F_slotShifts_a.other W28 (Or.inl ne_a_b19)
    have F_keyLongs_a := F_keyLongs_a.other W28 (Or.inl ne_a_b19)
    have F_width_a := F_width_a.other W28 (Or.inl ne_a_b19)
    have V_b21 := V_b21.other W28 (Ne.symm ne_b19_b21)
    have V_b19 := tmp28
    refine own_aln 130 X28 hx (hb hby own_d127) rfl rfl rfl ?_
    obtain ⟨T29, X29, e29, st29⟩ := getF X28 hx hZ hown (host := "") (Or.inl (own_w hw 32 rfl)) Via.refl e28 F_slotShifts_a (g := (mkF m 130 #[rv a, rv aC, iv 1, iv wd, iv pl, iv wb, iv 0, iv ((62 : Int32) - wb), iv 0] [(.ref a)])) rfl rfl (hb hby own_d128)
    refine own_to (mkF m 133 #[rv a, rv aC, iv 1, iv wd, iv pl, iv wb, iv 0, iv ((62 : Int32) - wb), iv 0] [(.ref b21)]) st29 ?_
    refine own_il 135 X29 hx (hb hby own_d129) rfl rfl ?_
    refine own_il 137 X29 hx (hb hby own_d130) rfl rfl ?_
    obtain ⟨cl30, Ar30, q30, S30, M30, H30, G30⟩ := id V_b21
    obtain ⟨T30, h30, X30, e30, W30, st30⟩ := stI X29 hx hZ e29 Ar30 (j := (0 : Int32)) (inb_of S30 ⟨by decide, by decide⟩) (g := (mkF m 137 #[rv a, rv aC, iv 1, iv wd, iv pl, iv wb, iv 0, iv ((62 : Int32) - wb), iv 0] [(.int ((62 : Int32) - wb)), (.int (0 : Int32)), (.ref b21)])) rfl rfl (hb hby own_d131)
    refine own_to (mkF m 138 #[rv a, rv aC, iv 1, iv wd, iv pl, iv wb, iv 0, iv ((62 : Int32) - wb), iv 0] []) st30 ?_
    have N30 := Fr.snoc X30 N28 ge_b21
    have tmp30 : Arv Z h30 b21 k21 .int (1 : Int32) [(.int ((62 : Int32) - wb))] (.int (0 : Int32)) := Arv.set Ar30 q30 S30 M30 H30 G30 rfl W30 0 rfl (Nat.le_of_ble_eq_true rfl)
    have OL := OL.wr W30 ge_b21
    have KP := KP.wr W30 (Or.inr sz_b21)
    have E_a := E_a.wr W30
    have F_slotLongs_a := F_slotLongs_a.other W30 (Or.inl ne_a_b21)
    have F_slotShifts_a := F_slotShifts_a.other W30 (Or.inl ne_a_b21)
    have F_keyLongs_a := F_keyLongs_a.other W30 (Or.inl ne_a_b21)
    have F_width_a := F_width_a.other W30 (Or.inl ne_a_b21)
    have V_b19 := V_b19.other W30 ne_b19_b21
    have V_b21 := tmp30
    refine own_inc 141 #[rv a, rv aC, iv 1, iv wd, iv pl, iv wb, iv 0, iv ((62 : Int32) - wb), iv 1] X30 hx (hb hby own_d132) rfl rfl rfl ?_
    refine own_go 93 X30 hx (hb hby own_d133) (by decide) (by decide) ?_
    refine own_il 95 X30 hx (hb hby own_d112) rfl rfl ?_
    refine own_iln 96 X30 hx (hb hby own_d113) rfl rfl ?_
    refine own_icY 144 X30 hx (hb hby own_d114) (flt (by decide : ¬ ((1 : Int32) < (1 : Int32)))).2.1 (by decide) (by decide) ?_
    refine own_aln 145 X30 hx (hb hby own_d134) rfl rfl rfl ?_
    refine own_il 147 X30 hx (hb hby own_d135) rfl rfl ?_
    refine own_ic 148 1 X30 hx (hb hby own_d136) rfl rfl ?_
    refine own_iadd 149 X30 hx (hb hby own_d137) (z := (1 : Int32)) rfl rfl ?_
    obtain ⟨T31, h31, X31, e31, W31, st31⟩ := putF X30 hx hZ hown (host := "") (Or.inl (own_w hw 40 rfl)) Via.refl e30 F_keyLongs_a E_a (Or.inr ⟨(own_w hw 41 rfl), rfl, hnm⟩) (own_w hw 4 rfl) (ty := .int) (by decide) rfl rfl (g := (mkF m 149 #[rv a, rv aC, iv 1, iv wd, iv pl, iv wb, iv 0, iv ((62 : Int32) - wb), iv 1] [(.int (1 : Int32)), (.ref a)])) rfl rfl (hb hby own_d138)
    refine own_to (mkF m 152 #[rv a, rv aC, iv 1, iv wd, iv pl, iv wb, iv 0, iv ((62 : Int32) - wb), iv 1] []) st31 ?_
    have N31 := Fr.snoc X31 N30 ge_a
    have tmp31 : Fld Z h31 a "com/example/gramstead/gramstead/estimation/RecordLayout" "keyLongs" "I" (.int (1 : Int32)) := F_keyLongs_a.same W31
    have OL := OL.wr W31 ge_a
    have KP := KP.wr W31 (Or.inl (List.mem_of_getElem? (i := 0) rfl))
    have E_a := E_a.wr W31
    have F_width_a := F_width_a.other W31 (Or.inr (slot_ne (Or.inr (own_w hw 43 rfl)) (Or.inr (own_w hw 41 rfl)) (by decide) (t := .int) (t' := .int) (by decide) (by decide)))
    have F_keyLongs_a := tmp31
    refine own_aln 153 X31 hx (hb hby own_d139) rfl rfl rfl ?_
    refine own_aln 154 X31 hx (hb hby own_d140) rfl rfl rfl ?_
    obtain ⟨T32, X32, e32, st32⟩ := getF X31 hx hZ hown (host := "") (Or.inl (own_w hw 40 rfl)) Via.refl e31 F_keyLongs_a (g := (mkF m 154 #[rv a, rv aC, iv 1, iv wd, iv pl, iv wb, iv 0, iv ((62 : Int32) - wb), iv 1] [(.ref a), (.ref a)])) rfl rfl (hb hby own_d141)
    refine own_to (mkF m 157 #[rv a, rv aC, iv 1, iv wd, iv pl, iv wb, iv 0, iv ((62 : Int32) - wb), iv 1] [(.int (1 : Int32)), (.ref a)]) st32 ?_
    refine own_il 159 X32 hx (hb hby own_d142) rfl rfl ?_
    refine own_iadd 160 X32 hx (hb hby own_d143) rfl rfl ?_
    obtain ⟨T33, h33, X33, e33, W33, st33⟩ := putF X32 hx hZ hown (host := "") (Or.inl (own_w hw 42 rfl)) Via.refl e32 F_width_a E_a (Or.inr ⟨(own_w hw 43 rfl), rfl, hnm⟩) (own_w hw 4 rfl) (ty := .int) (by decide) rfl rfl (g := (mkF m 160 #[rv a, rv aC, iv 1, iv wd, iv pl, iv wb, iv 0, iv ((62 : Int32) - wb), iv 1] [(.int ((1 : Int32) + pl)), (.ref a)])) rfl rfl (hb hby own_d144)
    refine own_to (mkF m 163 #[rv a, rv aC, iv 1, iv wd, iv pl, iv wb, iv 0, iv ((62 : Int32) - wb), iv 1] []) st33 ?_
    have N33 := Fr.snoc X33 N31 ge_a
    have tmp33 : Fld Z h33 a "com/example/gramstead/gramstead/estimation/RecordLayout" "width" "I" (.int ((1 : Int32) + pl)) := F_width_a.same W33
    have OL := OL.wr W33 ge_a
    have KP := KP.wr W33 (Or.inl (List.mem_of_getElem? (i := 0) rfl))
    have E_a := E_a.wr W33
    have F_keyLongs_a := F_keyLongs_a.other W33 (Or.inr (slot_ne (Or.inr (own_w hw 41 rfl)) (Or.inr (own_w hw 43 rfl)) (by decide) (t := .int) (t' := .int) (by decide) (by decide)))
    have F_width_a := tmp33
    exact own_ret0 X33 hx Bd.returns hlk (hb hby own_d145) (by decide) (by decide) (by rw [e33]; exact ⟨rfl, N33, KP, E_a, (1 : Int32), (own_kl (k := 0) (by decide) hl0).1, (own_kl (k := 0) (by decide) hl0).2, F_keyLongs_a, F_width_a⟩)
  · subst q
    refine own_aln 1 X0 hx (hb hby own_d62) rfl rfl rfl ?_
    obtain ⟨T34, X34, e34, st34⟩ := initO X0 hx hZ hown (own_w hw 10 rfl) (own_w hw 11 rfl) (own_w hw 12 rfl) e0 (g := (mkF m 1 #[rv a, rv aC, iv 2, iv wd, iv pl, .unset, .unset, .unset, .unset] [(.ref a)])) rfl (by rw [hml]; rfl) rfl (hb hby own_d63) (by decide) (W := 0) (by show 2 * 0 + _ ≤ _; exact Nat.le_of_eq rfl) (by decide)
    refine own_to (mkF m 4 #[rv a, rv aC, iv 2, iv wd, iv pl, .unset, .unset, .unset, .unset] []) st34 ?_
    refine own_aln 5 X34 hx (hb hby own_d64) rfl rfl rfl ?_
    refine own_aln 6 X34 hx (hb hby own_d65) rfl rfl rfl ?_
    obtain ⟨T35, h35, X35, e35, W35, st35⟩ := putF X34 hx hZ hown (host := "") (Or.inl (own_w hw 13 rfl)) Via.refl e34 F_order_a E_a (Or.inr ⟨(own_w hw 14 rfl), rfl, hnm⟩) (own_w hw 4 rfl) (ty := (.object "com/example/gramstead/gramstead/estimation/RecordOrder")) (by decide) rfl rfl (g := (mkF m 6 #[rv a, rv aC, iv 2, iv wd, iv pl, .unset, .unset, .unset, .unset] [(.ref aC), (.ref a)])) rfl rfl (hb hby own_d66)
    refine own_to (mkF m 9 #[rv a, rv aC, iv 2, iv wd, iv pl, .unset, .unset, .unset, .unset] []) st35 ?_
    have N35 := Fr.snoc X35 N0 ge_a
    have tmp35 : Fld Z h35 a "com/example/gramstead/gramstead/estimation/RecordLayout" "order" "Lcom/example/gramstead/gramstead/estimation/RecordOrder;" (.ref aC) := F_order_a.same W35
    have OL := OL.wr W35 ge_a
    have KP := KP.wr W35 (Or.inl (List.mem_of_getElem? (i := 0) rfl))
    have E_a := E_a.wr W35
    have F_wordMask_a := F_wordMask_a.other W35 (Or.inr (slot_ne (Or.inr (own_w hw 28 rfl)) (Or.inr (own_w hw 14 rfl)) (by decide) (t := .long) (t' := (.object "com/example/gramstead/gramstead/estimation/RecordOrder")) (by decide) (by decide)))
    have F_slotLongs_a := F_slotLongs_a.other W35 (Or.inr (slot_ne (Or.inr (own_w hw 31 rfl)) (Or.inr (own_w hw 14 rfl)) (by decide) (t := (.array .int)) (t' := (.object "com/example/gramstead/gramstead/estimation/RecordOrder")) (by decide) (by decide)))
    have F_slotShifts_a := F_slotShifts_a.other W35 (Or.inr (slot_ne (Or.inr (own_w hw 33 rfl)) (Or.inr (own_w hw 14 rfl)) (by decide) (t := (.array .int)) (t' := (.object "com/example/gramstead/gramstead/estimation/RecordOrder")) (by decide) (by decide)))
    have F_orderMask_a := F_orderMask_a.other W35 (Or.inr (slot_ne (Or.inr (own_w hw 37 rfl)) (Or.inr (own_w hw 14 rfl)) (by decide) (t := .long) (t' := (.object "com/example/gramstead/gramstead/estimation/RecordOrder")) (by decide) (by decide)))
    have F_orderShift_a := F_orderShift_a.other W35 (Or.inr (slot_ne (Or.inr (own_w hw 39 rfl)) (Or.inr (own_w hw 14 rfl)) (by decide) (t := .int) (t' := (.object "com/example/gramstead/gramstead/estimation/RecordOrder")) (by decide) (by decide)))
    have F_keyLongs_a := F_keyLongs_a.other W35 (Or.inr (slot_ne (Or.inr (own_w hw 41 rfl)) (Or.inr (own_w hw 14 rfl)) (by decide) (t := .int) (t' := (.object "com/example/gramstead/gramstead/estimation/RecordOrder")) (by decide) (by decide)))
    have F_width_a := F_width_a.other W35 (Or.inr (slot_ne (Or.inr (own_w hw 43 rfl)) (Or.inr (own_w hw 14 rfl)) (by decide) (t := .int) (t' := (.object "com/example/gramstead/gramstead/estimation/RecordOrder")) (by decide) (by decide)))
    have F_order_a := tmp35
    refine own_iln 10 X35 hx (hb hby own_d67) rfl rfl ?_
    obtain ⟨_, T36, Lc36, X36, hQ36, st36⟩ := own_callS X35 hx (y := (⟨"com/example/gramstead/gramstead/estimation/RecordLayout", "bitsFor", "(I)I"⟩ : MethodName)) hown (mvT hZ (own_w hw 15 rfl)) (mvT hZ (own_w hw 16 rfl)) (mvT hZ (own_w hw 5 rfl)) (mvT hZ (own_w hw 17 rfl)) (by decide) (backOf (W := 0) (own_rmB l Z a0 hw [] wd h35 n0 (Nat.le_trans Z0 KP.1) OL hwd) hZ (own_w hw 17 rfl) (own_w hw 5 rfl) (by decide) (by decide)) (g := (mkF m 10 #[rv a, rv aC, iv 2, iv wd, iv pl, .unset, .unset, .unset, .unset] [(.int wd)])) rfl (by rw [hml]; rfl) (argsL := [(.int wd)]) (rest := []) (lenOf own_pd0 rfl) rfl (by show 2 * 0 + _ ≤ _; exact Nat.le_of_eq rfl) (hb hby own_d68) rfl e35 (kc := 0) (ks := 0) rfl rfl (by decide) (by decide)
    obtain ⟨wb, rfl, hb1, hb2, N36q, e36⟩ := hQ36
    have N36 := Fr.app N35 N36q
    refine own_to (mkF m 13 #[rv a, rv aC, iv 2, iv wd, iv pl, .unset, .unset, .unset, .unset] [(.int wb)]) st36 ?_
    refine own_is 15 #[rv a, rv aC, iv 2, iv wd, iv pl, iv wb, .unset, .unset, .unset] X36 hx (hb hby own_d69) rfl rfl ?_
    refine own_aln 16 X36 hx (hb hby own_d70) rfl rfl rfl ?_
    refine own_to (T' := T36) (mkF m 17 #[rv a, rv aC, iv 2, iv wd, iv pl, iv wb, .unset, .unset, .unset] [(.long (1 : Int64)), (.ref a)]) (fun _ k => XS.lconst X36.here hx rfl (hb hby own_d71) k) ?_
    refine own_il 19 X36 hx (hb hby own_d72) rfl rfl ?_
    refine own_to (T' := T36) (mkF m 20 #[rv a, rv aC, iv 2, iv wd, iv pl, iv wb, .unset, .unset, .unset] [(.long ((1 : Int64) <<< (wb &&& 0x3f).toInt64)), (.ref a)]) (fun _ k => XS.lshl X36.here hx rfl (hb hby own_d73) rfl k) ?_
    refine own_to (T' := T36) (mkF m 21 #[rv a, rv aC, iv 2, iv wd, iv pl, iv wb, .unset, .unset, .unset] [(.long (1 : Int64)), (.long ((1 : Int64) <<< (wb &&& 0x3f).toInt64)), (.ref a)]) (fun _ k => XS.lconst X36.here hx rfl (hb hby own_d74) k) ?_
    refine own_to (T' := T36) (mkF m 22 #[rv a, rv aC, iv 2, iv wd, iv pl, iv wb, .unset, .unset, .unset] [(.long (((1 : Int64) <<< (wb &&& 0x3f).toInt64) - (1 : Int64))), (.ref a)]) (fun _ k => XS.lsub X36.here hx rfl (hb hby own_d75) rfl k) ?_
    obtain ⟨T37, h37, X37, e37, W37, st37⟩ := putF X36 hx hZ hown (host := "") (Or.inl (own_w hw 27 rfl)) Via.refl e36 F_wordMask_a E_a (Or.inr ⟨(own_w hw 28 rfl), rfl, hnm⟩) (own_w hw 4 rfl) (ty := .long) (by decide) rfl rfl (g := (mkF m 22 #[rv a, rv aC, iv 2, iv wd, iv pl, iv wb, .unset, .unset, .unset] [(.long (((1 : Int64) <<< (wb &&& 0x3f).toInt64) - (1 : Int64))), (.ref a)])) rfl rfl (hb hby own_d76)
    refine own_to (mkF m 25 #[rv a, rv aC, iv 2, iv wd, iv pl, iv wb, .unset, .unset, .unset] []) st37 ?_
    have N37 := Fr.snoc X37 N36 ge_a
    have tmp37 : Fld Z h37 a "com/example/gramstead/gramstead/estimation/RecordLayout" "wordMask" "J" (.long (((1 : Int64) <<< (wb &&& 0x3f).toInt64) - (1 : Int64))) := F_wordMask_a.same W37
    have OL := OL.wr W37 ge_a
    have KP := KP.wr W37 (Or.inl (List.mem_of_getElem? (i := 0) rfl))
    have E_a := E_a.wr W37
    have F_slotLongs_a := F_slotLongs_a.other W37 (Or.inr (slot_ne (Or.inr (own_w hw 31 rfl)) (Or.inr (own_w hw 28 rfl)) (by decide) (t := (.array .int)) (t' := .long) (by decide) (by decide)))
    have F_slotShifts_a := F_slotShifts_a.other W37 (Or.inr (slot_ne (Or.inr (own_w hw 33 rfl)) (Or.inr (own_w hw 28 rfl)) (by decide) (t := (.array .int)) (t' := .long) (by decide) (by decide)))
    have F_orderMask_a := F_orderMask_a.other W37 (Or.inr (slot_ne (Or.inr (own_w hw 37 rfl)) (Or.inr (own_w hw 28 rfl)) (by decide) (t := .long) (t' := .long) (by decide) (by decide)))
    have F_orderShift_a := F_orderShift_a.other W37 (Or.inr (slot_ne (Or.inr (own_w hw 39 rfl)) (Or.inr (own_w hw 28 rfl)) (by decide) (t := .int) (t' := .long) (by decide) (by decide)))
    have F_keyLongs_a := F_keyLongs_a.other W37 (Or.inr (slot_ne (Or.inr (own_w hw 41 rfl)) (Or.inr (own_w hw 28 rfl)) (by decide) (t := .int) (t' := .long) (by decide) (by decide)))
    have F_width_a := F_width_a.other W37 (Or.inr (slot_ne (Or.inr (own_w hw 43 rfl)) (Or.inr (own_w hw 28 rfl)) (by decide) (t := .int) (t' := .long) (by decide) (by decide)))
    have F_wordMask_a := tmp37
    refine own_aln 26 X37 hx (hb hby own_d77) rfl rfl rfl ?_
    refine own_iln 27 X37 hx (hb hby own_d78) rfl rfl ?_
    obtain ⟨T38, h38, k38, X38, e38, E38, A38, B38, st38⟩ := newPE X37 hx hZ (own_w hw 29 rfl) e37 (g := (mkF m 27 #[rv a, rv aC, iv 2, iv wd, iv pl, iv wb, .unset, .unset, .unset] [(.int (2 : Int32)), (.ref a)])) rfl (hb hby own_d79) rfl (by decide) (cap := 2) (by decide) (by decide) (by decide) (by decide) (ad := "[I") (by decide)
    obtain ⟨b38, g38⟩ : ∃ z, z = h37.size := ⟨_, rfl⟩
    rw [← g38] at A38 B38 st38
    have sz_b38 : h0.size ≤ b38 := Nat.le_trans KP.1 (Nat.le_of_eq g38.symm)
    have ge_b38 : n0 ≤ b38 := Nat.le_trans Z0 sz_b38
    have ne_a_b38 : a ≠ b38 := Nat.ne_of_lt (Nat.lt_of_lt_of_le E_a.lt (Nat.le_of_eq g38.symm))
    have OL := OL.ext E38
    have KP := KP.ext E38
    have E_a := E_a.ext E38
    have F_slotLongs_a := F_slotLongs_a.ext E38
    have F_slotShifts_a := F_slotShifts_a.ext E38
    have F_orderMask_a := F_orderMask_a.ext E38
    have F_orderShift_a := F_orderShift_a.ext E38
    have F_keyLongs_a := F_keyLongs_a.ext E38
    have F_width_a := F_width_a.ext E38
    have V_b38 : Arv Z h38 b38 k38 .int (2 : Int32) [(.int (0 : Int32)), (.int (0 : Int32))] (.int (0 : Int32)) := (Arv.new A38 (by decide)).pad (pad_rep [] (.int (0 : Int32)) 2)
    refine own_to (mkF m 29 #[rv a, rv aC, iv 2, iv wd, iv pl, iv wb, .unset, .unset, .unset] [(.ref b38), (.ref a)]) st38 ?_
    obtain ⟨T39, h39, X39, e39, W39, st39⟩ := putF X38 hx hZ hown (host := "") (Or.inl (own_w hw 30 rfl)) Via.refl e38 F_slotLongs_a E_a (Or.inr ⟨(own_w hw 31 rfl), rfl, hnm⟩) (own_w hw 4 rfl) (ty := (.array .int)) (by decide) rfl rfl (g := (mkF m 29 #[rv a, rv aC, iv 2, iv wd, iv pl, iv wb, .unset, .unset, .unset] [(.ref b38), (.ref a)])) rfl rfl (hb hby own_d80)
    refine own_to (mkF m 32 #[rv a, rv aC, iv 2, iv wd, iv pl, iv wb, .unset, .unset, .unset] []) st39 ?_
    have N39 := Fr.snoc X39 N37 ge_a
    have tmp39 : Fld Z h39 a "com/example/gramstead/gramstead/estimation/RecordLayout" "slotLongs" "[I" (.ref b38) := F_slotLongs_a.same W39
    have OL := OL.wr W39 ge_a
    have KP := KP.wr W39 (Or.inl (List.mem_of_getElem? (i := 0) rfl))
    have E_a := E_a.wr W39
    have F_slotShifts_a := F_slotShifts_a.other W39 (Or.inr (slot_ne (Or.inr (own_w hw 33 rfl)) (Or.inr (own_w hw 31 rfl)) (by decide) (t := (.array .int)) (t' := (.array .int)) (by decide) (by decide)))
    have F_orderMask_a := F_orderMask_a.other W39 (Or.inr (slot_ne (Or.inr (own_w hw 37 rfl)) (Or.inr (own_w hw 31 rfl)) (by decide) (t := .long) (t' := (.array .int)) (by decide) (by decide)))
    have F_orderShift_a := F_orderShift_a.other W39 (Or.inr (slot_ne (Or.inr (own_w hw 39 rfl)) (Or.inr (own_w hw 31 rfl)) (by decide) (t := .int) (t' := (.array .int)) (by decide) (by decide)))
    have F_keyLongs_a := F_keyLongs_a.other W39 (Or.inr (slot_ne (Or.inr (own_w hw 41 rfl)) (Or.inr (own_w hw 31 rfl)) (by decide) (t := .int) (t' := (.array .int)) (by decide) (by decide)))
    have F_width_a := F_width_a.other W39 (Or.inr (slot_ne (Or.inr (own_w hw 43 rfl)) (Or.inr (own_w hw 31 rfl)) (by decide) (t := .int) (t' := (.array .int)) (by decide) (by decide)))
    have V_b38 := V_b38.other W39 (Ne.symm ne_a_b38)
    have F_slotLongs_a := tmp39
    refine own_aln 33 X39 hx (hb hby own_d81) rfl rfl rfl ?_
    refine own_iln 34 X39 hx (hb hby own_d82) rfl rfl ?_
    obtain ⟨T40, h40, k40, X40, e40, E40, A40, B40, st40⟩ := newPE X39 hx hZ (own_w hw 29 rfl) e39 (g := (mkF m 34 #[rv a, rv aC, iv 2, iv wd, iv pl, iv wb, .unset, .unset, .unset] [(.int (2 : Int32)), (.ref a)])) rfl (hb hby own_d83) rfl (by decide) (cap := 2) (by decide) (by decide) (by decide) (by decide) (ad := "[I") (by decide)
    obtain ⟨b40, g40⟩ : ∃ z, z = h39.size := ⟨_, rfl⟩
    rw [← g40] at A40 B40 st40
    have sz_b40 : h0.size ≤ b40 := Nat.le_trans KP.1 (Nat.le_of_eq g40.symm)
    have ge_b40 : n0 ≤ b40 := Nat.le_trans Z0 sz_b40
    have ne_a_b40 : a ≠ b40 := Nat.ne_of_lt (Nat.lt_of_lt_of_le E_a.lt (Nat.le_of_eq g40.symm))
    have ne_b38_b40 : b38 ≠ b40 := Nat.ne_of_lt (Nat.lt_of_lt_of_le V_b38.lt (Nat.le_of_eq g40.symm))
    have OL := OL.ext E40
    have KP := KP.ext E40
    have E_a := E_a.ext E40
    have F_slotLongs_a := F_slotLongs_a.ext E40
    have F_slotShifts_a := F_slotShifts_a.ext E40
    have F_orderMask_a := F_orderMask_a.ext E40
    have F_orderShift_a := F_orderShift_a.ext E40
    have F_keyLongs_a := F_keyLongs_a.ext E40
    have F_width_a := F_width_a.ext E40
    have V_b38 := V_b38.ext E40
    have V_b40 : Arv Z h40 b40 k40 .int (2 : Int32) [(.int (0 : Int32)), (.int (0 : Int32))] (.int (0 : Int32)) := (Arv.new A40 (by decide)).pad (pad_rep [] (.int (0 : Int32)) 2)
    refine own_to (mkF m 36 #[rv a, rv aC, iv 2, iv wd, iv pl, iv wb, .unset, .unset, .unset] [(.ref b40), (.ref a)]) st40 ?_
    obtain ⟨T41, h41, X41, e41, W41, st41⟩ := putF X40 hx hZ hown (host := "") (Or.inl (own_w hw 32 rfl)) Via.refl e40 F_slotShifts_a E_a (Or.inr ⟨(own_w hw 33 rfl), rfl, hnm⟩) (own_w hw 4 rfl) (ty := (.array .int)) (by decide) rfl rfl (g := (mkF m 36 #[rv a, rv aC, iv 2, iv wd, iv pl, iv wb, .unset, .unset, .unset] [(.ref b40), (.ref a)])) rfl rfl (hb hby own_d84)
    refine own_to (mkF m 39 #[rv a, rv aC, iv 2, iv wd, iv pl, iv wb, .unset, .unset, .unset] []) st41 ?_
    have N41 := Fr.snoc X41 N39 ge_a
    have tmp41 : Fld Z h41 a "com/example/gramstead/gramstead/estimation/RecordLayout" "slotShifts" "[I" (.ref b40) := F_slotShifts_a.same W41
    have OL := OL.wr W41 ge_a
    have KP := KP.wr W41 (Or.inl (List.mem_of_getElem? (i := 0) rfl))
    have E_a := E_a.wr W41
    have F_slotLongs_a := F_slotLongs_a.other W41 (Or.inr (slot_ne (Or.inr (own_w hw 31 rfl)) (Or.inr (own_w hw 33 rfl)) (by decide) (t := (.array .int)) (t' := (.array .int)) (by decide) (by decide)))
    have F_orderMask_a := F_orderMask_a.other W41 (Or.inr (slot_ne (Or.inr (own_w hw 37 rfl)) (Or.inr (own_w hw 33 rfl)) (by decide) (t := .long) (t' := (.array .int)) (by decide) (by decide)))
    have F_orderShift_a := F_orderShift_a.other W41 (Or.inr (slot_ne (Or.inr (own_w hw 39 rfl)) (Or.inr (own_w hw 33 rfl)) (by decide) (t := .int) (t' := (.array .int)) (by decide) (by decide)))
    have F_keyLongs_a := F_keyLongs_a.other W41 (Or.inr (slot_ne (Or.inr (own_w hw 41 rfl)) (Or.inr (own_w hw 33 rfl)) (by decide) (t := .int) (t' := (.array .int)) (by decide) (by decide)))
    have F_width_a := F_width_a.other W41 (Or.inr (slot_ne (Or.inr (own_w hw 43 rfl)) (Or.inr (own_w hw 33 rfl)) (by decide) (t := .int) (t' := (.array .int)) (by decide) (by decide)))
    have V_b38 := V_b38.other W41 (Ne.symm ne_a_b38)
    have V_b40 := V_b40.other W41 (Ne.symm ne_a_b40)
    have F_slotShifts_a := tmp41
    refine own_ic 40 0 X41 hx (hb hby own_d85) rfl rfl ?_
    refine own_is 42 #[rv a, rv aC, iv 2, iv wd, iv pl, iv wb, iv 0, .unset, .unset] X41 hx (hb hby own_d86) rfl rfl ?_
    refine own_bi 44 63 X41 hx (hb hby own_d87) rfl rfl ?_
    refine own_is 46 #[rv a, rv aC, iv 2, iv wd, iv pl, iv wb, iv 0, iv 63, .unset] X41 hx (hb hby own_d88) rfl rfl ?_
    refine own_aln 47 X41 hx (hb hby own_d89) rfl rfl rfl ?_
    obtain ⟨T42, X42, e42, st42⟩ := getS2 X41 hx hZ hown (host := "") (Or.inl (own_w hw 34 rfl)) Via.refl e41 (SC.ext OL.2) (g := (mkF m 47 #[rv a, rv aC, iv 2, iv wd, iv pl, iv wb, iv 0, iv 63, .unset] [(.ref aC)])) rfl (hb hby own_d90)
    refine own_to (mkF m 50 #[rv a, rv aC, iv 2, iv wd, iv pl, iv wb, iv 0, iv 63, .unset] [(.ref aC), (.ref aC)]) st42 ?_
    refine own_to (T' := T42) (mkF m 53 #[rv a, rv aC, iv 2, iv wd, iv pl, iv wb, iv 0, iv 63, .unset] []) (fun _ k => Jvm.RoadKit.acmp (g := (mkF m 50 #[rv a, rv aC, iv 2, iv wd, iv pl, iv wb, iv 0, iv 63, .unset] [(.ref aC), (.ref aC)])) X42 hx rfl rfl rfl (pc0 := 50) (pc' := 53) (same := true) rfl (hb hby own_d91) rfl (decide_eq_true rfl) (by decide) (by decide) k) ?_
    refine own_iln 54 X42 hx (hb hby own_d92) rfl rfl ?_
    obtain ⟨_, T43, Lc43, X43, hQ43, st43⟩ := own_callS X42 hx (y := (⟨"com/example/gramstead/gramstead/estimation/RecordLayout", "bitsFor", "(I)I"⟩ : MethodName)) hown (mvT hZ (own_w hw 15 rfl)) (mvT hZ (own_w hw 16 rfl)) (mvT hZ (own_w hw 5 rfl)) (mvT hZ (own_w hw 17 rfl)) (by decide) (backOf (W := 0) (own_rmB2 l Z a0 hw [] h41 n0 (Nat.le_trans Z0 KP.1) OL) hZ (own_w hw 17 rfl) (own_w hw 5 rfl) (by decide) (by decide)) (g := (mkF m 54 #[rv a, rv aC, iv 2, iv wd, iv pl, iv wb, iv 0, iv 63, .unset] [(.int (2 : Int32))])) rfl (by rw [hml]; rfl) (argsL := [(.int (2 : Int32))]) (rest := []) (lenOf own_pd0 rfl) rfl (by show 2 * 0 + _ ≤ _; exact Nat.le_of_eq rfl) (hb hby own_d93) rfl e42 (kc := 2) (ks := 4) rfl rfl (by decide) (by decide)
    obtain ⟨rfl, N43q, e43⟩ := hQ43
    have N43 := Fr.app N41 N43q
    refine own_to (mkF m 57 #[rv a, rv aC, iv 2, iv wd, iv pl, iv wb, iv 0, iv 63, .unset] [(.int (2 : Int32))]) st43 ?_
    refine own_is 59 #[rv a, rv aC, iv 2, iv wd, iv pl, iv wb, iv 0, iv 63, iv 2] X43 hx (hb hby own_d94) rfl rfl ?_
    refine own_aln 60 X43 hx (hb hby own_d95) rfl rfl rfl ?_
    refine own_to (T' := T43) (mkF m 61 #[rv a, rv aC, iv 2, iv wd, iv pl, iv wb, iv 0, iv 63, iv 2] [(.long (1 : Int64)), (.ref a)]) (fun _ k => XS.lconst X43.here hx rfl (hb hby own_d96) k) ?_
    refine own_il 63 X43 hx (hb hby own_d97) rfl rfl ?_
    refine own_to (T' := T43) (mkF m 64 #[rv a, rv aC, iv 2, iv wd, iv pl, iv wb, iv 0, iv 63, iv 2] [(.long ((1 : Int64) <<< ((2 : Int32) &&& 0x3f).toInt64)), (.ref a)]) (fun _ k => XS.lshl X43.here hx rfl (hb hby own_d98) rfl k) ?_
    refine own_to (T' := T43) (mkF m 65 #[rv a, rv aC, iv 2, iv wd, iv pl, iv wb, iv 0, iv 63, iv 2] [(.long (1 : Int64)), (.long ((1 : Int64) <<< ((2 : Int32) &&& 0x3f).toInt64)), (.ref a)]) (fun _ k => XS.lconst X43.here hx rfl (hb hby own_d99) k) ?_
    refine own_to (T' := T43) (mkF m 66 #[rv a, rv aC, iv 2, iv wd, iv pl, iv wb, iv 0, iv 63, iv 2] [(.long (((1 : Int64) <<< ((2 : Int32) &&& 0x3f).toInt64) - (1 : Int64))), (.ref a)]) (fun _ k => XS.lsub X43.here hx rfl (hb hby own_d100) rfl k) ?_
    obtain ⟨T44, h44, X44, e44, W44, st44⟩ := putF X43 hx hZ hown (host := "") (Or.inl (own_w hw 36 rfl)) Via.refl e43 F_orderMask_a E_a (Or.inr ⟨(own_w hw 37 rfl), rfl, hnm⟩) (own_w hw 4 rfl) (ty := .long) (by decide) rfl rfl (g := (mkF m 66 #[rv a, rv aC, iv 2, iv wd, iv pl, iv wb, iv 0, iv 63, iv 2] [(.long (((1 : Int64) <<< ((2 : Int32) &&& 0x3f).toInt64) - (1 : Int64))), (.ref a)])) rfl rfl (hb hby own_d101)
    refine own_to (mkF m 69 #[rv a, rv aC, iv 2, iv wd, iv pl, iv wb, iv 0, iv 63, iv 2] []) st44 ?_
    have N44 := Fr.snoc X44 N43 ge_a
    have tmp44 : Fld Z h44 a "com/example/gramstead/gramstead/estimation/RecordLayout" "orderMask" "J" (.long (((1 : Int64) <<< ((2 : Int32) &&& 0x3f).toInt64) - (1 : Int64))) := F_orderMask_a.same W44
    have OL := OL.wr W44 ge_a
    have KP := KP.wr W44 (Or.inl (List.mem_of_getElem? (i := 0) rfl))
    have E_a := E_a.wr W44
    have F_slotLongs_a := F_slotLongs_a.other W44 (Or.inr (slot_ne (Or.inr (own_w hw 31 rfl)) (Or.inr (own_w hw 37 rfl)) (by decide) (t := (.array .int)) (t' := .long) (by decide) (by decide)))
    have F_slotShifts_a := F_slotShifts_a.other W44 (Or.inr (slot_ne (Or.inr (own_w hw 33 rfl)) (Or.inr (own_w hw 37 rfl)) (by decide) (t := (.array .int)) (t' := .long) (by decide) (by decide)))
    have F_orderShift_a := F_orderShift_a.other W44 (Or.inr (slot_ne (Or.inr (own_w hw 39 rfl)) (Or.inr (own_w hw 37 rfl)) (by decide) (t := .int) (t' := .long) (by decide) (by decide)))
    have F_keyLongs_a := F_keyLongs_a.other W44 (Or.inr (slot_ne (Or.inr (own_w hw 41 rfl)) (Or.inr (own_w hw 37 rfl)) (by decide) (t := .int) (t' := .long) (by decide) (by decide)))
    have F_width_a := F_width_a.other W44 (Or.inr (slot_ne (Or.inr (own_w hw 43 rfl)) (Or.inr (own_w hw 37 rfl)) (by decide) (t := .int) (t' := .long) (by decide) (by decide)))
    have V_b38 := V_b38.other W44 (Ne.symm ne_a_b38)
    have V_b40 := V_b40.other W44 (Ne.symm ne_a_b40)
    have F_orderMask_a := tmp44
    refine own_il 71 X44 hx (hb hby own_d102) rfl rfl ?_
    refine own_il 73 X44 hx (hb hby own_d103) rfl rfl ?_
    refine own_isub 74 X44 hx (hb hby own_d104) (z := (61 : Int32)) rfl rfl ?_
    refine own_is 76 #[rv a, rv aC, iv 2, iv wd, iv pl, iv wb, iv 0, iv 61, iv 2] X44 hx (hb hby own_d105) rfl rfl ?_
    refine own_go 84 X44 hx (hb hby own_d106) (by decide) (by decide) ?_
    refine own_aln 85 X44 hx (hb hby own_d107) rfl rfl rfl ?_
    refine own_il 87 X44 hx (hb hby own_d108) rfl rfl ?_
    obtain ⟨T45, h45, X45, e45, W45, st45⟩ := putF X44 hx hZ hown (host := "") (Or.inl (own_w hw 38 rfl)) Via.refl e44 F_orderShift_a E_a (Or.inr ⟨(own_w hw 39 rfl), rfl, hnm⟩) (own_w hw 4 rfl) (ty := .int) (by decide) rfl rfl (g := (mkF m 87 #[rv a, rv aC, iv 2, iv wd, iv pl, iv wb, iv 0, iv 61, iv 2] [(.int (61 : Int32)), (.ref a)])) rfl rfl (hb hby own_d109)
    refine own_to (mkF m 90 #[rv a, rv aC, iv 2, iv wd, iv pl, iv wb, iv 0, iv 61, iv 2] []) st45 ?_
    have N45 := Fr.snoc X45 N44 ge_a
    have tmp45 : Fld Z h45 a "com/example/gramstead/gramstead/estimation/RecordLayout" "orderShift" "I" (.int (61 : Int32)) := F_orderShift_a.same W45
    have OL := OL.wr W45 ge_a
    have KP := KP.wr W45 (Or.inl (List.mem_of_getElem? (i := 0) rfl))
    have E_a := E_a.wr W45
    have F_slotLongs_a := F_slotLongs_a.other W45 (Or.inr (slot_ne (Or.inr (own_w hw 31 rfl)) (Or.inr (own_w hw 39 rfl)) (by decide) (t := (.array .int)) (t' := .int) (by decide) (by decide)))
    have F_slotShifts_a := F_slotShifts_a.other W45 (Or.inr (slot_ne (Or.inr (own_w hw 33 rfl)) (Or.inr (own_w hw 39 rfl)) (by decide) (t := (.array .int)) (t' := .int) (by decide) (by decide)))
    have F_orderMask_a := F_orderMask_a.other W45 (Or.inr (slot_ne (Or.inr (own_w hw 37 rfl)) (Or.inr (own_w hw 39 rfl)) (by decide) (t := .long) (t' := .int) (by decide) (by decide)))
    have F_keyLongs_a := F_keyLongs_a.other W45 (Or.inr (slot_ne (Or.inr (own_w hw 41 rfl)) (Or.inr (own_w hw 39 rfl)) (by decide) (t := .int) (t' := .int) (by decide) (by decide)))
    have F_width_a := F_width_a.other W45 (Or.inr (slot_ne (Or.inr (own_w hw 43 rfl)) (Or.inr (own_w hw 39 rfl)) (by decide) (t := .int) (t' := .int) (by decide) (by decide)))
    have V_b38 := V_b38.other W45 (Ne.symm ne_a_b38)
    have V_b40 := V_b40.other W45 (Ne.symm ne_a_b40)
    have F_orderShift_a := tmp45
    refine own_ic 91 0 X45 hx (hb hby own_d110) rfl rfl ?_
    refine own_is 93 #[rv a, rv aC, iv 2, iv wd, iv pl, iv wb, iv 0, iv 61, iv 0] X45 hx (hb hby own_d111) rfl rfl ?_
    refine own_il 95 X45 hx (hb hby own_d112) rfl rfl ?_
    refine own_iln 96 X45 hx (hb hby own_d113) rfl rfl ?_
    refine own_icN 99 X45 hx (hb hby own_d114) (tlt (by decide : (0 : Int32) < (2 : Int32))).2.1 rfl ?_
    refine own_il 101 X45 hx (hb hby own_d115) rfl rfl ?_
    refine own_il 103 X45 hx (hb hby own_d116) rfl rfl ?_
    refine own_icY 113 X45 hx (hb hby own_d117) (flt (own_ge (61 : Int32) 61 rfl (by decide) hb2)).2.1 (by decide) (by decide) ?_
    have hl0 : 0 ≤ (0 : Int32).toInt ∧ (0 : Int32).toInt ≤ 0 := by decide
    refine own_il 115 X45 hx (hb hby own_d118) rfl rfl ?_
    refine own_il 117 X45 hx (hb hby own_d119) rfl rfl ?_
    refine own_isub 118 X45 hx (hb hby own_d120) rfl rfl ?_
    refine own_is 120 #[rv a, rv aC, iv 2, iv wd, iv pl, iv wb, iv 0, iv ((61 : Int32) - wb), iv 0] X45 hx (hb hby own_d121) rfl rfl ?_
    refine own_aln 121 X45 hx (hb hby own_d122) rfl rfl rfl ?_
    obtain ⟨T46, X46, e46, st46⟩ := getF X45 hx hZ hown (host := "") (Or.inl (own_w hw 30 rfl)) Via.refl e45 F_slotLongs_a (g := (mkF m 121 #[rv a, rv aC, iv 2, iv wd, iv pl, iv wb, iv 0, iv ((61 : Int32) - wb), iv 0] [(.ref a)])) rfl rfl (hb hby own_d123)
    refine own_to (mkF m 124 #[rv a, rv aC, iv 2, iv wd, iv pl, iv wb, iv 0, iv ((61 : Int32) - wb), iv 0] [(.ref b38)]) st46 ?_
    refine own_il 126 X46 hx (hb hby own_d124) rfl rfl ?_
    refine own_il 128 X46 hx (hb hby own_d125) rfl rfl ?_
    obtain ⟨cl47, Ar47, q47, S47, M47, H47, G47⟩ := id V_b38
    obtain ⟨T47, h47, X47, e47, W47, st47⟩ := stI X46 hx hZ e46 Ar47 (j := (0 : Int32)) (inb_of S47 ⟨by decide, by decide⟩) (g := (mkF m 128 #[rv a, rv aC, iv 2, iv wd, iv pl, iv wb, iv 0, iv ((61 : Int32) - wb), iv 0] [(.int (0 : Int32)), (.int (0 : Int32)), (.ref b38)])) rfl rfl (hb hby own_d126)
    refine own_to (mkF m 129 #[rv a, rv aC, iv 2, iv wd, iv pl, iv wb, iv 0, iv ((61 : Int32) - wb), iv 0] []) st47 ?_
    have N47 := Fr.snoc X47 N45 ge_b38
    have tmp47 : Arv Z h47 b38 k38 .int (2 : Int32) [(.int (0 : Int32)), (.int (0 : Int32))] (.int (0 : Int32)) := Arv.set Ar47 q47 S47 M47 H47 G47 rfl W47 0 rfl (Nat.le_of_ble_eq_true rfl)
    have OL := OL.wr W47 ge_b38
    have KP := KP.wr W47 (Or.inr sz_b38)
    have E_a := E_a.wr W47
    have F_slotLongs_a := F_slotLongs_a.other W47 (Or.inl ne_a_b38)
    have F_slotShifts_a := F_slotShifts_a.other W47 (Or.inl ne_a_b38)
    have F_keyLongs_a := F_keyLongs_a.other W47 (Or.inl ne_a_b38)
    have F_width_a := F_width_a.other W47 (Or.inl ne_a_b38)
    have V_b40 := V_b40.other W47 (Ne.symm ne_b38_b40)
    have V_b38 := tmp47
    refine own_aln 130 X47 hx (hb hby own_d127) rfl rfl rfl ?_
    obtain ⟨T48, X48, e48, st48⟩ := getF X47 hx hZ hown (host := "") (Or.inl (own_w hw 32 rfl)) Via.refl e47 F_slotShifts_a (g := (mkF m 130 #[rv a, rv aC, iv 2, iv wd, iv pl, iv wb, iv 0, iv ((61 : Int32) - wb), iv 0] [(.ref a)])) rfl rfl (hb hby own_d128)
    refine own_to (mkF m 133 #[rv a, rv aC, iv 2, iv wd, iv pl, iv wb, iv 0, iv ((61 : Int32) - wb), iv 0] [(.ref b40)]) st48 ?_
    refine own_il 135 X48 hx (hb hby own_d129) rfl rfl ?_
    refine own_il 137 X48 hx (hb hby own_d130) rfl rfl ?_
    obtain ⟨cl49, Ar49, q49, S49, M49, H49, G49⟩ := id V_b40
    obtain ⟨T49, h49, X49, e49, W49, st49⟩ := stI X48 hx hZ e48 Ar49 (j := (0 : Int32)) (inb_of S49 ⟨by decide, by decide⟩) (g := (mkF m 137 #[rv a, rv aC, iv 2, iv wd, iv pl, iv wb, iv 0, iv ((61 : Int32) - wb), iv 0] [(.int ((61 : Int32) - wb)), (.int (0 : Int32)), (.ref b40)])) rfl rfl (hb hby own_d131)
    refine own_to (mkF m 138 #[rv a, rv aC, iv 2, iv wd, iv pl, iv wb, iv 0, iv ((61 : Int32) - wb), iv 0] []) st49 ?_
    have N49 := Fr.snoc X49 N47 ge_b40
    have tmp49 : Arv Z h49 b40 k40 .int (2 : Int32) [(.int ((61 : Int32) - wb)), (.int (0 : Int32))] (.int (0 : Int32)) := Arv.set Ar49 q49 S49 M49 H49 G49 rfl W49 0 rfl (Nat.le_of_ble_eq_true rfl)
    have OL := OL.wr W49 ge_b40
    have KP := KP.wr W49 (Or.inr sz_b40)
    have E_a := E_a.wr W49
    have F_slotLongs_a := F_slotLongs_a.other W49 (Or.inl ne_a_b40)
    have F_slotShifts_a := F_slotShifts_a.other W49 (Or.inl ne_a_b40)
    have F_keyLongs_a := F_keyLongs_a.other W49 (Or.inl ne_a_b40)
    have F_width_a := F_width_a.other W49 (Or.inl ne_a_b40)
    have V_b38 := V_b38.other W49 ne_b38_b40
    have V_b40 := tmp49
    refine own_inc 141 #[rv a, rv aC, iv 2, iv wd, iv pl, iv wb, iv 0, iv ((61 : Int32) - wb), iv 1] X49 hx (hb hby own_d132) rfl rfl rfl ?_
    refine own_go 93 X49 hx (hb hby own_d133) (by decide) (by decide) ?_
    refine own_il 95 X49 hx (hb hby own_d112) rfl rfl ?_
    refine own_iln 96 X49 hx (hb hby own_d113) rfl rfl ?_
    refine own_icN 99 X49 hx (hb hby own_d114) (tlt (by decide : (1 : Int32) < (2 : Int32))).2.1 rfl ?_
    refine own_il 101 X49 hx (hb hby own_d115) rfl rfl ?_
    refine own_il 103 X49 hx (hb hby own_d116) rfl rfl ?_
    suffices jn50 : ∀ lg1 : Int32, (((61 : Int32) - wb) < wb → lg1 = ((0 : Int32) + (1 : Int32))) → (¬ ((61 : Int32) - wb) < wb → lg1 = (0 : Int32)) → ∀ sh1 : Int32, (((61 : Int32) - wb) < wb → sh1 = (63 : Int32)) → (¬ ((61 : Int32) - wb) < wb → sh1 = ((61 : Int32) - wb)) → own_E p e below (own_Fin s (own_QCC Z a aC aS (2 : Int32) wd pl h0 n0) ({ frames := 2, cells := 2, slots := 8, locals := 40 } : Room).cells ({ frames := 2, cells := 2, slots := 8, locals := 40 } : Room).slots) T49 (mkF m 113 #[rv a, rv aC, iv 2, iv wd, iv pl, iv wb, iv lg1, iv sh1, iv 1] []) from by
      by_cases hj1 : ((61 : Int32) - wb) < wb
      · refine own_icN 106 X49 hx (hb hby own_d117) (tlt hj1).2.1 rfl ?_
        refine own_inc 109 #[rv a, rv aC, iv 2, iv wd, iv pl, iv wb, iv ((0 : Int32) + (1 : Int32)), iv ((61 : Int32) - wb), iv 1] X49 hx (hb hby own_d146) rfl rfl rfl ?_
        refine own_bi 111 63 X49 hx (hb hby own_d147) rfl rfl ?_
        refine own_is 113 #[rv a, rv aC, iv 2, iv wd, iv pl, iv wb, iv ((0 : Int32) + (1 : Int32)), iv 63, iv 1] X49 hx (hb hby own_d148) rfl rfl ?_
        exact jn50 ((0 : Int32) + (1 : Int32)) (fun _ => rfl) (fun q => absurd hj1 q) (63 : Int32) (fun _ => rfl) (fun q => absurd hj1 q)
      · refine own_icY 113 X49 hx (hb hby own_d117) (flt hj1).2.1 (by decide) (by decide) ?_
        exact jn50 (0 : Int32) (fun q => absurd q hj1) (fun _ => rfl) ((61 : Int32) - wb) (fun q => absurd q hj1) (fun _ => rfl)
    intro lg1 hlg1t hlg1f sh1 hsh1t hsh1f
    have hl1 := own_incr (k := 0) (by decide) hl0 hlg1t hlg1f
    refine own_il 115 X49 hx (hb hby own_d118) rfl rfl ?_
    refine own_il 117 X49 hx (hb hby own_d119) rfl rfl ?_
    refine own_isub 118 X49 hx (hb hby own_d120) rfl rfl ?_
    refine own_is 120 #[rv a, rv aC, iv 2, iv wd, iv pl, iv wb, iv lg1, iv (sh1 - wb), iv 1] X49 hx (hb hby own_d121) rfl rfl ?_
    refine own_aln 121 X49 hx (hb hby own_d122) rfl rfl rfl ?_
    obtain ⟨T51, X51, e51, st51⟩ := getF X49 hx hZ hown (host := "") (Or.inl (own_w hw 30 rfl)) Via.refl e49 F_slotLongs_a (g := (mkF m 121 #[rv a, rv aC, iv 2, iv wd, iv pl, iv wb, iv lg1, iv (sh1 - wb), iv 1] [(.ref a)])) rfl rfl (hb hby own_d123)
    refine own_to (mkF m 124 #[rv a, rv aC, iv 2, iv wd, iv pl, iv wb, iv lg1, iv (sh1 - wb), iv 1] [(.ref b38)]) st51 ?_
    refine own_il 126 X51 hx (hb hby own_d124) rfl rfl ?_
    refine own_il 128 X51 hx (hb hby own_d125) rfl rfl ?_
    obtain ⟨cl52, Ar52, q52, S52, M52, H52, G52⟩ := id V_b38
    obtain ⟨T52, h52, X52, e52, W52, st52⟩ := stI X51 hx hZ e51 Ar52 (j := (1 : Int32)) (inb_of S52 ⟨by decide, by decide⟩) (g := (mkF m 128 #[rv a, rv aC, iv 2, iv wd, iv pl, iv wb, iv lg1, iv (sh1 - wb), iv 1] [(.int lg1), (.int (1 : Int32)), (.ref b38)])) rfl rfl (hb hby own_d126)
    refine own_to (mkF m 129 #[rv a, rv aC, iv 2, iv wd, iv pl, iv wb, iv lg1, iv (sh1 - wb), iv 1] []) st52 ?_
    have N52 := Fr.snoc X52 N49 ge_b38
    have tmp52 : Arv Z h52 b38 k38 .int (2 : Int32) [(.int (0 : Int32)), (.int lg1)] (.int (0 : Int32)) := Arv.set Ar52 q52 S52 M52 H52 G52 rfl W52 1 rfl (Nat.le_of_ble_eq_true rfl)
    have OL := OL.wr W52 ge_b38
    have KP := KP.wr W52 (Or.inr sz_b38)
    have E_a := E_a.wr W52
    have F_slotLongs_a := F_slotLongs_a.other W52 (Or.inl ne_a_b38)
    have F_slotShifts_a := F_slotShifts_a.other W52 (Or.inl ne_a_b38)
    have F_keyLongs_a := F_keyLongs_a.other W52 (Or.inl ne_a_b38)
    have F_width_a := F_width_a.other W52 (Or.inl ne_a_b38)
    have V_b40 := V_b40.other W52 (Ne.symm ne_b38_b40)
    have V_b38 := tmp52
    refine own_aln 130 X52 hx (hb hby own_d127) rfl rfl rfl ?_
    obtain ⟨T53, X53, e53, st53⟩ := getF X52 hx hZ hown (host := "") (Or.inl (own_w hw 32 rfl)) Via.refl e52 F_slotShifts_a (g := (mkF m 130 #[rv a, rv aC, iv 2, iv wd, iv pl, iv wb, iv lg1, iv (sh1 - wb), iv 1] [(.ref a)])) rfl rfl (hb hby own_d128)
    refine own_to (mkF m 133 #[rv a, rv aC, iv 2, iv wd, iv pl, iv wb, iv lg1, iv (sh1 - wb), iv 1] [(.ref b40)]) st53 ?_
    refine own_il 135 X53 hx (hb hby own_d129) rfl rfl ?_
    refine own_il 137 X53 hx (hb hby own_d130) rfl rfl ?_
    obtain ⟨cl54, Ar54, q54, S54, M54, H54, G54⟩ := id V_b40
    obtain ⟨T54, h54, X54, e54, W54, st54⟩ := stI X53 hx hZ e53 Ar54 (j := (1 : Int32)) (inb_of S54 ⟨by decide, by decide⟩) (g := (mkF m 137 #[rv a, rv aC, iv 2, iv wd, iv pl, iv wb, iv lg1, iv (sh1 - wb), iv 1] [(.int (sh1 - wb)), (.int (1 : Int32)), (.ref b40)])) rfl rfl (hb hby own_d131)
    refine own_to (mkF m 138 #[rv a, rv aC, iv 2, iv wd, iv pl, iv wb, iv lg1, iv (sh1 - wb), iv 1] []) st54 ?_
    have N54 := Fr.snoc X54 N52 ge_b40
    have tmp54 : Arv Z h54 b40 k40 .int (2 : Int32) [(.int ((61 : Int32) - wb)), (.int (sh1 - wb))] (.int (0 : Int32)) := Arv.set Ar54 q54 S54 M54 H54 G54 rfl W54 1 rfl (Nat.le_of_ble_eq_true rfl)
    have OL := OL.wr W54 ge_b40
    have KP := KP.wr W54 (Or.inr sz_b40)
    have E_a := E_a.wr W54
    have F_slotLongs_a := F_slotLongs_a.other W54 (Or.inl ne_a_b40)
    have F_slotShifts_a := F_slotShifts_a.other W54 (Or.inl ne_a_b40)
    have F_keyLongs_a := F_keyLongs_a.other W54 (Or.inl ne_a_b40)
    have F_width_a := F_width_a.other W54 (Or.inl ne_a_b40)
    have V_b38 := V_b38.other W54 ne_b38_b40
    have V_b40 := tmp54
    refine own_inc 141 #[rv a, rv aC, iv 2, iv wd, iv pl, iv wb, iv lg1, iv (sh1 - wb), iv 2] X54 hx (hb hby own_d132) rfl rfl rfl ?_
    refine own_go 93 X54 hx (hb hby own_d133) (by decide) (by decide) ?_
    refine own_il 95 X54 hx (hb hby own_d112) rfl rfl ?_
    refine own_iln 96 X54 hx (hb hby own_d113) rfl rfl ?_
    refine own_icY 144 X54 hx (hb hby own_d114) (flt (by decide : ¬ ((2 : Int32) < (2 : Int32)))).2.1 (by decide) (by decide) ?_
    refine own_aln 145 X54 hx (hb hby own_d134) rfl rfl rfl ?_
    refine own_il 147 X54 hx (hb hby own_d135) rfl rfl ?_
    refine own_ic 148 1 X54 hx (hb hby own_d136) rfl rfl ?_
    refine own_iadd 149 X54 hx (hb hby own_d137) rfl rfl ?_
    obtain ⟨T55, h55, X55, e55, W55, st55⟩ := putF X54 hx hZ hown (host := "") (Or.inl (own_w hw 40 rfl)) Via.refl e54 F_keyLongs_a E_a (Or.inr ⟨(own_w hw 41 rfl), rfl, hnm⟩) (own_w hw 4 rfl) (ty := .int) (by decide) rfl rfl (g := (mkF m 149 #[rv a, rv aC, iv 2, iv wd, iv pl, iv wb, iv lg1, iv (sh1 - wb), iv 2] [(.int (lg1 + (1 : Int32))), (.ref a)])) rfl rfl (hb hby own_d138)
    refine own_to (mkF m 152 #[rv a, rv aC, iv 2, iv wd, iv pl, iv wb, iv lg1, iv (sh1 - wb), iv 2] []) st55 ?_
    have N55 := Fr.snoc X55 N54 ge_a
    have tmp55 : Fld Z h55 a "com/example/gramstead/gramstead/estimation/RecordLayout" "keyLongs" "I" (.int (lg1 + (1 : Int32))) := F_keyLongs_a.same W55
    have OL := OL.wr W55 ge_a
    have KP := KP.wr W55 (Or.inl (List.mem_of_getElem? (i := 0) rfl))
    have E_a := E_a.wr W55
    have F_width_a := F_width_a.other W55 (Or.inr (slot_ne (Or.inr (own_w hw 43 rfl)) (Or.inr (own_w hw 41 rfl)) (by decide) (t := .int) (t' := .int) (by decide) (by decide)))
    have F_keyLongs_a := tmp55
    refine own_aln 153 X55 hx (hb hby own_d139) rfl rfl rfl ?_
    refine own_aln 154 X55 hx (hb hby own_d140) rfl rfl rfl ?_
    obtain ⟨T56, X56, e56, st56⟩ := getF X55 hx hZ hown (host := "") (Or.inl (own_w hw 40 rfl)) Via.refl e55 F_keyLongs_a (g := (mkF m 154 #[rv a, rv aC, iv 2, iv wd, iv pl, iv wb, iv lg1, iv (sh1 - wb), iv 2] [(.ref a), (.ref a)])) rfl rfl (hb hby own_d141)
    refine own_to (mkF m 157 #[rv a, rv aC, iv 2, iv wd, iv pl, iv wb, iv lg1, iv (sh1 - wb), iv 2] [(.int (lg1 + (1 : Int32))), (.ref a)]) st56 ?_
    refine own_il 159 X56 hx (hb hby own_d142) rfl rfl ?_
    refine own_iadd 160 X56 hx (hb hby own_d143) rfl rfl ?_
    obtain ⟨T57, h57, X57, e57, W57, st57⟩ := putF X56 hx hZ hown (host := "") (Or.inl (own_w hw 42 rfl)) Via.refl e56 F_width_a E_a (Or.inr ⟨(own_w hw 43 rfl), rfl, hnm⟩) (own_w hw 4 rfl) (ty := .int) (by decide) rfl rfl (g := (mkF m 160 #[rv a, rv aC, iv 2, iv wd, iv pl, iv wb, iv lg1, iv (sh1 - wb), iv 2] [(.int ((lg1 + (1 : Int32)) + pl)), (.ref a)])) rfl rfl (hb hby own_d144)
    refine own_to (mkF m 163 #[rv a, rv aC, iv 2, iv wd, iv pl, iv wb, iv lg1, iv (sh1 - wb), iv 2] []) st57 ?_
    have N57 := Fr.snoc X57 N55 ge_a
    have tmp57 : Fld Z h57 a "com/example/gramstead/gramstead/estimation/RecordLayout" "width" "I" (.int ((lg1 + (1 : Int32)) + pl)) := F_width_a.same W57
    have OL := OL.wr W57 ge_a
    have KP := KP.wr W57 (Or.inl (List.mem_of_getElem? (i := 0) rfl))
    have E_a := E_a.wr W57
    have F_keyLongs_a := F_keyLongs_a.other W57 (Or.inr (slot_ne (Or.inr (own_w hw 41 rfl)) (Or.inr (own_w hw 43 rfl)) (by decide) (t := .int) (t' := .int) (by decide) (by decide)))
    have F_width_a := tmp57
    exact own_ret0 X57 hx Bd.returns hlk (hb hby own_d145) (by decide) (by decide) (by rw [e57]; exact ⟨rfl, N57, KP, E_a, (lg1 + (1 : Int32)), (own_kl (k := 1) (by decide) hl1).1, (own_kl (k := 1) (by decide) hl1).2, F_keyLongs_a, F_width_a⟩)
  · subst q
    refine own_aln 1 X0 hx (hb hby own_d62) rfl rfl rfl ?_
    obtain ⟨T58, X58, e58, st58⟩ := initO X0 hx hZ hown (own_w hw 10 rfl) (own_w hw 11 rfl) (own_w hw 12 rfl) e0 (g := (mkF m 1 #[rv a, rv aC, iv 3, iv wd, iv pl, .unset, .unset, .unset, .unset] [(.ref a)])) rfl (by rw [hml]; rfl) rfl (hb hby own_d63) (by decide) (W := 0) (by show 2 * 0 + _ ≤ _; exact Nat.le_of_eq rfl) (by decide)
    refine own_to (mkF m 4 #[rv a, rv aC, iv 3, iv wd, iv pl, .unset, .unset, .unset, .unset] []) st58 ?_
    refine own_aln 5 X58 hx (hb hby own_d64) rfl rfl rfl ?_
    refine own_aln 6 X58 hx (hb hby own_d65) rfl rfl rfl ?_
    obtain ⟨T59, h59, X59, e59, W59, st59⟩ := putF X58 hx hZ hown (host := "") (Or.inl (own_w hw 13 rfl)) Via.refl e58 F_order_a E_a (Or.inr ⟨(own_w hw 14 rfl), rfl, hnm⟩) (own_w hw 4 rfl) (ty := (.object "com/example/gramstead/gramstead/estimation/RecordOrder")) (by decide) rfl rfl (g := (mkF m 6 #[rv a, rv aC, iv 3, iv wd, iv pl, .unset, .unset, .unset, .unset] [(.ref aC), (.ref a)])) rfl rfl (hb hby own_d66)
    refine own_to (mkF m 9 #[rv a, rv aC, iv 3, iv wd, iv pl, .unset, .unset, .unset, .unset] []) st59 ?_
    have N59 := Fr.snoc X59 N0 ge_a
    have tmp59 : Fld Z h59 a "com/example/gramstead/gramstead/estimation/RecordLayout" "order" "Lcom/example/gramstead/gramstead/estimation/RecordOrder;" (.ref aC) := F_order_a.same W59
    have OL := OL.wr W59 ge_a
    have KP := KP.wr W59 (Or.inl (List.mem_of_getElem? (i := 0) rfl))
    have E_a := E_a.wr W59
    have F_wordMask_a := F_wordMask_a.other W59 (Or.inr (slot_ne (Or.inr (own_w hw 28 rfl)) (Or.inr (own_w hw 14 rfl)) (by decide) (t := .long) (t' := (.object "com/example/gramstead/gramstead/estimation/RecordOrder")) (by decide) (by decide)))
    have F_slotLongs_a := F_slotLongs_a.other W59 (Or.inr (slot_ne (Or.inr (own_w hw 31 rfl)) (Or.inr (own_w hw 14 rfl)) (by decide) (t := (.array .int)) (t' := (.object "com/example/gramstead/gramstead/estimation/RecordOrder")) (by decide) (by decide)))
    have F_slotShifts_a := F_slotShifts_a.other W59 (Or.inr (slot_ne (Or.inr (own_w hw 33 rfl)) (Or.inr (own_w hw 14 rfl)) (by decide) (t := (.array .int)) (t' := (.object "com/example/gramstead/gramstead/estimation/RecordOrder")) (by decide) (by decide)))
    have F_orderMask_a := F_orderMask_a.other W59 (Or.inr (slot_ne (Or.inr (own_w hw 37 rfl)) (Or.inr (own_w hw 14 rfl)) (by decide) (t := .long) (t' := (.object "com/example/gramstead/gramstead/estimation/RecordOrder")) (by decide) (by decide)))
    have F_orderShift_a := F_orderShift_a.other W59 (Or.inr (slot_ne (Or.inr (own_w hw 39 rfl)) (Or.inr (own_w hw 14 rfl)) (by decide) (t := .int) (t' := (.object "com/example/gramstead/gramstead/estimation/RecordOrder")) (by decide) (by decide)))
    have F_keyLongs_a := F_keyLongs_a.other W59 (Or.inr (slot_ne (Or.inr (own_w hw 41 rfl)) (Or.inr (own_w hw 14 rfl)) (by decide) (t := .int) (t' := (.object "com/example/gramstead/gramstead/estimation/RecordOrder")) (by decide) (by decide)))
    have F_width_a := F_width_a.other W59 (Or.inr (slot_ne (Or.inr (own_w hw 43 rfl)) (Or.inr (own_w hw 14 rfl)) (by decide) (t := .int) (t' := (.object "com/example/gramstead/gramstead/estimation/RecordOrder")) (by decide) (by decide)))
    have F_order_a := tmp59
    refine own_iln 10 X59 hx (hb hby own_d67) rfl rfl ?_
    obtain ⟨_, T60, Lc60, X60, hQ60, st60⟩ := own_callS X59 hx (y := (⟨"com/example/gramstead/gramstead/estimation/RecordLayout", "bitsFor", "(I)I"⟩ : MethodName)) hown (mvT hZ (own_w hw 15 rfl)) (mvT hZ (own_w hw 16 rfl)) (mvT hZ (own_w hw 5 rfl)) (mvT hZ (own_w hw 17 rfl)) (by decide) (backOf (W := 0) (own_rmB l Z a0 hw [] wd h59 n0 (Nat.le_trans Z0 KP.1) OL hwd) hZ (own_w hw 17 rfl) (own_w hw 5 rfl) (by decide) (by decide)) (g := (mkF m 10 #[rv a, rv aC, iv 3, iv wd, iv pl, .unset, .unset, .unset, .unset] [(.int wd)])) rfl (by rw [hml]; rfl) (argsL := [(.int wd)]) (rest := []) (lenOf own_pd0 rfl) rfl (by show 2 * 0 + _ ≤ _; exact Nat.le_of_eq rfl) (hb hby own_d68) rfl e59 (kc := 0) (ks := 0) rfl rfl (by decide) (by decide)
    obtain ⟨wb, rfl, hb1, hb2, N60q, e60⟩ := hQ60
    have N60 := Fr.app N59 N60q
    refine own_to (mkF m 13 #[rv a, rv aC, iv 3, iv wd, iv pl, .unset, .unset, .unset, .unset] [(.int wb)]) st60 ?_
    refine own_is 15 #[rv a, rv aC, iv 3, iv wd, iv pl, iv wb, .unset, .unset, .unset] X60 hx (hb hby own_d69) rfl rfl ?_
    refine own_aln 16 X60 hx (hb hby own_d70) rfl rfl rfl ?_
    refine own_to (T' := T60) (mkF m 17 #[rv a, rv aC, iv 3, iv wd, iv pl, iv wb, .unset, .unset, .unset] [(.long (1 : Int64)), (.ref a)]) (fun _ k => XS.lconst X60.here hx rfl (hb hby own_d71) k) ?_
    refine own_il 19 X60 hx (hb hby own_d72) rfl rfl ?_
    refine own_to (T' := T60) (mkF m 20 #[rv a, rv aC, iv 3, iv wd, iv pl, iv wb, .unset, .unset, .unset] [(.long ((1 : Int64) <<< (wb &&& 0x3f).toInt64)), (.ref a)]) (fun _ k => XS.lshl X60.here hx rfl (hb hby own_d73) rfl k) ?_
    refine own_to (T' := T60) (mkF m 21 #[rv a, rv aC, iv 3, iv wd, iv pl, iv wb, .unset, .unset, .unset] [(.long (1 : Int64)), (.long ((1 : Int64) <<< (wb &&& 0x3f).toInt64)), (.ref a)]) (fun _ k => XS.lconst X60.here hx rfl (hb hby own_d74) k) ?_
    refine own_to (T' := T60) (mkF m 22 #[rv a, rv aC, iv 3, iv wd, iv pl, iv wb, .unset, .unset, .unset] [(.long (((1 : Int64) <<< (wb &&& 0x3f).toInt64) - (1 : Int64))), (.ref a)]) (fun _ k => XS.lsub X60.here hx rfl (hb hby own_d75) rfl k) ?_
    obtain ⟨T61, h61, X61, e61, W61, st61⟩ := putF X60 hx hZ hown (host := "") (Or.inl (own_w hw 27 rfl)) Via.refl e60 F_wordMask_a E_a (Or.inr ⟨(own_w hw 28 rfl), rfl, hnm⟩) (own_w hw 4 rfl) (ty := .long) (by decide) rfl rfl (g := (mkF m 22 #[rv a, rv aC, iv 3, iv wd, iv pl, iv wb, .unset, .unset, .unset] [(.long (((1 : Int64) <<< (wb &&& 0x3f).toInt64) - (1 : Int64))), (.ref a)])) rfl rfl (hb hby own_d76)
    refine own_to (mkF m 25 #[rv a, rv aC, iv 3, iv wd, iv pl, iv wb, .unset, .unset, .unset] []) st61 ?_
    have N61 := Fr.snoc X61 N60 ge_a
    have tmp61 : Fld Z h61 a "com/example/gramstead/gramstead/estimation/RecordLayout" "wordMask" "J" (.long (((1 : Int64) <<< (wb &&& 0x3f).toInt64) - (1 : Int64))) := F_wordMask_a.same W61
    have OL := OL.wr W61 ge_a
    have KP := KP.wr W61 (Or.inl (List.mem_of_getElem? (i := 0) rfl))
    have E_a := E_a.wr W61
    have F_slotLongs_a := F_slotLongs_a.other W61 (Or.inr (slot_ne (Or.inr (own_w hw 31 rfl)) (Or.inr (own_w hw 28 rfl)) (by decide) (t := (.array .int)) (t' := .long) (by decide) (by decide)))
    have F_slotShifts_a := F_slotShifts_a.other W61 (Or.inr (slot_ne (Or.inr (own_w hw 33 rfl)) (Or.inr (own_w hw 28 rfl)) (by decide) (t := (.array .int)) (t' := .long) (by decide) (by decide)))
    have F_orderMask_a := F_orderMask_a.other W61 (Or.inr (slot_ne (Or.inr (own_w hw 37 rfl)) (Or.inr (own_w hw 28 rfl)) (by decide) (t := .long) (t' := .long) (by decide) (by decide)))
    have F_orderShift_a := F_orderShift_a.other W61 (Or.inr (slot_ne (Or.inr (own_w hw 39 rfl)) (Or.inr (own_w hw 28 rfl)) (by decide) (t := .int) (t' := .long) (by decide) (by decide)))
    have F_keyLongs_a := F_keyLongs_a.other W61 (Or.inr (slot_ne (Or.inr (own_w hw 41 rfl)) (Or.inr (own_w hw 28 rfl)) (by decide) (t := .int) (t' := .long) (by decide) (by decide)))
    have F_width_a := F_width_a.other W61 (Or.inr (slot_ne (Or.inr (own_w hw 43 rfl)) (Or.inr (own_w hw 28 rfl)) (by decide) (t := .int) (t' := .long) (by decide) (by decide)))
    have F_wordMask_a := tmp61
    refine own_aln 26 X61 hx (hb hby own_d77) rfl rfl rfl ?_
    refine own_iln 27 X61 hx (hb hby own_d78) rfl rfl ?_
    obtain ⟨T62, h62, k62, X62, e62, E62, A62, B62, st62⟩ := newPE X61 hx hZ (own_w hw 29 rfl) e61 (g := (mkF m 27 #[rv a, rv aC, iv 3, iv wd, iv pl, iv wb, .unset, .unset, .unset] [(.int (3 : Int32)), (.ref a)])) rfl (hb hby own_d79) rfl (by decide) (cap := 3) (by decide) (by decide) (by decide) (by decide) (ad := "[I") (by decide)
    obtain ⟨b62, g62⟩ : ∃ z, z = h61.size := ⟨_, rfl⟩
    rw [← g62] at A62 B62 st62
    have sz_b62 : h0.size ≤ b62 := Nat.le_trans KP.1 (Nat.le_of_eq g62.symm)
    have ge_b62 : n0 ≤ b62 := Nat.le_trans Z0 sz_b62
    have ne_a_b62 : a ≠ b62 := Nat.ne_of_lt (Nat.lt_of_lt_of_le E_a.lt (Nat.le_of_eq g62.symm))
    have OL := OL.ext E62
    have KP := KP.ext E62
    have E_a := E_a.ext E62
    have F_slotLongs_a := F_slotLongs_a.ext E62
    have F_slotShifts_a := F_slotShifts_a.ext E62
    have F_orderMask_a := F_orderMask_a.ext E62
    have F_orderShift_a := F_orderShift_a.ext E62
    have F_keyLongs_a := F_keyLongs_a.ext E62
    have F_width_a := F_width_a.ext E62
    have V_b62 : Arv Z h62 b62 k62 .int (3 : Int32) [(.int (0 : Int32)), (.int (0 : Int32)), (.int (0 : Int32))] (.int (0 : Int32)) := (Arv.new A62 (by decide)).pad (pad_rep [] (.int (0 : Int32)) 3)
    refine own_to (mkF m 29 #[rv a, rv aC, iv 3, iv wd, iv pl, iv wb, .unset, .unset, .unset] [(.ref b62), (.ref a)]) st62 ?_
    obtain ⟨T63, h63, X63, e63, W63, st63⟩ := putF X62 hx hZ hown (host := "") (Or.inl (own_w hw 30 rfl)) Via.refl e62 F_slotLongs_a E_a (Or.inr ⟨(own_w hw 31 rfl), rfl, hnm⟩) (own_w hw 4 rfl) (ty := (.array .int)) (by decide) rfl rfl (g := (mkF m 29 #[rv a, rv aC, iv 3, iv wd, iv pl, iv wb, .unset, .unset, .unset] [(.ref b62), (.ref a)])) rfl rfl (hb hby own_d80)
    refine own_to (mkF m 32 #[rv a, rv aC, iv 3, iv wd, iv pl, iv wb, .unset, .unset, .unset] []) st63 ?_
    have N63 := Fr.snoc X63 N61 ge_a
    have tmp63 : Fld Z h63 a "com/example/gramstead/gramstead/estimation/RecordLayout" "slotLongs" "[I" (.ref b62) := F_slotLongs_a.same W63
    have OL := OL.wr W63 ge_a
    have KP := KP.wr W63 (Or.inl (List.mem_of_getElem? (i := 0) rfl))
    have E_a := E_a.wr W63
    have F_slotShifts_a := F_slotShifts_a.other W63 (Or.inr (slot_ne (Or.inr (own_w hw 33 rfl)) (Or.inr (own_w hw 31 rfl)) (by decide) (t := (.array .int)) (t' := (.array .int)) (by decide) (by decide)))
    have F_orderMask_a := F_orderMask_a.other W63 (Or.inr (slot_ne (Or.inr (own_w hw 37 rfl)) (Or.inr (own_w hw 31 rfl)) (by decide) (t := .long) (t' := (.array .int)) (by decide) (by decide)))
    have F_orderShift_a := F_orderShift_a.other W63 (Or.inr (slot_ne (Or.inr (own_w hw 39 rfl)) (Or.inr (own_w hw 31 rfl)) (by decide) (t := .int) (t' := (.array .int)) (by decide) (by decide)))
    have F_keyLongs_a := F_keyLongs_a.other W63 (Or.inr (slot_ne (Or.inr (own_w hw 41 rfl)) (Or.inr (own_w hw 31 rfl)) (by decide) (t := .int) (t' := (.array .int)) (by decide) (by decide)))
    have F_width_a := F_width_a.other W63 (Or.inr (slot_ne (Or.inr (own_w hw 43 rfl)) (Or.inr (own_w hw 31 rfl)) (by decide) (t := .int) (t' := (.array .int)) (by decide) (by decide)))
    have V_b62 := V_b62.other W63 (Ne.symm ne_a_b62)
    have F_slotLongs_a := tmp63
    refine own_aln 33 X63 hx (hb hby own_d81) rfl rfl rfl ?_
    refine own_iln 34 X63 hx (hb hby own_d82) rfl rfl ?_
    obtain ⟨T64, h64, k64, X64, e64, E64, A64, B64, st64⟩ := newPE X63 hx hZ (own_w hw 29 rfl) e63 (g := (mkF m 34 #[rv a, rv aC, iv 3, iv wd, iv pl, iv wb, .unset, .unset, .unset] [(.int (3 : Int32)), (.ref a)])) rfl (hb hby own_d83) rfl (by decide) (cap := 3) (by decide) (by decide) (by decide) (by decide) (ad := "[I") (by decide)
    obtain ⟨b64, g64⟩ : ∃ z, z = h63.size := ⟨_, rfl⟩
    rw [← g64] at A64 B64 st64
    have sz_b64 : h0.size ≤ b64 := Nat.le_trans KP.1 (Nat.le_of_eq g64.symm)
    have ge_b64 : n0 ≤ b64 := Nat.le_trans Z0 sz_b64
    have ne_a_b64 : a ≠ b64 := Nat.ne_of_lt (Nat.lt_of_lt_of_le E_a.lt (Nat.le_of_eq g64.symm))
    have ne_b62_b64 : b62 ≠ b64 := Nat.ne_of_lt (Nat.lt_of_lt_of_le V_b62.lt (Nat.le_of_eq g64.symm))
    have OL := OL.ext E64
    have KP := KP.ext E64
    have E_a := E_a.ext E64
    have F_slotLongs_a := F_slotLongs_a.ext E64
    have F_slotShifts_a := F_slotShifts_a.ext E64
    have F_orderMask_a := F_orderMask_a.ext E64
    have F_orderShift_a := F_orderShift_a.ext E64
    have F_keyLongs_a := F_keyLongs_a.ext E64
    have F_width_a := F_width_a.ext E64
    have V_b62 := V_b62.ext E64
    have V_b64 : Arv Z h64 b64 k64 .int (3 : Int32) [(.int (0 : Int32)), (.int (0 : Int32)), (.int (0 : Int32))] (.int (0 : Int32)) := (Arv.new A64 (by decide)).pad (pad_rep [] (.int (0 : Int32)) 3)
    refine own_to (mkF m 36 #[rv a, rv aC, iv 3, iv wd, iv pl, iv wb, .unset, .unset, .unset] [(.ref b64), (.ref a)]) st64 ?_
    obtain ⟨T65, h65, X65, e65, W65, st65⟩ := putF X64 hx hZ hown (host := "") (Or.inl (own_w hw 32 rfl)) Via.refl e64 F_slotShifts_a E_a (Or.inr ⟨(own_w hw 33 rfl), rfl, hnm⟩) (own_w hw 4 rfl) (ty := (.array .int)) (by decide) rfl rfl (g := (mkF m 36 #[rv a, rv aC, iv 3, iv wd, iv pl, iv wb, .unset, .unset, .unset] [(.ref b64), (.ref a)])) rfl rfl (hb hby own_d84)
    refine own_to (mkF m 39 #[rv a, rv aC, iv 3, iv wd, iv pl, iv wb, .unset, .unset, .unset] []) st65 ?_
    have N65 := Fr.snoc X65 N63 ge_a
    have tmp65 : Fld Z h65 a "com/example/gramstead/gramstead/estimation/RecordLayout" "slotShifts" "[I" (.ref b64) := F_slotShifts_a.same W65
    have OL := OL.wr W65 ge_a
    have KP := KP.wr W65 (Or.inl (List.mem_of_getElem? (i := 0) rfl))
    have E_a := E_a.wr W65
    have F_slotLongs_a := F_slotLongs_a.other W65 (Or.inr (slot_ne (Or.inr (own_w hw 31 rfl)) (Or.inr (own_w hw 33 rfl)) (by decide) (t := (.array .int)) (t' := (.array .int)) (by decide) (by decide)))
    have F_orderMask_a := F_orderMask_a.other W65 (Or.inr (slot_ne (Or.inr (own_w hw 37 rfl)) (Or.inr (own_w hw 33 rfl)) (by decide) (t := .long) (t' := (.array .int)) (by decide) (by decide)))
    have F_orderShift_a := F_orderShift_a.other W65 (Or.inr (slot_ne (Or.inr (own_w hw 39 rfl)) (Or.inr (own_w hw 33 rfl)) (by decide) (t := .int) (t' := (.array .int)) (by decide) (by decide)))
    have F_keyLongs_a := F_keyLongs_a.other W65 (Or.inr (slot_ne (Or.inr (own_w hw 41 rfl)) (Or.inr (own_w hw 33 rfl)) (by decide) (t := .int) (t' := (.array .int)) (by decide) (by decide)))
    have F_width_a := F_width_a.other W65 (Or.inr (slot_ne (Or.inr (own_w hw 43 rfl)) (Or.inr (own_w hw 33 rfl)) (by decide) (t := .int) (t' := (.array .int)) (by decide) (by decide)))
    have V_b62 := V_b62.other W65 (Ne.symm ne_a_b62)
    have V_b64 := V_b64.other W65 (Ne.symm ne_a_b64)
    have F_slotShifts_a := tmp65
    refine own_ic 40 0 X65 hx (hb hby own_d85) rfl rfl ?_
    refine own_is 42 #[rv a, rv aC, iv 3, iv wd, iv pl, iv wb, iv 0, .unset, .unset] X65 hx (hb hby own_d86) rfl rfl ?_
    refine own_bi 44 63 X65 hx (hb hby own_d87) rfl rfl ?_
    refine own_is 46 #[rv a, rv aC, iv 3, iv wd, iv pl, iv wb, iv 0, iv 63, .unset] X65 hx (hb hby own_d88) rfl rfl ?_
    refine own_aln 47 X65 hx (hb hby own_d89) rfl rfl rfl ?_
    obtain ⟨T66, X66, e66, st66⟩ := getS2 X65 hx hZ hown (host := "") (Or.inl (own_w hw 34 rfl)) Via.refl e65 (SC.ext OL.2) (g := (mkF m 47 #[rv a, rv aC, iv 3, iv wd, iv pl, iv wb, iv 0, iv 63, .unset] [(.ref aC)])) rfl (hb hby own_d90)
    refine own_to (mkF m 50 #[rv a, rv aC, iv 3, iv wd, iv pl, iv wb, iv 0, iv 63, .unset] [(.ref aC), (.ref aC)]) st66 ?_
    refine own_to (T' := T66) (mkF m 53 #[rv a, rv aC, iv 3, iv wd, iv pl, iv wb, iv 0, iv 63, .unset] []) (fun _ k => Jvm.RoadKit.acmp (g := (mkF m 50 #[rv a, rv aC, iv 3, iv wd, iv pl, iv wb, iv 0, iv 63, .unset] [(.ref aC), (.ref aC)])) X66 hx rfl rfl rfl (pc0 := 50) (pc' := 53) (same := true) rfl (hb hby own_d91) rfl (decide_eq_true rfl) (by decide) (by decide) k) ?_
    refine own_iln 54 X66 hx (hb hby own_d92) rfl rfl ?_
    obtain ⟨_, T67, Lc67, X67, hQ67, st67⟩ := own_callS X66 hx (y := (⟨"com/example/gramstead/gramstead/estimation/RecordLayout", "bitsFor", "(I)I"⟩ : MethodName)) hown (mvT hZ (own_w hw 15 rfl)) (mvT hZ (own_w hw 16 rfl)) (mvT hZ (own_w hw 5 rfl)) (mvT hZ (own_w hw 17 rfl)) (by decide) (backOf (W := 0) (own_rmB3 l Z a0 hw [] h65 n0 (Nat.le_trans Z0 KP.1) OL) hZ (own_w hw 17 rfl) (own_w hw 5 rfl) (by decide) (by decide)) (g := (mkF m 54 #[rv a, rv aC, iv 3, iv wd, iv pl, iv wb, iv 0, iv 63, .unset] [(.int (3 : Int32))])) rfl (by rw [hml]; rfl) (argsL := [(.int (3 : Int32))]) (rest := []) (lenOf own_pd0 rfl) rfl (by show 2 * 0 + _ ≤ _; exact Nat.le_of_eq rfl) (hb hby own_d93) rfl e66 (kc := 2) (ks := 6) rfl rfl (by decide) (by decide)
    obtain ⟨rfl, N67q, e67⟩ := hQ67
    have N67 := Fr.app N65 N67q
    refine own_to (mkF m 57 #[rv a, rv aC, iv 3, iv wd, iv pl, iv wb, iv 0, iv 63, .unset] [(.int (2 : Int32))]) st67 ?_
    refine own_is 59 #[rv a, rv aC, iv 3, iv wd, iv pl, iv wb, iv 0, iv 63, iv 2] X67 hx (hb hby own_d94) rfl rfl ?_
    refine own_aln 60 X67 hx (hb hby own_d95) rfl rfl rfl ?_
    refine own_to (T' := T67) (mkF m 61 #[rv a, rv aC, iv 3, iv wd, iv pl, iv wb, iv 0, iv 63, iv 2] [(.long (1 : Int64)), (.ref a)]) (fun _ k => XS.lconst X67.here hx rfl (hb hby own_d96) k) ?_
    refine own_il 63 X67 hx (hb hby own_d97) rfl rfl ?_
    refine own_to (T' := T67) (mkF m 64 #[rv a, rv aC, iv 3, iv wd, iv pl, iv wb, iv 0, iv 63, iv 2] [(.long ((1 : Int64) <<< ((2 : Int32) &&& 0x3f).toInt64)), (.ref a)]) (fun _ k => XS.lshl X67.here hx rfl (hb hby own_d98) rfl k) ?_
    refine own_to (T' := T67) (mkF m 65 #[rv a, rv aC, iv 3, iv wd, iv pl, iv wb, iv 0, iv 63, iv 2] [(.long (1 : Int64)), (.long ((1 : Int64) <<< ((2 : Int32) &&& 0x3f).toInt64)), (.ref a)]) (fun _ k => XS.lconst X67.here hx rfl (hb hby own_d99) k) ?_
    refine own_to (T' := T67) (mkF m 66 #[rv a, rv aC, iv 3, iv wd, iv pl, iv wb, iv 0, iv 63, iv 2] [(.long (((1 : Int64) <<< ((2 : Int32) &&& 0x3f).toInt64) - (1 : Int64))), (.ref a)]) (fun _ k => XS.lsub X67.here hx rfl (hb hby own_d100) rfl k) ?_
    obtain ⟨T68, h68, X68, e68, W68, st68⟩ := putF X67 hx hZ hown (host := "") (Or.inl (own_w hw 36 rfl)) Via.refl e67 F_orderMask_a E_a (Or.inr ⟨(own_w hw 37 rfl), rfl, hnm⟩) (own_w hw 4 rfl) (ty := .long) (by decide) rfl rfl (g := (mkF m 66 #[rv a, rv aC, iv 3, iv wd, iv pl, iv wb, iv 0, iv 63, iv 2] [(.long (((1 : Int64) <<< ((2 : Int32) &&& 0x3f).toInt64) - (1 : Int64))), (.ref a)])) rfl rfl (hb hby own_d101)
    refine own_to (mkF m 69 #[rv a, rv aC, iv 3, iv wd, iv pl, iv wb, iv 0, iv 63, iv 2] []) st68 ?_
    have N68 := Fr.snoc X68 N67 ge_a
    have tmp68 : Fld Z h68 a "com/example/gramstead/gramstead/estimation/RecordLayout" "orderMask" "J" (.long (((1 : Int64) <<< ((2 : Int32) &&& 0x3f).toInt64) - (1 : Int64))) := F_orderMask_a.same W68
    have OL := OL.wr W68 ge_a
    have KP := KP.wr W68 (Or.inl (List.mem_of_getElem? (i := 0) rfl))
    have E_a := E_a.wr W68
    have F_slotLongs_a := F_slotLongs_a.other W68 (Or.inr (slot_ne (Or.inr (own_w hw 31 rfl)) (Or.inr (own_w hw 37 rfl)) (by decide) (t := (.array .int)) (t' := .long) (by decide) (by decide)))
    have F_slotShifts_a := F_slotShifts_a.other W68 (Or.inr (slot_ne (Or.inr (own_w hw 33 rfl)) (Or.inr (own_w hw 37 rfl)) (by decide) (t := (.array .int)) (t' := .long) (by decide) (by decide)))
    have F_orderShift_a := F_orderShift_a.other W68 (Or.inr (slot_ne (Or.inr (own_w hw 39 rfl)) (Or.inr (own_w hw 37 rfl)) (by decide) (t := .int) (t' := .long) (by decide) (by decide)))
    have F_keyLongs_a := F_keyLongs_a.other W68 (Or.inr (slot_ne (Or.inr (own_w hw 41 rfl)) (Or.inr (own_w hw 37 rfl)) (by decide) (t := .int) (t' := .long) (by decide) (by decide)))
    have F_width_a := F_width_a.other W68 (Or.inr (slot_ne (Or.inr (own_w hw 43 rfl)) (Or.inr (own_w hw 37 rfl)) (by decide) (t := .int) (t' := .long) (by decide) (by decide)))
    have V_b62 := V_b62.other W68 (Ne.symm ne_a_b62)
    have V_b64 := V_b64.other W68 (Ne.symm ne_a_b64)
    have F_orderMask_a := tmp68
    refine own_il 71 X68 hx (hb hby own_d102) rfl rfl ?_
    refine own_il 73 X68 hx (hb hby own_d103) rfl rfl ?_
    refine own_isub 74 X68 hx (hb hby own_d104) (z := (61 : Int32)) rfl rfl ?_
    refine own_is 76 #[rv a, rv aC, iv 3, iv wd, iv pl, iv wb, iv 0, iv 61, iv 2] X68 hx (hb hby own_d105) rfl rfl ?_
    refine own_go 84 X68 hx (hb hby own_d106) (by decide) (by decide) ?_
    refine own_aln 85 X68 hx (hb hby own_d107) rfl rfl rfl ?_
    refine own_il 87 X68 hx (hb hby own_d108) rfl rfl ?_
    obtain ⟨T69, h69, X69, e69, W69, st69⟩ := putF X68 hx hZ hown (host := "") (Or.inl (own_w hw 38 rfl)) Via.refl e68 F_orderShift_a E_a (Or.inr ⟨(own_w hw 39 rfl), rfl, hnm⟩) (own_w hw 4 rfl) (ty := .int) (by decide) rfl rfl (g := (mkF m 87 #[rv a, rv aC, iv 3, iv wd, iv pl, iv wb, iv 0, iv 61, iv 2] [(.int (61 : Int32)), (.ref a)])) rfl rfl (hb hby own_d109)
    refine own_to (mkF m 90 #[rv a, rv aC, iv 3, iv wd, iv pl, iv wb, iv 0, iv 61, iv 2] []) st69 ?_
    have N69 := Fr.snoc X69 N68 ge_a
    have tmp69 : Fld Z h69 a "com/example/gramstead/gramstead/estimation/RecordLayout" "orderShift" "I" (.int (61 : Int32)) := F_orderShift_a.same W69
    have OL := OL.wr W69 ge_a
    have KP := KP.wr W69 (Or.inl (List.mem_of_getElem? (i := 0) rfl))
    have E_a := E_a.wr W69
    have F_slotLongs_a := F_slotLongs_a.other W69 (Or.inr (slot_ne (Or.inr (own_w hw 31 rfl)) (Or.inr (own_w hw 39 rfl)) (by decide) (t := (.array .int)) (t' := .int) (by decide) (by decide)))
    have F_slotShifts_a := F_slotShifts_a.other W69 (Or.inr (slot_ne (Or.inr (own_w hw 33 rfl)) (Or.inr (own_w hw 39 rfl)) (by decide) (t := (.array .int)) (t' := .int) (by decide) (by decide)))
    have F_orderMask_a := F_orderMask_a.other W69 (Or.inr (slot_ne (Or.inr (own_w hw 37 rfl)) (Or.inr (own_w hw 39 rfl)) (by decide) (t := .long) (t' := .int) (by decide) (by decide)))
    have F_keyLongs_a := F_keyLongs_a.other W69 (Or.inr (slot_ne (Or.inr (own_w hw 41 rfl)) (Or.inr (own_w hw 39 rfl)) (by decide) (t := .int) (t' := .int) (by decide) (by decide)))
    have F_width_a := F_width_a.other W69 (Or.inr (slot_ne (Or.inr (own_w hw 43 rfl)) (Or.inr (own_w hw 39 rfl)) (by decide) (t := .int) (t' := .int) (by decide) (by decide)))
    have V_b62 := V_b62.other W69 (Ne.symm ne_a_b62)
    have V_b64 := V_b64.other W69 (Ne.symm ne_a_b64)
    have F_orderShift_a := tmp69
    refine own_ic 91 0 X69 hx (hb hby own_d110) rfl rfl ?_
    refine own_is 93 #[rv a, rv aC, iv 3, iv wd, iv pl, iv wb, iv 0, iv 61, iv 0] X69 hx (hb hby own_d111) rfl rfl ?_
    refine own_il 95 X69 hx (hb hby own_d112) rfl rfl ?_
    refine own_iln 96 X69 hx (hb hby own_d113) rfl rfl ?_
    refine own_icN 99 X69 hx (hb hby own_d114) (tlt (by decide : (0 : Int32) < (3 : Int32))).2.1 rfl ?_
    refine own_il 101 X69 hx (hb hby own_d115) rfl rfl ?_
    refine own_il 103 X69 hx (hb hby own_d116) rfl rfl ?_
    refine own_icY 113 X69 hx (hb hby own_d117) (flt (own_ge (61 : Int32) 61 rfl (by decide) hb2)).2.1 (by decide) (by decide) ?_
    have hl0 : 0 ≤ (0 : Int32).toInt ∧ (0 : Int32).toInt ≤ 0 := by decide
    refine own_il 115 X69 hx (hb hby own_d118) rfl rfl ?_
    refine own_il 117 X69 hx (hb hby own_d119) rfl rfl ?_
    refine own_isub 118 X69 hx (hb hby own_d120) rfl rfl ?_
    refine own_is 120 #[rv a, rv aC, iv 3, iv wd, iv pl, iv wb, iv 0, iv ((61 : Int32) - wb), iv 0] X69 hx (hb hby own_d121) rfl rfl ?_
    refine own_aln 121 X69 hx (hb hby own_d122) rfl rfl rfl ?_
    obtain ⟨T70, X70, e70, st70⟩ := getF X69 hx hZ hown (host := "") (Or.inl (own_w hw 30 rfl)) Via.refl e69 F_slotLongs_a (g := (mkF m 121 #[rv a, rv aC, iv 3, iv wd, iv pl, iv wb, iv 0, iv ((61 : Int32) - wb), iv 0] [(.ref a)])) rfl rfl (hb hby own_d123)
    refine own_to (mkF m 124 #[rv a, rv aC, iv 3, iv wd, iv pl, iv wb, iv 0, iv ((61 : Int32) - wb), iv 0] [(.ref b62)]) st70 ?_
    refine own_il 126 X70 hx (hb hby own_d124) rfl rfl ?_
    refine own_il 128 X70 hx (hb hby own_d125) rfl rfl ?_
    obtain ⟨cl71, Ar71, q71, S71, M71, H71, G71⟩ := id V_b62
    obtain ⟨T71, h71, X71, e71, W71, st71⟩ := stI X70 hx hZ e70 Ar71 (j := (0 : Int32)) (inb_of S71 ⟨by decide, by decide⟩) (g := (mkF m 128 #[rv a, rv aC, iv 3, iv wd, iv pl, iv wb, iv 0, iv ((61 : Int32) - wb), iv 0] [(.int (0 : Int32)), (.int (0 : Int32)), (.ref b62)])) rfl rfl (hb hby own_d126)
    refine own_to (mkF m 129 #[rv a, rv aC, iv 3, iv wd, iv pl, iv wb, iv 0, iv ((61 : Int32) - wb), iv 0] []) st71 ?_
    have N71 := Fr.snoc X71 N69 ge_b62
    have tmp71 : Arv Z h71 b62 k62 .int (3 : Int32) [(.int (0 : Int32)), (.int (0 : Int32)), (.int (0 : Int32))] (.int (0 : Int32)) := Arv.set Ar71 q71 S71 M71 H71 G71 rfl W71 0 rfl (Nat.le_of_ble_eq_true rfl)
    have OL := OL.wr W71 ge_b62
    have KP := KP.wr W71 (Or.inr sz_b62)
    have E_a := E_a.wr W71
    have F_slotLongs_a := F_slotLongs_a.other W71 (Or.inl ne_a_b62)
    have F_slotShifts_a := F_slotShifts_a.other W71 (Or.inl ne_a_b62)
    have F_keyLongs_a := F_keyLongs_a.other W71 (Or.inl ne_a_b62)
    have F_width_a := F_width_a.other W71 (Or.inl ne_a_b62)
    have V_b64 := V_b64.other W71 (Ne.symm ne_b62_b64)
    have V_b62 := tmp71
    refine own_aln 130 X71 hx (hb hby own_d127) rfl rfl rfl ?_
    obtain ⟨T72, X72, e72, st72⟩ := getF X71 hx hZ hown (host := "") (Or.inl (own_w hw 32 rfl)) Via.refl e71 F_slotShifts_a (g := (mkF m 130 #[rv a, rv aC, iv 3, iv wd, iv pl, iv wb, iv 0, iv ((61 : Int32) - wb), iv 0] [(.ref a)])) rfl rfl (hb hby own_d128)
    refine own_to (mkF m 133 #[rv a, rv aC, iv 3, iv wd, iv pl, iv wb, iv 0, iv ((61 : Int32) - wb), iv 0] [(.ref b64)]) st72 ?_
    refine own_il 135 X72 hx (hb hby own_d129) rfl rfl ?_
    refine own_il 137 X72 hx (hb hby own_d130) rfl rfl ?_
    obtain ⟨cl73, Ar73, q73, S73, M73, H73, G73⟩ := id V_b64
    obtain ⟨T73, h73, X73, e73, W73, st73⟩ := stI X72 hx hZ e72 Ar73 (j := (0 : Int32)) (inb_of S73 ⟨by decide, by decide⟩) (g := (mkF m 137 #[rv a, rv aC, iv 3, iv wd, iv pl, iv wb, iv 0, iv ((61 : Int32) - wb), iv 0] [(.int ((61 : Int32) - wb)), (.int (0 : Int32)), (.ref b64)])) rfl rfl (hb hby own_d131)
    refine own_to (mkF m 138 #[rv a, rv aC, iv 3, iv wd, iv pl, iv wb, iv 0, iv ((61 : Int32) - wb), iv 0] []) st73 ?_
    have N73 := Fr.snoc X73 N71 ge_b64
    have tmp73 : Arv Z h73 b64 k64 .int (3 : Int32) [(.int ((61 : Int32) - wb)), (.int (0 : Int32)), (.int (0 : Int32))] (.int (0 : Int32)) := Arv.set Ar73 q73 S73 M73 H73 G73 rfl W73 0 rfl (Nat.le_of_ble_eq_true rfl)
    have OL := OL.wr W73 ge_b64
    have KP := KP.wr W73 (Or.inr sz_b64)
    have E_a := E_a.wr W73
    have F_slotLongs_a := F_slotLongs_a.other W73 (Or.inl ne_a_b64)
    have F_slotShifts_a := F_slotShifts_a.other W73 (Or.inl ne_a_b64)
    have F_keyLongs_a := F_keyLongs_a.other W73 (Or.inl ne_a_b64)
    have F_width_a := F_width_a.other W73 (Or.inl ne_a_b64)
    have V_b62 := V_b62.other W73 ne_b62_b64
    have V_b64 := tmp73
    refine own_inc 141 #[rv a, rv aC, iv 3, iv wd, iv pl, iv wb, iv 0, iv ((61 : Int32) - wb), iv 1] X73 hx (hb hby own_d132) rfl rfl rfl ?_
    refine own_go 93 X73 hx (hb hby own_d133) (by decide) (by decide) ?_
    refine own_il 95 X73 hx (hb hby own_d112) rfl rfl ?_
    refine own_iln 96 X73 hx (hb hby own_d113) rfl rfl ?_
    refine own_icN 99 X73 hx (hb hby own_d114) (tlt (by decide : (1 : Int32) < (3 : Int32))).2.1 rfl ?_
    refine own_il 101 X73 hx (hb hby own_d115) rfl rfl ?_
    refine own_il 103 X73 hx (hb hby own_d116) rfl rfl ?_
    suffices jn74 : ∀ lg1 : Int32, (((61 : Int32) - wb) < wb → lg1 = ((0 : Int32) + (1 : Int32))) → (¬ ((61 : Int32) - wb) < wb → lg1 = (0 : Int32)) → ∀ sh1 : Int32, (((61 : Int32) - wb) < wb → sh1 = (63 : Int32)) → (¬ ((61 : Int32) - wb) < wb → sh1 = ((61 : Int32) - wb)) → own_E p e below (own_Fin s (own_QCC Z a aC aS (3 : Int32) wd pl h0 n0) ({ frames := 2, cells := 2, slots := 8, locals := 40 } : Room).cells ({ frames := 2, cells := 2, slots := 8, locals := 40 } : Room).slots) T73 (mkF m 113 #[rv a, rv aC, iv 3, iv wd, iv pl, iv wb, iv lg1, iv sh1, iv 1] []) from by
      by_cases hj1 : ((61 : Int32) - wb) < wb
      · refine own_icN 106 X73 hx (hb hby own_d117) (tlt hj1).2.1 rfl ?_
        refine own_inc 109 #[rv a, rv aC, iv 3, iv wd, iv pl, iv wb, iv ((0 : Int32) + (1 : Int32)), iv ((61 : Int32) - wb), iv 1] X73 hx (hb hby own_d146) rfl rfl rfl ?_
        refine own_bi 111 63 X73 hx (hb hby own_d147) rfl rfl ?_
        refine own_is 113 #[rv a, rv aC, iv 3, iv wd, iv pl, iv wb, iv ((0 : Int32) + (1 : Int32)), iv 63, iv 1] X73 hx (hb hby own_d148) rfl rfl ?_
        exact jn74 ((0 : Int32) + (1 : Int32)) (fun _ => rfl) (fun q => absurd hj1 q) (63 : Int32) (fun _ => rfl) (fun q => absurd hj1 q)
      · refine own_icY 113 X73 hx (hb hby own_d117) (flt hj1).2.1 (by decide) (by decide) ?_
        exact jn74 (0 : Int32) (fun q => absurd q hj1) (fun _ => rfl) ((61 : Int32) - wb) (fun q => absurd q hj1) (fun _ => rfl)
    intro lg1 hlg1t hlg1f sh1 hsh1t hsh1f
    have hl1 := own_incr (k := 0) (by decide) hl0 hlg1t hlg1f
    refine own_il 115 X73 hx (hb hby own_d118) rfl rfl ?_
    refine own_il 117 X73 hx (hb hby own_d119) rfl rfl ?_
    refine own_isub 118 X73 hx (hb hby own_d120) rfl rfl ?_
    refine own_is 120 #[rv a, rv aC, iv 3, iv wd, iv pl, iv wb, iv lg1, iv (sh1 - wb), iv 1] X73 hx (hb hby own_d121) rfl rfl ?_
    refine own_aln 121 X73 hx (hb hby own_d122) rfl rfl rfl ?_
    obtain ⟨T75, X75, e75, st75⟩ := getF X73 hx hZ hown (host := "") (Or.inl (own_w hw 30 rfl)) Via.refl e73 F_slotLongs_a (g := (mkF m 121 #[rv a, rv aC, iv 3, iv wd, iv pl, iv wb, iv lg1, iv (sh1 - wb), iv 1] [(.ref a)])) rfl rfl (hb hby own_d123)
    refine own_to (mkF m 124 #[rv a, rv aC, iv 3, iv wd, iv pl, iv wb, iv lg1, iv (sh1 - wb), iv 1] [(.ref b62)]) st75 ?_
    refine own_il 126 X75 hx (hb hby own_d124) rfl rfl ?_
    refine own_il 128 X75 hx (hb hby own_d125) rfl rfl ?_
    obtain ⟨cl76, Ar76, q76, S76, M76, H76, G76⟩ := id V_b62
    obtain ⟨T76, h76, X76, e76, W76, st76⟩ := stI X75 hx hZ e75 Ar76 (j := (1 : Int32)) (inb_of S76 ⟨by decide, by decide⟩) (g := (mkF m 128 #[rv a, rv aC, iv 3, iv wd, iv pl, iv wb, iv lg1, iv (sh1 - wb), iv 1] [(.int lg1), (.int (1 : Int32)), (.ref b62)])) rfl rfl (hb hby own_d126)
    refine own_to (mkF m 129 #[rv a, rv aC, iv 3, iv wd, iv pl, iv wb, iv lg1, iv (sh1 - wb), iv 1] []) st76 ?_
    have N76 := Fr.snoc X76 N73 ge_b62
    have tmp76 : Arv Z h76 b62 k62 .int (3 : Int32) [(.int (0 : Int32)), (.int lg1), (.int (0 : Int32))] (.int (0 : Int32)) := Arv.set Ar76 q76 S76 M76 H76 G76 rfl W76 1 rfl (Nat.le_of_ble_eq_true rfl)
    have OL := OL.wr W76 ge_b62
    have KP := KP.wr W76 (Or.inr sz_b62)
    have E_a := E_a.wr W76
    have F_slotLongs_a := F_slotLongs_a.other W76 (Or.inl ne_a_b62)
    have F_slotShifts_a := F_slotShifts_a.other W76 (Or.inl ne_a_b62)
    have F_keyLongs_a := F_keyLongs_a.other W76 (Or.inl ne_a_b62)
    have F_width_a := F_width_a.other W76 (Or.inl ne_a_b62)
    have V_b64 := V_b64.other W76 (Ne.symm ne_b62_b64)
    have V_b62 := tmp76
    refine own_aln 130 X76 hx (hb hby own_d127) rfl rfl rfl ?_
    obtain ⟨T77, X77, e77, st77⟩ := getF X76 hx hZ hown (host := "") (Or.inl (own_w hw 32 rfl)) Via.refl e76 F_slotShifts_a (g := (mkF m 130 #[rv a, rv aC, iv 3, iv wd, iv pl, iv wb, iv lg1, iv (sh1 - wb), iv 1] [(.ref a)])) rfl rfl (hb hby own_d128)
    refine own_to (mkF m 133 #[rv a, rv aC, iv 3, iv wd, iv pl, iv wb, iv lg1, iv (sh1 - wb), iv 1] [(.ref b64)]) st77 ?_
    refine own_il 135 X77 hx (hb hby own_d129) rfl rfl ?_
    refine own_il 137 X77 hx (hb hby own_d130) rfl rfl ?_
    obtain ⟨cl78, Ar78, q78, S78, M78, H78, G78⟩ := id V_b64
    obtain ⟨T78, h78, X78, e78, W78, st78⟩ := stI X77 hx hZ e77 Ar78 (j := (1 : Int32)) (inb_of S78 ⟨by decide, by decide⟩) (g := (mkF m 137 #[rv a, rv aC, iv 3, iv wd, iv pl, iv wb, iv lg1, iv (sh1 - wb), iv 1] [(.int (sh1 - wb)), (.int (1 : Int32)), (.ref b64)])) rfl rfl (hb hby own_d131)
    refine own_to (mkF m 138 #[rv a, rv aC, iv 3, iv wd, iv pl, iv wb, iv lg1, iv (sh1 - wb), iv 1] []) st78 ?_
    have N78 := Fr.snoc X78 N76 ge_b64
    have tmp78 : Arv Z h78 b64 k64 .int (3 : Int32) [(.int ((61 : Int32) - wb)), (.int (sh1 - wb)), (.int (0 : Int32))] (.int (0 : Int32)) := Arv.set Ar78 q78 S78 M78 H78 G78 rfl W78 1 rfl (Nat.le_of_ble_eq_true rfl)
    have OL := OL.wr W78 ge_b64
    have KP := KP.wr W78 (Or.inr sz_b64)
    have E_a := E_a.wr W78
    have F_slotLongs_a := F_slotLongs_a.other W78 (Or.inl ne_a_b64)
    have F_slotShifts_a := F_slotShifts_a.other W78 (Or.inl ne_a_b64)
    have F_keyLongs_a := F_keyLongs_a.other W78 (Or.inl ne_a_b64)
    have F_width_a := F_width_a.other W78 (Or.inl ne_a_b64)
    have V_b62 := V_b62.other W78 ne_b62_b64
    have V_b64 := tmp78
    refine own_inc 141 #[rv a, rv aC, iv 3, iv wd, iv pl, iv wb, iv lg1, iv (sh1 - wb), iv 2] X78 hx (hb hby own_d132) rfl rfl rfl ?_
    refine own_go 93 X78 hx (hb hby own_d133) (by decide) (by decide) ?_
    refine own_il 95 X78 hx (hb hby own_d112) rfl rfl ?_
    refine own_iln 96 X78 hx (hb hby own_d113) rfl rfl ?_
    refine own_icN 99 X78 hx (hb hby own_d114) (tlt (by decide : (2 : Int32) < (3 : Int32))).2.1 rfl ?_
    refine own_il 101 X78 hx (hb hby own_d115) rfl rfl ?_
    refine own_il 103 X78 hx (hb hby own_d116) rfl rfl ?_
    suffices jn79 : ∀ lg2 : Int32, ((sh1 - wb) < wb → lg2 = (lg1 + (1 : Int32))) → (¬ (sh1 - wb) < wb → lg2 = lg1) → ∀ sh2 : Int32, ((sh1 - wb) < wb → sh2 = (63 : Int32)) → (¬ (sh1 - wb) < wb → sh2 = (sh1 - wb)) → own_E p e below (own_Fin s (own_QCC Z a aC aS (3 : Int32) wd pl h0 n0) ({ frames := 2, cells := 2, slots := 8, locals := 40 } : Room).cells ({ frames := 2, cells := 2, slots := 8, locals := 40 } : Room).slots) T78 (mkF m 113 #[rv a, rv aC, iv 3, iv wd, iv pl, iv wb, iv lg2, iv sh2, iv 2] []) from by
      by_cases hj2 : (sh1 - wb) < wb
      · refine own_icN 106 X78 hx (hb hby own_d117) (tlt hj2).2.1 rfl ?_
        refine own_inc 109 #[rv a, rv aC, iv 3, iv wd, iv pl, iv wb, iv (lg1 + (1 : Int32)), iv (sh1 - wb), iv 2] X78 hx (hb hby own_d146) rfl rfl rfl ?_
        refine own_bi 111 63 X78 hx (hb hby own_d147) rfl rfl ?_
        refine own_is 113 #[rv a, rv aC, iv 3, iv wd, iv pl, iv wb, iv (lg1 + (1 : Int32)), iv 63, iv 2] X78 hx (hb hby own_d148) rfl rfl ?_
        exact jn79 (lg1 + (1 : Int32)) (fun _ => rfl) (fun q => absurd hj2 q) (63 : Int32) (fun _ => rfl) (fun q => absurd hj2 q)
      · refine own_icY 113 X78 hx (hb hby own_d117) (flt hj2).2.1 (by decide) (by decide) ?_
        exact jn79 lg1 (fun q => absurd q hj2) (fun _ => rfl) (sh1 - wb) (fun q => absurd q hj2) (fun _ => rfl)
    intro lg2 hlg2t hlg2f sh2 hsh2t hsh2f
    have hl2 := own_incr (k := 1) (by decide) hl1 hlg2t hlg2f
    refine own_il 115 X78 hx (hb hby own_d118) rfl rfl ?_
    refine own_il 117 X78 hx (hb hby own_d119) rfl rfl ?_
    refine own_isub 118 X78 hx (hb hby own_d120) rfl rfl ?_
    refine own_is 120 #[rv a, rv aC, iv 3, iv wd, iv pl, iv wb, iv lg2, iv (sh2 - wb), iv 2] X78 hx (hb hby own_d121) rfl rfl ?_
    refine own_aln 121 X78 hx (hb hby own_d122) rfl rfl rfl ?_
    obtain ⟨T80, X80, e80, st80⟩ := getF X78 hx hZ hown (host := "") (Or.inl (own_w hw 30 rfl)) Via.refl e78 F_slotLongs_a (g := (mkF m 121 #[rv a, rv aC, iv 3, iv wd, iv pl, iv wb, iv lg2, iv (sh2 - wb), iv 2] [(.ref a)])) rfl rfl (hb hby own_d123)
    refine own_to (mkF m 124 #[rv a, rv aC, iv 3, iv wd, iv pl, iv wb, iv lg2, iv (sh2 - wb), iv 2] [(.ref b62)]) st80 ?_
    refine own_il 126 X80 hx (hb hby own_d124) rfl rfl ?_
    refine own_il 128 X80 hx (hb hby own_d125) rfl rfl ?_
    obtain ⟨cl81, Ar81, q81, S81, M81, H81, G81⟩ := id V_b62
    obtain ⟨T81, h81, X81, e81, W81, st81⟩ := stI X80 hx hZ e80 Ar81 (j := (2 : Int32)) (inb_of S81 ⟨by decide, by decide⟩) (g := (mkF m 128 #[rv a, rv aC, iv 3, iv wd, iv pl, iv wb, iv lg2, iv (sh2 - wb), iv 2] [(.int lg2), (.int (2 : Int32)), (.ref b62)])) rfl rfl (hb hby own_d126)
    refine own_to (mkF m 129 #[rv a, rv aC, iv 3, iv wd, iv pl, iv wb, iv lg2, iv (sh2 - wb), iv 2] []) st81 ?_
    have N81 := Fr.snoc X81 N78 ge_b62
    have tmp81 : Arv Z h81 b62 k62 .int (3 : Int32) [(.int (0 : Int32)), (.int lg1), (.int lg2)] (.int (0 : Int32)) := Arv.set Ar81 q81 S81 M81 H81 G81 rfl W81 2 rfl (Nat.le_of_ble_eq_true rfl)
    have OL := OL.wr W81 ge_b62
    have KP := KP.wr W81 (Or.inr sz_b62)
    have E_a := E_a.wr W81
    have F_slotLongs_a := F_slotLongs_a.other W81 (Or.inl ne_a_b62)
    have F_slotShifts_a := F_slotShifts_a.other W81 (Or.inl ne_a_b62)
    have F_keyLongs_a := F_keyLongs_a.other W81 (Or.inl ne_a_b62)
    have F_width_a := F_width_a.other W81 (Or.inl ne_a_b62)
    have V_b64 := V_b64.other W81 (Ne.symm ne_b62_b64)
    have V_b62 := tmp81
    refine own_aln 130 X81 hx (hb hby own_d127) rfl rfl rfl ?_
    obtain ⟨T82, X82, e82, st82⟩ := getF X81 hx hZ hown (host := "") (Or.inl (own_w hw 32 rfl)) Via.refl e81 F_slotShifts_a (g := (mkF m 130 #[rv a, rv aC, iv 3, iv wd, iv pl, iv wb, iv lg2, iv (sh2 - wb), iv 2] [(.ref a)])) rfl rfl (hb hby own_d128)
    refine own_to (mkF m 133 #[rv a, rv aC, iv 3, iv wd, iv pl, iv wb, iv lg2, iv (sh2 - wb), iv 2] [(.ref b64)]) st82 ?_
    refine own_il 135 X82 hx (hb hby own_d129) rfl rfl ?_
    refine own_il 137 X82 hx (hb hby own_d130) rfl rfl ?_
    obtain ⟨cl83, Ar83, q83, S83, M83, H83, G83⟩ := id V_b64
    obtain ⟨T83, h83, X83, e83, W83, st83⟩ := stI X82 hx hZ e82 Ar83 (j := (2 : Int32)) (inb_of S83 ⟨by decide, by decide⟩) (g := (mkF m 137 #[rv a, rv aC, iv 3, iv wd, iv pl, iv wb, iv lg2, iv (sh2 - wb), iv 2] [(.int (sh2 - wb)), (.int (2 : Int32)), (.ref b64)])) rfl rfl (hb hby own_d131)
    refine own_to (mkF m 138 #[rv a, rv aC, iv 3, iv wd, iv pl, iv wb, iv lg2, iv (sh2 - wb), iv 2] []) st83 ?_
    have N83 := Fr.snoc X83 N81 ge_b64
    have tmp83 : Arv Z h83 b64 k64 .int (3 : Int32) [(.int ((61 : Int32) - wb)), (.int (sh1 - wb)), (.int (sh2 - wb))] (.int (0 : Int32)) := Arv.set Ar83 q83 S83 M83 H83 G83 rfl W83 2 rfl (Nat.le_of_ble_eq_true rfl)
    have OL := OL.wr W83 ge_b64
    have KP := KP.wr W83 (Or.inr sz_b64)
    have E_a := E_a.wr W83
    have F_slotLongs_a := F_slotLongs_a.other W83 (Or.inl ne_a_b64)
    have F_slotShifts_a := F_slotShifts_a.other W83 (Or.inl ne_a_b64)
    have F_keyLongs_a := F_keyLongs_a.other W83 (Or.inl ne_a_b64)
    have F_width_a := F_width_a.other W83 (Or.inl ne_a_b64)
    have V_b62 := V_b62.other W83 ne_b62_b64
    have V_b64 := tmp83
    refine own_inc 141 #[rv a, rv aC, iv 3, iv wd, iv pl, iv wb, iv lg2, iv (sh2 - wb), iv 3] X83 hx (hb hby own_d132) rfl rfl rfl ?_
    refine own_go 93 X83 hx (hb hby own_d133) (by decide) (by decide) ?_
    refine own_il 95 X83 hx (hb hby own_d112) rfl rfl ?_
    refine own_iln 96 X83 hx (hb hby own_d113) rfl rfl ?_
    refine own_icY 144 X83 hx (hb hby own_d114) (flt (by decide : ¬ ((3 : Int32) < (3 : Int32)))).2.1 (by decide) (by decide) ?_
    refine own_aln 145 X83 hx (hb hby own_d134) rfl rfl rfl ?_
    refine own_il 147 X83 hx (hb hby own_d135) rfl rfl ?_
    refine own_ic 148 1 X83 hx (hb hby own_d136) rfl rfl ?_
    refine own_iadd 149 X83 hx (hb hby own_d137) rfl rfl ?_
    obtain ⟨T84, h84, X84, e84, W84, st84⟩ := putF X83 hx hZ hown (host := "") (Or.inl (own_w hw 40 rfl)) Via.refl e83 F_keyLongs_a E_a (Or.inr ⟨(own_w hw 41 rfl), rfl, hnm⟩) (own_w hw 4 rfl) (ty := .int) (by decide) rfl rfl (g := (mkF m 149 #[rv a, rv aC, iv 3, iv wd, iv pl, iv wb, iv lg2, iv (sh2 - wb), iv 3] [(.int (lg2 + (1 : Int32))), (.ref a)])) rfl rfl (hb hby own_d138)
    refine own_to (mkF m 152 #[rv a, rv aC, iv 3, iv wd, iv pl, iv wb, iv lg2, iv (sh2 - wb), iv 3] []) st84 ?_
    have N84 := Fr.snoc X84 N83 ge_a
    have tmp84 : Fld Z h84 a "com/example/gramstead/gramstead/estimation/RecordLayout" "keyLongs" "I" (.int (lg2 + (1 : Int32))) := F_keyLongs_a.same W84
    have OL := OL.wr W84 ge_a
    have KP := KP.wr W84 (Or.inl (List.mem_of_getElem? (i := 0) rfl))
    have E_a := E_a.wr W84
    have F_width_a := F_width_a.other W84 (Or.inr (slot_ne (Or.inr (own_w hw 43 rfl)) (Or.inr (own_w hw 41 rfl)) (by decide) (t := .int) (t' := .int) (by decide) (by decide)))
    have F_keyLongs_a := tmp84
    refine own_aln 153 X84 hx (hb hby own_d139) rfl rfl rfl ?_
    refine own_aln 154 X84 hx (hb hby own_d140) rfl rfl rfl ?_
    obtain ⟨T85, X85, e85, st85⟩ := getF X84 hx hZ hown (host := "") (Or.inl (own_w hw 40 rfl)) Via.refl e84 F_keyLongs_a (g := (mkF m 154 #[rv a, rv aC, iv 3, iv wd, iv pl, iv wb, iv lg2, iv (sh2 - wb), iv 3] [(.ref a), (.ref a)])) rfl rfl (hb hby own_d141)
    refine own_to (mkF m 157 #[rv a, rv aC, iv 3, iv wd, iv pl, iv wb, iv lg2, iv (sh2 - wb), iv 3] [(.int (lg2 + (1 : Int32))), (.ref a)]) st85 ?_
    refine own_il 159 X85 hx (hb hby own_d142) rfl rfl ?_
    refine own_iadd 160 X85 hx (hb hby own_d143) rfl rfl ?_
    obtain ⟨T86, h86, X86, e86, W86, st86⟩ := putF X85 hx hZ hown (host := "") (Or.inl (own_w hw 42 rfl)) Via.refl e85 F_width_a E_a (Or.inr ⟨(own_w hw 43 rfl), rfl, hnm⟩) (own_w hw 4 rfl) (ty := .int) (by decide) rfl rfl (g := (mkF m 160 #[rv a, rv aC, iv 3, iv wd, iv pl, iv wb, iv lg2, iv (sh2 - wb), iv 3] [(.int ((lg2 + (1 : Int32)) + pl)), (.ref a)])) rfl rfl (hb hby own_d144)
    refine own_to (mkF m 163 #[rv a, rv aC, iv 3, iv wd, iv pl, iv wb, iv lg2, iv (sh2 - wb), iv 3] []) st86 ?_
    have N86 := Fr.snoc X86 N84 ge_a
    have tmp86 : Fld Z h86 a "com/example/gramstead/gramstead/estimation/RecordLayout" "width" "I" (.int ((lg2 + (1 : Int32)) + pl)) := F_width_a.same W86
    have OL := OL.wr W86 ge_a
    have KP := KP.wr W86 (Or.inl (List.mem_of_getElem? (i := 0) rfl))
    have E_a := E_a.wr W86
    have F_keyLongs_a := F_keyLongs_a.other W86 (Or.inr (slot_ne (Or.inr (own_w hw 41 rfl)) (Or.inr (own_w hw 43 rfl)) (by decide) (t := .int) (t' := .int) (by decide) (by decide)))
    have F_width_a := tmp86
    exact own_ret0 X86 hx Bd.returns hlk (hb hby own_d145) (by decide) (by decide) (by rw [e86]; exact ⟨rfl, N86, KP, E_a, (lg2 + (1 : Int32)), (own_kl (k := 2) (by decide) hl2).1, (own_kl (k := 2) (by decide) hl2).2, F_keyLongs_a, F_width_a⟩)
  · subst q
    refine own_aln 1 X0 hx (hb hby own_d62) rfl rfl rfl ?_
    obtain ⟨T87, X87, e87, st87⟩ := initO X0 hx hZ hown (own_w hw 10 rfl) (own_w hw 11 rfl) (own_w hw 12 rfl) e0 (g := (mkF m 1 #[rv a, rv aC, iv 4, iv wd, iv pl, .unset, .unset, .unset, .unset] [(.ref a)])) rfl (by rw [hml]; rfl) rfl (hb hby own_d63) (by decide) (W := 0) (by show 2 * 0 + _ ≤ _; exact Nat.le_of_eq rfl) (by decide)
    refine own_to (mkF m 4 #[rv a, rv aC, iv 4, iv wd, iv pl, .unset, .unset, .unset, .unset] []) st87 ?_
    refine own_aln 5 X87 hx (hb hby own_d64) rfl rfl rfl ?_
    refine own_aln 6 X87 hx (hb hby own_d65) rfl rfl rfl ?_
    obtain ⟨T88, h88, X88, e88, W88, st88⟩ := putF X87 hx hZ hown (host := "") (Or.inl (own_w hw 13 rfl)) Via.refl e87 F_order_a E_a (Or.inr ⟨(own_w hw 14 rfl), rfl, hnm⟩) (own_w hw 4 rfl) (ty := (.object "com/example/gramstead/gramstead/estimation/RecordOrder")) (by decide) rfl rfl (g := (mkF m 6 #[rv a, rv aC, iv 4, iv wd, iv pl, .unset, .unset, .unset, .unset] [(.ref aC), (.ref a)])) rfl rfl (hb hby own_d66)
    refine own_to (mkF m 9 #[rv a, rv aC, iv 4, iv wd, iv pl, .unset, .unset, .unset, .unset] []) st88 ?_
    have N88 := Fr.snoc X88 N0 ge_a
    have tmp88 : Fld Z h88 a "com/example/gramstead/gramstead/estimation/RecordLayout" "order" "Lcom/example/gramstead/gramstead/estimation/RecordOrder;" (.ref aC) := F_order_a.same W88
    have OL := OL.wr W88 ge_a
    have KP := KP.wr W88 (Or.inl (List.mem_of_getElem? (i := 0) rfl))
    have E_a := E_a.wr W88
    have F_wordMask_a := F_wordMask_a.other W88 (Or.inr (slot_ne (Or.inr (own_w hw 28 rfl)) (Or.inr (own_w hw 14 rfl)) (by decide) (t := .long) (t' := (.object "com/example/gramstead/gramstead/estimation/RecordOrder")) (by decide) (by decide)))
    have F_slotLongs_a := F_slotLongs_a.other W88 (Or.inr (slot_ne (Or.inr (own_w hw 31 rfl)) (Or.inr (own_w hw 14 rfl)) (by decide) (t := (.array .int)) (t' := (.object "com/example/gramstead/gramstead/estimation/RecordOrder")) (by decide) (by decide)))
    have F_slotShifts_a := F_slotShifts_a.other W88 (Or.inr (slot_ne (Or.inr (own_w hw 33 rfl)) (Or.inr (own_w hw 14 rfl)) (by decide) (t := (.array .int)) (t' := (.object "com/example/gramstead/gramstead/estimation/RecordOrder")) (by decide) (by decide)))
    have F_orderMask_a := F_orderMask_a.other W88 (Or.inr (slot_ne (Or.inr (own_w hw 37 rfl)) (Or.inr (own_w hw 14 rfl)) (by decide) (t := .long) (t' := (.object "com/example/gramstead/gramstead/estimation/RecordOrder")) (by decide) (by decide)))
    have F_orderShift_a := F_orderShift_a.other W88 (Or.inr (slot_ne (Or.inr (own_w hw 39 rfl)) (Or.inr (own_w hw 14 rfl)) (by decide) (t := .int) (t' := (.object "com/example/gramstead/gramstead/estimation/RecordOrder")) (by decide) (by decide)))
    have F_keyLongs_a := F_keyLongs_a.other W88 (Or.inr (slot_ne (Or.inr (own_w hw 41 rfl)) (Or.inr (own_w hw 14 rfl)) (by decide) (t := .int) (t' := (.object "com/example/gramstead/gramstead/estimation/RecordOrder")) (by decide) (by decide)))
    have F_width_a := F_width_a.other W88 (Or.inr (slot_ne (Or.inr (own_w hw 43 rfl)) (Or.inr (own_w hw 14 rfl)) (by decide) (t := .int) (t' := (.object "com/example/gramstead/gramstead/estimation/RecordOrder")) (by decide) (by decide)))
    have F_order_a := tmp88
    refine own_iln 10 X88 hx (hb hby own_d67) rfl rfl ?_
    obtain ⟨_, T89, Lc89, X89, hQ89, st89⟩ := own_callS X88 hx (y := (⟨"com/example/gramstead/gramstead/estimation/RecordLayout", "bitsFor", "(I)I"⟩ : MethodName)) hown (mvT hZ (own_w hw 15 rfl)) (mvT hZ (own_w hw 16 rfl)) (mvT hZ (own_w hw 5 rfl)) (mvT hZ (own_w hw 17 rfl)) (by decide) (backOf (W := 0) (own_rmB l Z a0 hw [] wd h88 n0 (Nat.le_trans Z0 KP.1) OL hwd) hZ (own_w hw 17 rfl) (own_w hw 5 rfl) (by decide) (by decide)) (g := (mkF m 10 #[rv a, rv aC, iv 4, iv wd, iv pl, .unset, .unset, .unset, .unset] [(.int wd)])) rfl (by rw [hml]; rfl) (argsL := [(.int wd)]) (rest := []) (lenOf own_pd0 rfl) rfl (by show 2 * 0 + _ ≤ _; exact Nat.le_of_eq rfl) (hb hby own_d68) rfl e88 (kc := 0) (ks := 0) rfl rfl (by decide) (by decide)
    obtain ⟨wb, rfl, hb1, hb2, N89q, e89⟩ := hQ89
    have N89 := Fr.app N88 N89q
    refine own_to (mkF m 13 #[rv a, rv aC, iv 4, iv wd, iv pl, .unset, .unset, .unset, .unset] [(.int wb)]) st89 ?_
    refine own_is 15 #[rv a, rv aC, iv 4, iv wd, iv pl, iv wb, .unset, .unset, .unset] X89 hx (hb hby own_d69) rfl rfl ?_
    refine own_aln 16 X89 hx (hb hby own_d70) rfl rfl rfl ?_
    refine own_to (T' := T89) (mkF m 17 #[rv a, rv aC, iv 4, iv wd, iv pl, iv wb, .unset, .unset, .unset] [(.long (1 : Int64)), (.ref a)]) (fun _ k => XS.lconst X89.here hx rfl (hb hby own_d71) k) ?_
    refine own_il 19 X89 hx (hb hby own_d72) rfl rfl ?_
    refine own_to (T' := T89) (mkF m 20 #[rv a, rv aC, iv 4, iv wd, iv pl, iv wb, .unset, .unset, .unset] [(.long ((1 : Int64) <<< (wb &&& 0x3f).toInt64)), (.ref a)]) (fun _ k => XS.lshl X89.here hx rfl (hb hby own_d73) rfl k) ?_
    refine own_to (T' := T89) (mkF m 21 #[rv a, rv aC, iv 4, iv wd, iv pl, iv wb, .unset, .unset, .unset] [(.long (1 : Int64)), (.long ((1 : Int64) <<< (wb &&& 0x3f).toInt64)), (.ref a)]) (fun _ k => XS.lconst X89.here hx rfl (hb hby own_d74) k) ?_
    refine own_to (T' := T89) (mkF m 22 #[rv a, rv aC, iv 4, iv wd, iv pl, iv wb, .unset, .unset, .unset] [(.long (((1 : Int64) <<< (wb &&& 0x3f).toInt64) - (1 : Int64))), (.ref a)]) (fun _ k => XS.lsub X89.here hx rfl (hb hby own_d75) rfl k) ?_
    obtain ⟨T90, h90, X90, e90, W90, st90⟩ := putF X89 hx hZ hown (host := "") (Or.inl (own_w hw 27 rfl)) Via.refl e89 F_wordMask_a E_a (Or.inr ⟨(own_w hw 28 rfl), rfl, hnm⟩) (own_w hw 4 rfl) (ty := .long) (by decide) rfl rfl (g := (mkF m 22 #[rv a, rv aC, iv 4, iv wd, iv pl, iv wb, .unset, .unset, .unset] [(.long (((1 : Int64) <<< (wb &&& 0x3f).toInt64) - (1 : Int64))), (.ref a)])) rfl rfl (hb hby own_d76)
    refine own_to (mkF m 25 #[rv a, rv aC, iv 4, iv wd, iv pl, iv wb, .unset, .unset, .unset] []) st90 ?_
    have N90 := Fr.snoc X90 N89 ge_a
    have tmp90 : Fld Z h90 a "com/example/gramstead/gramstead/estimation/RecordLayout" "wordMask" "J" (.long (((1 : Int64) <<< (wb &&& 0x3f).toInt64) - (1 : Int64))) := F_wordMask_a.same W90
    have OL := OL.wr W90 ge_a
    have KP := KP.wr W90 (Or.inl (List.mem_of_getElem? (i := 0) rfl))
    have E_a := E_a.wr W90
    have F_slotLongs_a := F_slotLongs_a.other W90 (Or.inr (slot_ne (Or.inr (own_w hw 31 rfl)) (Or.inr (own_w hw 28 rfl)) (by decide) (t := (.array .int)) (t' := .long) (by decide) (by decide)))
    have F_slotShifts_a := F_slotShifts_a.other W90 (Or.inr (slot_ne (Or.inr (own_w hw 33 rfl)) (Or.inr (own_w hw 28 rfl)) (by decide) (t := (.array .int)) (t' := .long) (by decide) (by decide)))
    have F_orderMask_a := F_orderMask_a.other W90 (Or.inr (slot_ne (Or.inr (own_w hw 37 rfl)) (Or.inr (own_w hw 28 rfl)) (by decide) (t := .long) (t' := .long) (by decide) (by decide)))
    have F_orderShift_a := F_orderShift_a.other W90 (Or.inr (slot_ne (Or.inr (own_w hw 39 rfl)) (Or.inr (own_w hw 28 rfl)) (by decide) (t := .int) (t' := .long) (by decide) (by decide)))
    have F_keyLongs_a := F_keyLongs_a.other W90 (Or.inr (slot_ne (Or.inr (own_w hw 41 rfl)) (Or.inr (own_w hw 28 rfl)) (by decide) (t := .int) (t' := .long) (by decide) (by decide)))
    have F_width_a := F_width_a.other W90 (Or.inr (slot_ne (Or.inr (own_w hw 43 rfl)) (Or.inr (own_w hw 28 rfl)) (by decide) (t := .int) (t' := .long) (by decide) (by decide)))
    have F_wordMask_a := tmp90
    refine own_aln 26 X90 hx (hb hby own_d77) rfl rfl rfl ?_
    refine own_iln 27 X90 hx (hb hby own_d78) rfl rfl ?_
    obtain ⟨T91, h91, k91, X91, e91, E91, A91, B91, st91⟩ := newPE X90 hx hZ (own_w hw 29 rfl) e90 (g := (mkF m 27 #[rv a, rv aC, iv 4, iv wd, iv pl, iv wb, .unset, .unset, .unset] [(.int (4 : Int32)), (.ref a)])) rfl (hb hby own_d79) rfl (by decide) (cap := 4) (by decide) (by decide) (by decide) (by decide) (ad := "[I") (by decide)
    obtain ⟨b91, g91⟩ : ∃ z, z = h90.size := ⟨_, rfl⟩
    rw [← g91] at A91 B91 st91
    have sz_b91 : h0.size ≤ b91 := Nat.le_trans KP.1 (Nat.le_of_eq g91.symm)
    have ge_b91 : n0 ≤ b91 := Nat.le_trans Z0 sz_b91
    have ne_a_b91 : a ≠ b91 := Nat.ne_of_lt (Nat.lt_of_lt_of_le E_a.lt (Nat.le_of_eq g91.symm))
    have OL := OL.ext E91
    have KP := KP.ext E91
    have E_a := E_a.ext E91
    have F_slotLongs_a := F_slotLongs_a.ext E91
    have F_slotShifts_a := F_slotShifts_a.ext E91
    have F_orderMask_a := F_orderMask_a.ext E91
    have F_orderShift_a := F_orderShift_a.ext E91
    have F_keyLongs_a := F_keyLongs_a.ext E91
    have F_width_a := F_width_a.ext E91
    have V_b91 : Arv Z h91 b91 k91 .int (4 : Int32) [(.int (0 : Int32)), (.int (0 : Int32)), (.int (0 : Int32)), (.int (0 : Int32))] (.int (0 : Int32)) := (Arv.new A91 (by decide)).pad (pad_rep [] (.int (0 : Int32)) 4)
    refine own_to (mkF m 29 #[rv a, rv aC, iv 4, iv wd, iv pl, iv wb, .unset, .unset, .unset] [(.ref b91), (.ref a)]) st91 ?_
    obtain ⟨T92, h92, X92, e92, W92, st92⟩ := putF X91 hx hZ hown (host := "") (Or.inl (own_w hw 30 rfl)) Via.refl e91 F_slotLongs_a E_a (Or.inr ⟨(own_w hw 31 rfl), rfl, hnm⟩) (own_w hw 4 rfl) (ty := (.array .int)) (by decide) rfl rfl (g := (mkF m 29 #[rv a, rv aC, iv 4, iv wd, iv pl, iv wb, .unset, .unset, .unset] [(.ref b91), (.ref a)])) rfl rfl (hb hby own_d80)
    refine own_to (mkF m 32 #[rv a, rv aC, iv 4, iv wd, iv pl, iv wb, .unset, .unset, .unset] []) st92 ?_
    have N92 := Fr.snoc X92 N90 ge_a
    have tmp92 : Fld Z h92 a "com/example/gramstead/gramstead/estimation/RecordLayout" "slotLongs" "[I" (.ref b91) := F_slotLongs_a.same W92
    have OL := OL.wr W92 ge_a
    have KP := KP.wr W92 (Or.inl (List.mem_of_getElem? (i := 0) rfl))
    have E_a := E_a.wr W92
    have F_slotShifts_a := F_slotShifts_a.other W92 (Or.inr (slot_ne (Or.inr (own_w hw 33 rfl)) (Or.inr (own_w hw 31 rfl)) (by decide) (t := (.array .int)) (t' := (.array .int)) (by decide) (by decide)))
    have F_orderMask_a := F_orderMask_a.other W92 (Or.inr (slot_ne (Or.inr (own_w hw 37 rfl)) (Or.inr (own_w hw 31 rfl)) (by decide) (t := .long) (t' := (.array .int)) (by decide) (by decide)))
    have F_orderShift_a := F_orderShift_a.other W92 (Or.inr (slot_ne (Or.inr (own_w hw 39 rfl)) (Or.inr (own_w hw 31 rfl)) (by decide) (t := .int) (t' := (.array .int)) (by decide) (by decide)))
    have F_keyLongs_a := F_keyLongs_a.other W92 (Or.inr (slot_ne (Or.inr (own_w hw 41 rfl)) (Or.inr (own_w hw 31 rfl)) (by decide) (t := .int) (t' := (.array .int)) (by decide) (by decide)))
    have F_width_a := F_width_a.other W92 (Or.inr (slot_ne (Or.inr (own_w hw 43 rfl)) (Or.inr (own_w hw 31 rfl)) (by decide) (t := .int) (t' := (.array .int)) (by decide) (by decide)))
    have V_b91 := V_b91.other W92 (Ne.symm ne_a_b91)
    have F_slotLongs_a := tmp92
    refine own_aln 33 X92 hx (hb hby own_d81) rfl rfl rfl ?_
    refine own_iln 34 X92 hx (hb hby own_d82) rfl rfl ?_
    obtain ⟨T93, h93, k93, X93, e93, E93, A93, B93, st93⟩ := newPE X92 hx hZ (own_w hw 29 rfl) e92 (g := (mkF m 34 #[rv a, rv aC, iv 4, iv wd, iv pl, iv wb, .unset, .unset, .unset] [(.int (4 : Int32)), (.ref a)])) rfl (hb hby own_d83) rfl (by decide) (cap := 4) (by decide) (by decide) (by decide) (by decide) (ad := "[I") (by decide)
    obtain ⟨b93, g93⟩ : ∃ z, z = h92.size := ⟨_, rfl⟩
    rw [← g93] at A93 B93 st93
    have sz_b93 : h0.size ≤ b93 := Nat.le_trans KP.1 (Nat.le_of_eq g93.symm)
    have ge_b93 : n0 ≤ b93 := Nat.le_trans Z0 sz_b93
    have ne_a_b93 : a ≠ b93 := Nat.ne_of_lt (Nat.lt_of_lt_of_le E_a.lt (Nat.le_of_eq g93.symm))
    have ne_b91_b93 : b91 ≠ b93 := Nat.ne_of_lt (Nat.lt_of_lt_of_le V_b91.lt (Nat.le_of_eq g93.symm))
    have OL := OL.ext E93
    have KP := KP.ext E93
    have E_a := E_a.ext E93
    have F_slotLongs_a := F_slotLongs_a.ext E93
    have F_slotShifts_a := F_slotShifts_a.ext E93
    have F_orderMask_a := F_orderMask_a.ext E93
    have F_orderShift_a := F_orderShift_a.ext E93
    have F_keyLongs_a := F_keyLongs_a.ext E93
    have F_width_a := F_width_a.ext E93
    have V_b91 := V_b91.ext E93
    have V_b93 : Arv Z h93 b93 k93 .int (4 : Int32) [(.int (0 : Int32)), (.int (0 : Int32)), (.int (0 : Int32)), (.int (0 : Int32))] (.int (0 : Int32)) := (Arv.new A93 (by decide)).pad (pad_rep [] (.int (0 : Int32)) 4)
    refine own_to (mkF m 36 #[rv a, rv aC, iv 4, iv wd, iv pl, iv wb, .unset, .unset, .unset] [(.ref b93), (.ref a)]) st93 ?_
    obtain ⟨T94, h94, X94, e94, W94, st94⟩ := putF X93 hx hZ hown (host := "") (Or.inl (own_w hw 32 rfl)) Via.refl e93 F_slotShifts_a E_a (Or.inr ⟨(own_w hw 33 rfl), rfl, hnm⟩) (own_w hw 4 rfl) (ty := (.array .int)) (by decide) rfl rfl (g := (mkF m 36 #[rv a, rv aC, iv 4, iv wd, iv pl, iv wb, .unset, .unset, .unset] [(.ref b93), (.ref a)])) rfl rfl (hb hby own_d84)
    refine own_to (mkF m 39 #[rv a, rv aC, iv 4, iv wd, iv pl, iv wb, .unset, .unset, .unset] []) st94 ?_
    have N94 := Fr.snoc X94 N92 ge_a
    have tmp94 : Fld Z h94 a "com/example/gramstead/gramstead/estimation/RecordLayout" "slotShifts" "[I" (.ref b93) := F_slotShifts_a.same W94
    have OL := OL.wr W94 ge_a
    have KP := KP.wr W94 (Or.inl (List.mem_of_getElem? (i := 0) rfl))
    have E_a := E_a.wr W94
    have F_slotLongs_a := F_slotLongs_a.other W94 (Or.inr (slot_ne (Or.inr (own_w hw 31 rfl)) (Or.inr (own_w hw 33 rfl)) (by decide) (t := (.array .int)) (t' := (.array .int)) (by decide) (by decide)))
    have F_orderMask_a := F_orderMask_a.other W94 (Or.inr (slot_ne (Or.inr (own_w hw 37 rfl)) (Or.inr (own_w hw 33 rfl)) (by decide) (t := .long) (t' := (.array .int)) (by decide) (by decide)))
    have F_orderShift_a := F_orderShift_a.other W94 (Or.inr (slot_ne (Or.inr (own_w hw 39 rfl)) (Or.inr (own_w hw 33 rfl)) (by decide) (t := .int) (t' := (.array .int)) (by decide) (by decide)))
    have F_keyLongs_a := F_keyLongs_a.other W94 (Or.inr (slot_ne (Or.inr (own_w hw 41 rfl)) (Or.inr (own_w hw 33 rfl)) (by decide) (t := .int) (t' := (.array .int)) (by decide) (by decide)))
    have F_width_a := F_width_a.other W94 (Or.inr (slot_ne (Or.inr (own_w hw 43 rfl)) (Or.inr (own_w hw 33 rfl)) (by decide) (t := .int) (t' := (.array .int)) (by decide) (by decide)))
    have V_b91 := V_b91.other W94 (Ne.symm ne_a_b91)
    have V_b93 := V_b93.other W94 (Ne.symm ne_a_b93)
    have F_slotShifts_a := tmp94
    refine own_ic 40 0 X94 hx (hb hby own_d85) rfl rfl ?_
    refine own_is 42 #[rv a, rv aC, iv 4, iv wd, iv pl, iv wb, iv 0, .unset, .unset] X94 hx (hb hby own_d86) rfl rfl ?_
    refine own_bi 44 63 X94 hx (hb hby own_d87) rfl rfl ?_
    refine own_is 46 #[rv a, rv aC, iv 4, iv wd, iv pl, iv wb, iv 0, iv 63, .unset] X94 hx (hb hby own_d88) rfl rfl ?_
    refine own_aln 47 X94 hx (hb hby own_d89) rfl rfl rfl ?_
    obtain ⟨T95, X95, e95, st95⟩ := getS2 X94 hx hZ hown (host := "") (Or.inl (own_w hw 34 rfl)) Via.refl e94 (SC.ext OL.2) (g := (mkF m 47 #[rv a, rv aC, iv 4, iv wd, iv pl, iv wb, iv 0, iv 63, .unset] [(.ref aC)])) rfl (hb hby own_d90)
    refine own_to (mkF m 50 #[rv a, rv aC, iv 4, iv wd, iv pl, iv wb, iv 0, iv 63, .unset] [(.ref aC), (.ref aC)]) st95 ?_
    refine own_to (T' := T95) (mkF m 53 #[rv a, rv aC, iv 4, iv wd, iv pl, iv wb, iv 0, iv 63, .unset] []) (fun _ k => Jvm.RoadKit.acmp (g := (mkF m 50 #[rv a, rv aC, iv 4, iv wd, iv pl, iv wb, iv 0, iv 63, .unset] [(.ref aC), (.ref aC)])) X95 hx rfl rfl rfl (pc0 := 50) (pc' := 53) (same := true) rfl (hb hby own_d91) rfl (decide_eq_true rfl) (by decide) (by decide) k) ?_
    refine own_iln 54 X95 hx (hb hby own_d92) rfl rfl ?_
    obtain ⟨_, T96, Lc96, X96, hQ96, st96⟩ := own_callS X95 hx (y := (⟨"com/example/gramstead/gramstead/estimation/RecordLayout", "bitsFor", "(I)I"⟩ : MethodName)) hown (mvT hZ (own_w hw 15 rfl)) (mvT hZ (own_w hw 16 rfl)) (mvT hZ (own_w hw 5 rfl)) (mvT hZ (own_w hw 17 rfl)) (by decide) (backOf (W := 0) (own_rmB4 l Z a0 hw [] h94 n0 (Nat.le_trans Z0 KP.1) OL) hZ (own_w hw 17 rfl) (own_w hw 5 rfl) (by decide) (by decide)) (g := (mkF m 54 #[rv a, rv aC, iv 4, iv wd, iv pl, iv wb, iv 0, iv 63, .unset] [(.int (4 : Int32))])) rfl (by rw [hml]; rfl) (argsL := [(.int (4 : Int32))]) (rest := []) (lenOf own_pd0 rfl) rfl (by show 2 * 0 + _ ≤ _; exact Nat.le_of_eq rfl) (hb hby own_d93) rfl e95 (kc := 2) (ks := 8) rfl rfl (by decide) (by decide)
    obtain ⟨rfl, N96q, e96⟩ := hQ96
    have N96 := Fr.app N94 N96q
    refine own_to (mkF m 57 #[rv a, rv aC, iv 4, iv wd, iv pl, iv wb, iv 0, iv 63, .unset] [(.int (3 : Int32))]) st96 ?_
    refine own_is 59 #[rv a, rv aC, iv 4, iv wd, iv pl, iv wb, iv 0, iv 63, iv 3] X96 hx (hb hby own_d94) rfl rfl ?_
    refine own_aln 60 X96 hx (hb hby own_d95) rfl rfl rfl ?_
    refine own_to (T' := T96) (mkF m 61 #[rv a, rv aC, iv 4, iv wd, iv pl, iv wb, iv 0, iv 63, iv 3] [(.long (1 : Int64)), (.ref a)]) (fun _ k => XS.lconst X96.here hx rfl (hb hby own_d96) k) ?_
    refine own_il 63 X96 hx (hb hby own_d97) rfl rfl ?_
    refine own_to (T' := T96) (mkF m 64 #[rv a, rv aC, iv 4, iv wd, iv pl, iv wb, iv 0, iv 63, iv 3] [(.long ((1 : Int64) <<< ((3 : Int32) &&& 0x3f).toInt64)), (.ref a)]) (fun _ k => XS.lshl X96.here hx rfl (hb hby own_d98) rfl k) ?_
    refine own_to (T' := T96) (mkF m 65 #[rv a, rv aC, iv 4, iv wd, iv pl, iv wb, iv 0, iv 63, iv 3] [(.long (1 : Int64)), (.long ((1 : Int64) <<< ((3 : Int32) &&& 0x3f).toInt64)), (.ref a)]) (fun _ k => XS.lconst X96.here hx rfl (hb hby own_d99) k) ?_
    refine own_to (T' := T96) (mkF m 66 #[rv a, rv aC, iv 4, iv wd, iv pl, iv wb, iv 0, iv 63, iv 3] [(.long (((1 : Int64) <<< ((3 : Int32) &&& 0x3f).toInt64) - (1 : Int64))), (.ref a)]) (fun _ k => XS.lsub X96.here hx rfl (hb hby own_d100) rfl k) ?_
    obtain ⟨T97, h97, X97, e97, W97, st97⟩ := putF X96 hx hZ hown (host := "") (Or.inl (own_w hw 36 rfl)) Via.refl e96 F_orderMask_a E_a (Or.inr ⟨(own_w hw 37 rfl), rfl, hnm⟩) (own_w hw 4 rfl) (ty := .long) (by decide) rfl rfl (g := (mkF m 66 #[rv a, rv aC, iv 4, iv wd, iv pl, iv wb, iv 0, iv 63, iv 3] [(.long (((1 : Int64) <<< ((3 : Int32) &&& 0x3f).toInt64) - (1 : Int64))), (.ref a)])) rfl rfl (hb hby own_d101)
    refine own_to (mkF m 69 #[rv a, rv aC, iv 4, iv wd, iv pl, iv wb, iv 0, iv 63, iv 3] []) st97 ?_
    have N97 := Fr.snoc X97 N96 ge_a
    have tmp97 : Fld Z h97 a "com/example/gramstead/gramstead/estimation/RecordLayout" "orderMask" "J" (.long (((1 : Int64) <<< ((3 : Int32) &&& 0x3f).toInt64) - (1 : Int64))) := F_orderMask_a.same W97
    have OL := OL.wr W97 ge_a
    have KP := KP.wr W97 (Or.inl (List.mem_of_getElem? (i := 0) rfl))
    have E_a := E_a.wr W97
    have F_slotLongs_a := F_slotLongs_a.other W97 (Or.inr (slot_ne (Or.inr (own_w hw 31 rfl)) (Or.inr (own_w hw 37 rfl)) (by decide) (t := (.array .int)) (t' := .long) (by decide) (by decide)))
    have F_slotShifts_a := F_slotShifts_a.other W97 (Or.inr (slot_ne (Or.inr (own_w hw 33 rfl)) (Or.inr (own_w hw 37 rfl)) (by decide) (t := (.array .int)) (t' := .long) (by decide) (by decide)))
    have F_orderShift_a := F_orderShift_a.other W97 (Or.inr (slot_ne (Or.inr (own_w hw 39 rfl)) (Or.inr (own_w hw 37 rfl)) (by decide) (t := .int) (t' := .long) (by decide) (by decide)))
    have F_keyLongs_a := F_keyLongs_a.other W97 (Or.inr (slot_ne (Or.inr (own_w hw 41 rfl)) (Or.inr (own_w hw 37 rfl)) (by decide) (t := .int) (t' := .long) (by decide) (by decide)))
    have F_width_a := F_width_a.other W97 (Or.inr (slot_ne (Or.inr (own_w hw 43 rfl)) (Or.inr (own_w hw 37 rfl)) (by decide) (t := .int) (t' := .long) (by decide) (by decide)))
    have V_b91 := V_b91.other W97 (Ne.symm ne_a_b91)
    have V_b93 := V_b93.other W97 (Ne.symm ne_a_b93)
    have F_orderMask_a := tmp97
    refine own_il 71 X97 hx (hb hby own_d102) rfl rfl ?_
    refine own_il 73 X97 hx (hb hby own_d103) rfl rfl ?_
    refine own_isub 74 X97 hx (hb hby own_d104) (z := (60 : Int32)) rfl rfl ?_
    refine own_is 76 #[rv a, rv aC, iv 4, iv wd, iv pl, iv wb, iv 0, iv 60, iv 3] X97 hx (hb hby own_d105) rfl rfl ?_
    refine own_go 84 X97 hx (hb hby own_d106) (by decide) (by decide) ?_
    refine own_aln 85 X97 hx (hb hby own_d107) rfl rfl rfl ?_
    refine own_il 87 X97 hx (hb hby own_d108) rfl rfl ?_
    obtain ⟨T98, h98, X98, e98, W98, st98⟩ := putF X97 hx hZ hown (host := "") (Or.inl (own_w hw 38 rfl)) Via.refl e97 F_orderShift_a E_a (Or.inr ⟨(own_w hw 39 rfl), rfl, hnm⟩) (own_w hw 4 rfl) (ty := .int) (by decide) rfl rfl (g := (mkF m 87 #[rv a, rv aC, iv 4, iv wd, iv pl, iv wb, iv 0, iv 60, iv 3] [(.int (60 : Int32)), (.ref a)])) rfl rfl (hb hby own_d109)
    refine own_to (mkF m 90 #[rv a, rv aC, iv 4, iv wd, iv pl, iv wb, iv 0, iv 60, iv 3] []) st98 ?_
    have N98 := Fr.snoc X98 N97 ge_a
    have tmp98 : Fld Z h98 a "com/example/gramstead/gramstead/estimation/RecordLayout" "orderShift" "I" (.int (60 : Int32)) := F_orderShift_a.same W98
    have OL := OL.wr W98 ge_a
    have KP := KP.wr W98 (Or.inl (List.mem_of_getElem? (i := 0) rfl))
    have E_a := E_a.wr W98
    have F_slotLongs_a := F_slotLongs_a.other W98 (Or.inr (slot_ne (Or.inr (own_w hw 31 rfl)) (Or.inr (own_w hw 39 rfl)) (by decide) (t := (.array .int)) (t' := .int) (by decide) (by decide)))
    have F_slotShifts_a := F_slotShifts_a.other W98 (Or.inr (slot_ne (Or.inr (own_w hw 33 rfl)) (Or.inr (own_w hw 39 rfl)) (by decide) (t := (.array .int)) (t' := .int) (by decide) (by decide)))
    have F_orderMask_a := F_orderMask_a.other W98 (Or.inr (slot_ne (Or.inr (own_w hw 37 rfl)) (Or.inr (own_w hw 39 rfl)) (by decide) (t := .long) (t' := .int) (by decide) (by decide)))
    have F_keyLongs_a := F_keyLongs_a.other W98 (Or.inr (slot_ne (Or.inr (own_w hw 41 rfl)) (Or.inr (own_w hw 39 rfl)) (by decide) (t := .int) (t' := .int) (by decide) (by decide)))
    have F_width_a := F_width_a.other W98 (Or.inr (slot_ne (Or.inr (own_w hw 43 rfl)) (Or.inr (own_w hw 39 rfl)) (by decide) (t := .int) (t' := .int) (by decide) (by decide)))
    have V_b91 := V_b91.other W98 (Ne.symm ne_a_b91)
    have V_b93 := V_b93.other W98 (Ne.symm ne_a_b93)
    have F_orderShift_a := tmp98
    refine own_ic 91 0 X98 hx (hb hby own_d110) rfl rfl ?_
    refine own_is 93 #[rv a, rv aC, iv 4, iv wd, iv pl, iv wb, iv 0, iv 60, iv 0] X98 hx (hb hby own_d111) rfl rfl ?_
    refine own_il 95 X98 hx (hb hby own_d112) rfl rfl ?_
    refine own_iln 96 X98 hx (hb hby own_d113) rfl rfl ?_
    refine own_icN 99 X98 hx (hb hby own_d114) (tlt (by decide : (0 : Int32) < (4 : Int32))).2.1 rfl ?_
    refine own_il 101 X98 hx (hb hby own_d115) rfl rfl ?_
    refine own_il 103 X98 hx (hb hby own_d116) rfl rfl ?_
    refine own_icY 113 X98 hx (hb hby own_d117) (flt (own_ge (60 : Int32) 60 rfl (by decide) hb2)).2.1 (by decide) (by decide) ?_
    have hl0 : 0 ≤ (0 : Int32).toInt ∧ (0 : Int32).toInt ≤ 0 := by decide
    refine own_il 115 X98 hx (hb hby own_d118) rfl rfl ?_
    refine own_il 117 X98 hx (hb hby own_d119) rfl rfl ?_
    refine own_isub 118 X98 hx (hb hby own_d120) rfl rfl ?_
    refine own_is 120 #[rv a, rv aC, iv 4, iv wd, iv pl, iv wb, iv 0, iv ((60 : Int32) - wb), iv 0] X98 hx (hb hby own_d121) rfl rfl ?_
    refine own_aln 121 X98 hx (hb hby own_d122) rfl rfl rfl ?_
    obtain ⟨T99, X99, e99, st99⟩ := getF X98 hx hZ hown (host := "") (Or.inl (own_w hw 30 rfl)) Via.refl e98 F_slotLongs_a (g := (mkF m 121 #[rv a, rv aC, iv 4, iv wd, iv pl, iv wb, iv 0, iv ((60 : Int32) - wb), iv 0] [(.ref a)])) rfl rfl (hb hby own_d123)
    refine own_to (mkF m 124 #[rv a, rv aC, iv 4, iv wd, iv pl, iv wb, iv 0, iv ((60 : Int32) - wb), iv 0] [(.ref b91)]) st99 ?_
    refine own_il 126 X99 hx (hb hby own_d124) rfl rfl ?_
    refine own_il 128 X99 hx (hb hby own_d125) rfl rfl ?_
    obtain ⟨cl100, Ar100, q100, S100, M100, H100, G100⟩ := id V_b91
    obtain ⟨T100, h100, X100, e100, W100, st100⟩ := stI X99 hx hZ e99 Ar100 (j := (0 : Int32)) (inb_of S100 ⟨by decide, by decide⟩) (g := (mkF m 128 #[rv a, rv aC, iv 4, iv wd, iv pl, iv wb, iv 0, iv ((60 : Int32) - wb), iv 0] [(.int (0 : Int32)), (.int (0 : Int32)), (.ref b91)])) rfl rfl (hb hby own_d126)
    refine own_to (mkF m 129 #[rv a, rv aC, iv 4, iv wd, iv pl, iv wb, iv 0, iv ((60 : Int32) - wb), iv 0] []) st100 ?_
    have N100 := Fr.snoc X100 N98 ge_b91
    have tmp100 : Arv Z h100 b91 k91 .int (4 : Int32) [(.int (0 : Int32)), (.int (0 : Int32)), (.int (0 : Int32)), (.int (0 : Int32))] (.int (0 : Int32)) := Arv.set Ar100 q100 S100 M100 H100 G100 rfl W100 0 rfl (Nat.le_of_ble_eq_true rfl)
    have OL := OL.wr W100 ge_b91
    have KP := KP.wr W100 (Or.inr sz_b91)
    have E_a := E_a.wr W100
    have F_slotLongs_a := F_slotLongs_a.other W100 (Or.inl ne_a_b91)
    have F_slotShifts_a := F_slotShifts_a.other W100 (Or.inl ne_a_b91)
    have F_keyLongs_a := F_keyLongs_a.other W100 (Or.inl ne_a_b91)
    have F_width_a := F_width_a.other W100 (Or.inl ne_a_b91)
    have V_b93 := V_b93.other W100 (Ne.symm ne_b91_b93)
    have V_b91 := tmp100
    refine own_aln 130 X100 hx (hb hby own_d127) rfl rfl rfl ?_
    obtain ⟨T101, X101, e101, st101⟩ := getF X100 hx hZ hown (host := "") (Or.inl (own_w hw 32 rfl)) Via.refl e100 F_slotShifts_a (g := (mkF m 130 #[rv a, rv aC, iv 4, iv wd, iv pl, iv wb, iv 0, iv ((60 : Int32) - wb), iv 0] [(.ref a)])) rfl rfl (hb hby own_d128)
    refine own_to (mkF m 133 #[rv a, rv aC, iv 4, iv wd, iv pl, iv wb, iv 0, iv ((60 : Int32) - wb), iv 0] [(.ref b93)]) st101 ?_
    refine own_il 135 X101 hx (hb hby own_d129) rfl rfl ?_
    refine own_il 137 X101 hx (hb hby own_d130) rfl rfl ?_
    obtain ⟨cl102, Ar102, q102, S102, M102, H102, G102⟩ := id V_b93
    obtain ⟨T102, h102, X102, e102, W102, st102⟩ := stI X101 hx hZ e101 Ar102 (j := (0 : Int32)) (inb_of S102 ⟨by decide, by decide⟩) (g := (mkF m 137 #[rv a, rv aC, iv 4, iv wd, iv pl, iv wb, iv 0, iv ((60 : Int32) - wb), iv 0] [(.int ((60 : Int32) - wb)), (.int (0 : Int32)), (.ref b93)])) rfl rfl (hb hby own_d131)
    refine own_to (mkF m 138 #[rv a, rv aC, iv 4, iv wd, iv pl, iv wb, iv 0, iv ((60 : Int32) - wb), iv 0] []) st102 ?_
    have N102 := Fr.snoc X102 N100 ge_b93
    have tmp102 : Arv Z h102 b93 k93 .int (4 : Int32) [(.int ((60 : Int32) - wb)), (.int (0 : Int32)), (.int (0 : Int32)), (.int (0 : Int32))] (.int (0 : Int32)) := Arv.set Ar102 q102 S102 M102 H102 G102 rfl W102 0 rfl (Nat.le_of_ble_eq_true rfl)
    have OL := OL.wr W102 ge_b93
    have KP := KP.wr W102 (Or.inr sz_b93)
    have E_a := E_a.wr W102
    have F_slotLongs_a := F_slotLongs_a.other W102 (Or.inl ne_a_b93)
    have F_slotShifts_a := F_slotShifts_a.other W102 (Or.inl ne_a_b93)
    have F_keyLongs_a := F_keyLongs_a.other W102 (Or.inl ne_a_b93)
    have F_width_a := F_width_a.other W102 (Or.inl ne_a_b93)
    have V_b91 := V_b91.other W102 ne_b91_b93
    have V_b93 := tmp102
    refine own_inc 141 #[rv a, rv aC, iv 4, iv wd, iv pl, iv wb, iv 0, iv ((60 : Int32) - wb), iv 1] X102 hx (hb hby own_d132) rfl rfl rfl ?_
    refine own_go 93 X102 hx (hb hby own_d133) (by decide) (by decide) ?_
    refine own_il 95 X102 hx (hb hby own_d112) rfl rfl ?_
    refine own_iln 96 X102 hx (hb hby own_d113) rfl rfl ?_
    refine own_icN 99 X102 hx (hb hby own_d114) (tlt (by decide : (1 : Int32) < (4 : Int32))).2.1 rfl ?_
    refine own_il 101 X102 hx (hb hby own_d115) rfl rfl ?_
    refine own_il 103 X102 hx (hb hby own_d116) rfl rfl ?_
    suffices jn103 : ∀ lg1 : Int32, (((60 : Int32) - wb) < wb → lg1 = ((0 : Int32) + (1 : Int32))) → (¬ ((60 : Int32) - wb) < wb → lg1 = (0 : Int32)) → ∀ sh1 : Int32, (((60 : Int32) - wb) < wb → sh1 = (63 : Int32)) → (¬ ((60 : Int32) - wb) < wb → sh1 = ((60 : Int32) - wb)) → own_E p e below (own_Fin s (own_QCC Z a aC aS (4 : Int32) wd pl h0 n0) ({ frames := 2, cells := 2, slots := 8, locals := 40 } : Room).cells ({ frames := 2, cells := 2, slots := 8, locals := 40 } : Room).slots) T102 (mkF m 113 #[rv a, rv aC, iv 4, iv wd, iv pl, iv wb, iv lg1, iv sh1, iv 1] []) from by
      by_cases hj1 : ((60 : Int32) - wb) < wb
      · refine own_icN 106 X102 hx (hb hby own_d117) (tlt hj1).2.1 rfl ?_
        refine own_inc 109 #[rv a, rv aC, iv 4, iv wd, iv pl, iv wb, iv ((0 : Int32) + (1 : Int32)), iv ((60 : Int32) - wb), iv 1] X102 hx (hb hby own_d146) rfl rfl rfl ?_
        refine own_bi 111 63 X102 hx (hb hby own_d147) rfl rfl ?_
        refine own_is 113 #[rv a, rv aC, iv 4, iv wd, iv pl, iv wb, iv ((0 : Int32) + (1 : Int32)), iv 63, iv 1] X102 hx (hb hby own_d148) rfl rfl ?_
        exact jn103 ((0 : Int32) + (1 : Int32)) (fun _ => rfl) (fun q => absurd hj1 q) (63 : Int32) (fun _ => rfl) (fun q => absurd hj1 q)
      · refine own_icY 113 X102 hx (hb hby own_d117) (flt hj1).2.1 (by decide) (by decide) ?_
        exact jn103 (0 : Int32) (fun q => absurd q hj1) (fun _ => rfl) ((60 : Int32) - wb) (fun q => absurd q hj1) (fun _ => rfl)
    intro lg1 hlg1t hlg1f sh1 hsh1t hsh1f
    have hl1 := own_incr (k := 0) (by decide) hl0 hlg1t hlg1f
    refine own_il 115 X102 hx (hb hby own_d118) rfl rfl ?_
    refine own_il 117 X102 hx (hb hby own_d119) rfl rfl ?_
    refine own_isub 118 X102 hx (hb hby own_d120) rfl rfl ?_
    refine own_is 120 #[rv a, rv aC, iv 4, iv wd, iv pl, iv wb, iv lg1, iv (sh1 - wb), iv 1] X102 hx (hb hby own_d121) rfl rfl ?_
    refine own_aln 121 X102 hx (hb hby own_d122) rfl rfl rfl ?_
    obtain ⟨T104, X104, e104, st104⟩ := getF X102 hx hZ hown (host := "") (Or.inl (own_w hw 30 rfl)) Via.refl e102 F_slotLongs_a (g := (mkF m 121 #[rv a, rv aC, iv 4, iv wd, iv pl, iv wb, iv lg1, iv (sh1 - wb), iv 1] [(.ref a)])) rfl rfl (hb hby own_d123)
    refine own_to (mkF m 124 #[rv a, rv aC, iv 4, iv wd, iv pl, iv wb, iv lg1, iv (sh1 - wb), iv 1] [(.ref b91)]) st104 ?_
    refine own_il 126 X104 hx (hb hby own_d124) rfl rfl ?_
    refine own_il 128 X104 hx (hb hby own_d125) rfl rfl ?_
    obtain ⟨cl105, Ar105, q105, S105, M105, H105, G105⟩ := id V_b91
    obtain ⟨T105, h105, X105, e105, W105, st105⟩ := stI X104 hx hZ e104 Ar105 (j := (1 : Int32)) (inb_of S105 ⟨by decide, by decide⟩) (g := (mkF m 128 #[rv a, rv aC, iv 4, iv wd, iv pl, iv wb, iv lg1, iv (sh1 - wb), iv 1] [(.int lg1), (.int (1 : Int32)), (.ref b91)])) rfl rfl (hb hby own_d126)
    refine own_to (mkF m 129 #[rv a, rv aC, iv 4, iv wd, iv pl, iv wb, iv lg1, iv (sh1 - wb), iv 1] []) st105 ?_
    have N105 := Fr.snoc X105 N102 ge_b91
    have tmp105 : Arv Z h105 b91 k91 .int (4 : Int32) [(.int (0 : Int32)), (.int lg1), (.int (0 : Int32)), (.int (0 : Int32))] (.int (0 : Int32)) := Arv.set Ar105 q105 S105 M105 H105 G105 rfl W105 1 rfl (Nat.le_of_ble_eq_true rfl)
    have OL := OL.wr W105 ge_b91
    have KP := KP.wr W105 (Or.inr sz_b91)
    have E_a := E_a.wr W105
    have F_slotLongs_a := F_slotLongs_a.other W105 (Or.inl ne_a_b91)
    have F_slotShifts_a := F_slotShifts_a.other W105 (Or.inl ne_a_b91)
    have F_keyLongs_a := F_keyLongs_a.other W105 (Or.inl ne_a_b91)
    have F_width_a := F_width_a.other W105 (Or.inl ne_a_b91)
    have V_b93 := V_b93.other W105 (Ne.symm ne_b91_b93)
    have V_b91 := tmp105
    refine own_aln 130 X105 hx (hb hby own_d127) rfl rfl rfl ?_
    obtain ⟨T106, X106, e106, st106⟩ := getF X105 hx hZ hown (host := "") (Or.inl (own_w hw 32 rfl)) Via.refl e105 F_slotShifts_a (g := (mkF m 130 #[rv a, rv aC, iv 4, iv wd, iv pl, iv wb, iv lg1, iv (sh1 - wb), iv 1] [(.ref a)])) rfl rfl (hb hby own_d128)
    refine own_to (mkF m 133 #[rv a, rv aC, iv 4, iv wd, iv pl, iv wb, iv lg1, iv (sh1 - wb), iv 1] [(.ref b93)]) st106 ?_
    refine own_il 135 X106 hx (hb hby own_d129) rfl rfl ?_
    refine own_il 137 X106 hx (hb hby own_d130) rfl rfl ?_
    obtain ⟨cl107, Ar107, q107, S107, M107, H107, G107⟩ := id V_b93
    obtain ⟨T107, h107, X107, e107, W107, st107⟩ := stI X106 hx hZ e106 Ar107 (j := (1 : Int32)) (inb_of S107 ⟨by decide, by decide⟩) (g := (mkF m 137 #[rv a, rv aC, iv 4, iv wd, iv pl, iv wb, iv lg1, iv (sh1 - wb), iv 1] [(.int (sh1 - wb)), (.int (1 : Int32)), (.ref b93)])) rfl rfl (hb hby own_d131)
    refine own_to (mkF m 138 #[rv a, rv aC, iv 4, iv wd, iv pl, iv wb, iv lg1, iv (sh1 - wb), iv 1] []) st107 ?_
    have N107 := Fr.snoc X107 N105 ge_b93
    have tmp107 : Arv Z h107 b93 k93 .int (4 : Int32) [(.int ((60 : Int32) - wb)), (.int (sh1 - wb)), (.int (0 : Int32)), (.int (0 : Int32))] (.int (0 : Int32)) := Arv.set Ar107 q107 S107 M107 H107 G107 rfl W107 1 rfl (Nat.le_of_ble_eq_true rfl)
    have OL := OL.wr W107 ge_b93
    have KP := KP.wr W107 (Or.inr sz_b93)
    have E_a := E_a.wr W107
    have F_slotLongs_a := F_slotLongs_a.other W107 (Or.inl ne_a_b93)
    have F_slotShifts_a := F_slotShifts_a.other W107 (Or.inl ne_a_b93)
    have F_keyLongs_a := F_keyLongs_a.other W107 (Or.inl ne_a_b93)
    have F_width_a := F_width_a.other W107 (Or.inl ne_a_b93)
    have V_b91 := V_b91.other W107 ne_b91_b93
    have V_b93 := tmp107
    refine own_inc 141 #[rv a, rv aC, iv 4, iv wd, iv pl, iv wb, iv lg1, iv (sh1 - wb), iv 2] X107 hx (hb hby own_d132) rfl rfl rfl ?_
    refine own_go 93 X107 hx (hb hby own_d133) (by decide) (by decide) ?_
    refine own_il 95 X107 hx (hb hby own_d112) rfl rfl ?_
    refine own_iln 96 X107 hx (hb hby own_d113) rfl rfl ?_
    refine own_icN 99 X107 hx (hb hby own_d114) (tlt (by decide : (2 : Int32) < (4 : Int32))).2.1 rfl ?_
    refine own_il 101 X107 hx (hb hby own_d115) rfl rfl ?_
    refine own_il 103 X107 hx (hb hby own_d116) rfl rfl ?_
    suffices jn108 : ∀ lg2 : Int32, ((sh1 - wb) < wb → lg2 = (lg1 + (1 : Int32))) → (¬ (sh1 - wb) < wb → lg2 = lg1) → ∀ sh2 : Int32, ((sh1 - wb) < wb → sh2 = (63 : Int32)) → (¬ (sh1 - wb) < wb → sh2 = (sh1 - wb)) → own_E p e below (own_Fin s (own_QCC Z a aC aS (4 : Int32) wd pl h0 n0) ({ frames := 2, cells := 2, slots := 8, locals := 40 } : Room).cells ({ frames := 2, cells := 2, slots := 8, locals := 40 } : Room).slots) T107 (mkF m 113 #[rv a, rv aC, iv 4, iv wd, iv pl, iv wb, iv lg2, iv sh2, iv 2] []) from by
      by_cases hj2 : (sh1 - wb) < wb
      · refine own_icN 106 X107 hx (hb hby own_d117) (tlt hj2).2.1 rfl ?_
        refine own_inc 109 #[rv a, rv aC, iv 4, iv wd, iv pl, iv wb, iv (lg1 + (1 : Int32)), iv (sh1 - wb), iv 2] X107 hx (hb hby own_d146) rfl rfl rfl ?_
        refine own_bi 111 63 X107 hx (hb hby own_d147) rfl rfl ?_
        refine own_is 113 #[rv a, rv aC, iv 4, iv wd, iv pl, iv wb, iv (lg1 + (1 : Int32)), iv 63, iv 2] X107 hx (hb hby own_d148) rfl rfl ?_
        exact jn108 (lg1 + (1 : Int32)) (fun _ => rfl) (fun q => absurd hj2 q) (63 : Int32) (fun _ => rfl) (fun q => absurd hj2 q)
      · refine own_icY 113 X107 hx (hb hby own_d117) (flt hj2).2.1 (by decide) (by decide) ?_
        exact jn108 lg1 (fun q => absurd q hj2) (fun _ => rfl) (sh1 - wb) (fun q => absurd q hj2) (fun _ => rfl)
    intro lg2 hlg2t hlg2f sh2 hsh2t hsh2f
    have hl2 := own_incr (k := 1) (by decide) hl1 hlg2t hlg2f
    refine own_il 115 X107 hx (hb hby own_d118) rfl rfl ?_
    refine own_il 117 X107 hx (hb hby own_d119) rfl rfl ?_
    refine own_isub 118 X107 hx (hb hby own_d120) rfl rfl ?_
    refine own_is 120 #[rv a, rv aC, iv 4, iv wd, iv pl, iv wb, iv lg2, iv (sh2 - wb), iv 2] X107 hx (hb hby own_d121) rfl rfl ?_
    refine own_aln 121 X107 hx (hb hby own_d122) rfl rfl rfl ?_
    obtain ⟨T109, X109, e109, st109⟩ := getF X107 hx hZ hown (host := "") (Or.inl (own_w hw 30 rfl)) Via.refl e107 F_slotLongs_a (g := (mkF m 121 #[rv a, rv aC, iv 4, iv wd, iv pl, iv wb, iv lg2, iv (sh2 - wb), iv 2] [(.ref a)])) rfl rfl (hb hby own_d123)
    refine own_to (mkF m 124 #[rv a, rv aC, iv 4, iv wd, iv pl, iv wb, iv lg2, iv (sh2 - wb), iv 2] [(.ref b91)]) st109 ?_
    refine own_il 126 X109 hx (hb hby own_d124) rfl rfl ?_
    refine own_il 128 X109 hx (hb hby own_d125) rfl rfl ?_
    obtain ⟨cl110, Ar110, q110, S110, M110, H110, G110⟩ := id V_b91
    obtain ⟨T110, h110, X110, e110, W110, st110⟩ := stI X109 hx hZ e109 Ar110 (j := (2 : Int32)) (inb_of S110 ⟨by decide, by decide⟩) (g := (mkF m 128 #[rv a, rv aC, iv 4, iv wd, iv pl, iv wb, iv lg2, iv (sh2 - wb), iv 2] [(.int lg2), (.int (2 : Int32)), (.ref b91)])) rfl rfl (hb hby own_d126)
    refine own_to (mkF m 129 #[rv a, rv aC, iv 4, iv wd, iv pl, iv wb, iv lg2, iv (sh2 - wb), iv 2] []) st110 ?_
    have N110 := Fr.snoc X110 N107 ge_b91
    have tmp110 : Arv Z h110 b91 k91 .int (4 : Int32) [(.int (0 : Int32)), (.int lg1), (.int lg2), (.int (0 : Int32))] (.int (0 : Int32)) := Arv.set Ar110 q110 S110 M110 H110 G110 rfl W110 2 rfl (Nat.le_of_ble_eq_true rfl)
    have OL := OL.wr W110 ge_b91
    have KP := KP.wr W110 (Or.inr sz_b91)
    have E_a := E_a.wr W110
    have F_slotLongs_a := F_slotLongs_a.other W110 (Or.inl ne_a_b91)
    have F_slotShifts_a := F_slotShifts_a.other W110 (Or.inl ne_a_b91)
    have F_keyLongs_a := F_keyLongs_a.other W110 (Or.inl ne_a_b91)
    have F_width_a := F_width_a.other W110 (Or.inl ne_a_b91)
    have V_b93 := V_b93.other W110 (Ne.symm ne_b91_b93)
    have V_b91 := tmp110
    refine own_aln 130 X110 hx (hb hby own_d127) rfl rfl rfl ?_
    obtain ⟨T111, X111, e111, st111⟩ := getF X110 hx hZ hown (host := "") (Or.inl (own_w hw 32 rfl)) Via.refl e110 F_slotShifts_a (g := (mkF m 130 #[rv a, rv aC, iv 4, iv wd, iv pl, iv wb, iv lg2, iv (sh2 - wb), iv 2] [(.ref a)])) rfl rfl (hb hby own_d128)
    refine own_to (mkF m 133 #[rv a, rv aC, iv 4, iv wd, iv pl, iv wb, iv lg2, iv (sh2 - wb), iv 2] [(.ref b93)]) st111 ?_
    refine own_il 135 X111 hx (hb hby own_d129) rfl rfl ?_
    refine own_il 137 X111 hx (hb hby own_d130) rfl rfl ?_
    obtain ⟨cl112, Ar112, q112, S112, M112, H112, G112⟩ := id V_b93
    obtain ⟨T112, h112, X112, e112, W112, st112⟩ := stI X111 hx hZ e111 Ar112 (j := (2 : Int32)) (inb_of S112 ⟨by decide, by decide⟩) (g := (mkF m 137 #[rv a, rv aC, iv 4, iv wd, iv pl, iv wb, iv lg2, iv (sh2 - wb), iv 2] [(.int (sh2 - wb)), (.int (2 : Int32)), (.ref b93)])) rfl rfl (hb hby own_d131)
    refine own_to (mkF m 138 #[rv a, rv aC, iv 4, iv wd, iv pl, iv wb, iv lg2, iv (sh2 - wb), iv 2] []) st112 ?_
    have N112 := Fr.snoc X112 N110 ge_b93
    have tmp112 : Arv Z h112 b93 k93 .int (4 : Int32) [(.int ((60 : Int32) - wb)), (.int (sh1 - wb)), (.int (sh2 - wb)), (.int (0 : Int32))] (.int (0 : Int32)) := Arv.set Ar112 q112 S112 M112 H112 G112 rfl W112 2 rfl (Nat.le_of_ble_eq_true rfl)
    have OL := OL.wr W112 ge_b93
    have KP := KP.wr W112 (Or.inr sz_b93)
    have E_a := E_a.wr W112
    have F_slotLongs_a := F_slotLongs_a.other W112 (Or.inl ne_a_b93)
    have F_slotShifts_a := F_slotShifts_a.other W112 (Or.inl ne_a_b93)
    have F_keyLongs_a := F_keyLongs_a.other W112 (Or.inl ne_a_b93)
    have F_width_a := F_width_a.other W112 (Or.inl ne_a_b93)
    have V_b91 := V_b91.other W112 ne_b91_b93
    have V_b93 := tmp112
    refine own_inc 141 #[rv a, rv aC, iv 4, iv wd, iv pl, iv wb, iv lg2, iv (sh2 - wb), iv 3] X112 hx (hb hby own_d132) rfl rfl rfl ?_
    refine own_go 93 X112 hx (hb hby own_d133) (by decide) (by decide) ?_
    refine own_il 95 X112 hx (hb hby own_d112) rfl rfl ?_
    refine own_iln 96 X112 hx (hb hby own_d113) rfl rfl ?_
    refine own_icN 99 X112 hx (hb hby own_d114) (tlt (by decide : (3 : Int32) < (4 : Int32))).2.1 rfl ?_
    refine own_il 101 X112 hx (hb hby own_d115) rfl rfl ?_
    refine own_il 103 X112 hx (hb hby own_d116) rfl rfl ?_
    suffices jn113 : ∀ lg3 : Int32, ((sh2 - wb) < wb → lg3 = (lg2 + (1 : Int32))) → (¬ (sh2 - wb) < wb → lg3 = lg2) → ∀ sh3 : Int32, ((sh2 - wb) < wb → sh3 = (63 : Int32)) → (¬ (sh2 - wb) < wb → sh3 = (sh2 - wb)) → own_E p e below (own_Fin s (own_QCC Z a aC aS (4 : Int32) wd pl h0 n0) ({ frames := 2, cells := 2, slots := 8, locals := 40 } : Room).cells ({ frames := 2, cells := 2, slots := 8, locals := 40 } : Room).slots) T112 (mkF m 113 #[rv a, rv aC, iv 4, iv wd, iv pl, iv wb, iv lg3, iv sh3, iv 3] []) from by
      by_cases hj3 : (sh2 - wb) < wb
      · refine own_icN 106 X112 hx (hb hby own_d117) (tlt hj3).2.1 rfl ?_
        refine own_inc 109 #[rv a, rv aC, iv 4, iv wd, iv pl, iv wb, iv (lg2 + (1 : Int32)), iv (sh2 - wb), iv 3] X112 hx (hb hby own_d146) rfl rfl rfl ?_
        refine own_bi 111 63 X112 hx (hb hby own_d147) rfl rfl ?_
        refine own_is 113 #[rv a, rv aC, iv 4, iv wd, iv pl, iv wb, iv (lg2 + (1 : Int32)), iv 63, iv 3] X112 hx (hb hby own_d148) rfl rfl ?_
        exact jn113 (lg2 + (1 : Int32)) (fun _ => rfl) (fun q => absurd hj3 q) (63 : Int32) (fun _ => rfl) (fun q => absurd hj3 q)
      · refine own_icY 113 X112 hx (hb hby own_d117) (flt hj3).2.1 (by decide) (by decide) ?_
        exact jn113 lg2 (fun q => absurd q hj3) (fun _ => rfl) (sh2 - wb) (fun q => absurd q hj3) (fun _ => rfl)
    intro lg3 hlg3t hlg3f sh3 hsh3t hsh3f
    have hl3 := own_incr (k := 2) (by decide) hl2 hlg3t hlg3f
    refine own_il 115 X112 hx (hb hby own_d118) rfl rfl ?_
    refine own_il 117 X112 hx (hb hby own_d119) rfl rfl ?_
    refine own_isub 118 X112 hx (hb hby own_d120) rfl rfl ?_
    refine own_is 120 #[rv a, rv aC, iv 4, iv wd, iv pl, iv wb, iv lg3, iv (sh3 - wb), iv 3] X112 hx (hb hby own_d121) rfl rfl ?_
    refine own_aln 121 X112 hx (hb hby own_d122) rfl rfl rfl ?_
    obtain ⟨T114, X114, e114, st114⟩ := getF X112 hx hZ hown (host := "") (Or.inl (own_w hw 30 rfl)) Via.refl e112 F_slotLongs_a (g := (mkF m 121 #[rv a, rv aC, iv 4, iv wd, iv pl, iv wb, iv lg3, iv (sh3 - wb), iv 3] [(.ref a)])) rfl rfl (hb hby own_d123)
    refine own_to (mkF m 124 #[rv a, rv aC, iv 4, iv wd, iv pl, iv wb, iv lg3, iv (sh3 - wb), iv 3] [(.ref b91)]) st114 ?_
    refine own_il 126 X114 hx (hb hby own_d124) rfl rfl ?_
    refine own_il 128 X114 hx (hb hby own_d125) rfl rfl ?_
    obtain ⟨cl115, Ar115, q115, S115, M115, H115, G115⟩ := id V_b91
    obtain ⟨T115, h115, X115, e115, W115, st115⟩ := stI X114 hx hZ e114 Ar115 (j := (3 : Int32)) (inb_of S115 ⟨by decide, by decide⟩) (g := (mkF m 128 #[rv a, rv aC, iv 4, iv wd, iv pl, iv wb, iv lg3, iv (sh3 - wb), iv 3] [(.int lg3), (.int (3 : Int32)), (.ref b91)])) rfl rfl (hb hby own_d126)
    refine own_to (mkF m 129 #[rv a, rv aC, iv 4, iv wd, iv pl, iv wb, iv lg3, iv (sh3 - wb), iv 3] []) st115 ?_
    have N115 := Fr.snoc X115 N112 ge_b91
    have tmp115 : Arv Z h115 b91 k91 .int (4 : Int32) [(.int (0 : Int32)), (.int lg1), (.int lg2), (.int lg3)] (.int (0 : Int32)) := Arv.set Ar115 q115 S115 M115 H115 G115 rfl W115 3 rfl (Nat.le_of_ble_eq_true rfl)
    have OL := OL.wr W115 ge_b91
    have KP := KP.wr W115 (Or.inr sz_b91)
    have E_a := E_a.wr W115
    have F_slotLongs_a := F_slotLongs_a.other W115 (Or.inl ne_a_b91)
    have F_slotShifts_a := F_slotShifts_a.other W115 (Or.inl ne_a_b91)
    have F_keyLongs_a := F_keyLongs_a.other W115 (Or.inl ne_a_b91)
    have F_width_a := F_width_a.other W115 (Or.inl ne_a_b91)
    have V_b93 := V_b93.other W115 (Ne.symm ne_b91_b93)
    have V_b91 := tmp115
    refine own_aln 130 X115 hx (hb hby own_d127) rfl rfl rfl ?_
    obtain ⟨T116, X116, e116, st116⟩ := getF X115 hx hZ hown (host := "") (Or.inl (own_w hw 32 rfl)) Via.refl e115 F_slotShifts_a (g := (mkF m 130 #[rv a, rv aC, iv 4, iv wd, iv pl, iv wb, iv lg3, iv (sh3 - wb), iv 3] [(.ref a)])) rfl rfl (hb hby own_d128)
    refine own_to (mkF m 133 #[rv a, rv aC, iv 4, iv wd, iv pl, iv wb, iv lg3, iv (sh3 - wb), iv 3] [(.ref b93)]) st116 ?_
    refine own_il 135 X116 hx (hb hby own_d129) rfl rfl ?_
    refine own_il 137 X116 hx (hb hby own_d130) rfl rfl ?_
    obtain ⟨cl117, Ar117, q117, S117, M117, H117, G117⟩ := id V_b93
    obtain ⟨T117, h117, X117, e117, W117, st117⟩ := stI X116 hx hZ e116 Ar117 (j := (3 : Int32)) (inb_of S117 ⟨by decide, by decide⟩) (g := (mkF m 137 #[rv a, rv aC, iv 4, iv wd, iv pl, iv wb, iv lg3, iv (sh3 - wb), iv 3] [(.int (sh3 - wb)), (.int (3 : Int32)), (.ref b93)])) rfl rfl (hb hby own_d131)
    refine own_to (mkF m 138 #[rv a, rv aC, iv 4, iv wd, iv pl, iv wb, iv lg3, iv (sh3 - wb), iv 3] []) st117 ?_
    have N117 := Fr.snoc X117 N115 ge_b93
    have tmp117 : Arv Z h117 b93 k93 .int (4 : Int32) [(.int ((60 : Int32) - wb)), (.int (sh1 - wb)), (.int (sh2 - wb)), (.int (sh3 - wb))] (.int (0 : Int32)) := Arv.set Ar117 q117 S117 M117 H117 G117 rfl W117 3 rfl (Nat.le_of_ble_eq_true rfl)
    have OL := OL.wr W117 ge_b93
    have KP := KP.wr W117 (Or.inr sz_b93)
    have E_a := E_a.wr W117
    have F_slotLongs_a := F_slotLongs_a.other W117 (Or.inl ne_a_b93)
    have F_slotShifts_a := F_slotShifts_a.other W117 (Or.inl ne_a_b93)
    have F_keyLongs_a := F_keyLongs_a.other W117 (Or.inl ne_a_b93)
    have F_width_a := F_width_a.other W117 (Or.inl ne_a_b93)
    have V_b91 := V_b91.other W117 ne_b91_b93
    have V_b93 := tmp117
    refine own_inc 141 #[rv a, rv aC, iv 4, iv wd, iv pl, iv wb, iv lg3, iv (sh3 - wb), iv 4] X117 hx (hb hby own_d132) rfl rfl rfl ?_
    refine own_go 93 X117 hx (hb hby own_d133) (by decide) (by decide) ?_
    refine own_il 95 X117 hx (hb hby own_d112) rfl rfl ?_
    refine own_iln 96 X117 hx (hb hby own_d113) rfl rfl ?_
    refine own_icY 144 X117 hx (hb hby own_d114) (flt (by decide : ¬ ((4 : Int32) < (4 : Int32)))).2.1 (by decide) (by decide) ?_
    refine own_aln 145 X117 hx (hb hby own_d134) rfl rfl rfl ?_
    refine own_il 147 X117 hx (hb hby own_d135) rfl rfl ?_
    refine own_ic 148 1 X117 hx (hb hby own_d136) rfl rfl ?_
    refine own_iadd 149 X117 hx (hb hby own_d137) rfl rfl ?_
    obtain ⟨T118, h118, X118, e118, W118, st118⟩ := putF X117 hx hZ hown (host := "") (Or.inl (own_w hw 40 rfl)) Via.refl e117 F_keyLongs_a E_a (Or.inr ⟨(own_w hw 41 rfl), rfl, hnm⟩) (own_w hw 4 rfl) (ty := .int) (by decide) rfl rfl (g := (mkF m 149 #[rv a, rv aC, iv 4, iv wd, iv pl, iv wb, iv lg3, iv (sh3 - wb), iv 4] [(.int (lg3 + (1 : Int32))), (.ref a)])) rfl rfl (hb hby own_d138)
    refine own_to (mkF m 152 #[rv a, rv aC, iv 4, iv wd, iv pl, iv wb, iv lg3, iv (sh3 - wb), iv 4] []) st118 ?_
    have N118 := Fr.snoc X118 N117 ge_a
    have tmp118 : Fld Z h118 a "com/example/gramstead/gramstead/estimation/RecordLayout" "keyLongs" "I" (.int (lg3 + (1 : Int32))) := F_keyLongs_a.same W118
    have OL := OL.wr W118 ge_a
    have KP := KP.wr W118 (Or.inl (List.mem_of_getElem? (i := 0) rfl))
    have E_a := E_a.wr W118
    have F_width_a := F_width_a.other W118 (Or.inr (slot_ne (Or.inr (own_w hw 43 rfl)) (Or.inr (own_w hw 41 rfl)) (by decide) (t := .int) (t' := .int) (by decide) (by decide)))
    have F_keyLongs_a := tmp118
    refine own_aln 153 X118 hx (hb hby own_d139) rfl rfl rfl ?_
    refine own_aln 154 X118 hx (hb hby own_d140) rfl rfl rfl ?_
    obtain ⟨T119, X119, e119, st119⟩ := getF X118 hx hZ hown (host := "") (Or.inl (own_w hw 40 rfl)) Via.refl e118 F_keyLongs_a (g := (mkF m 154 #[rv a, rv aC, iv 4, iv wd, iv pl, iv wb, iv lg3, iv (sh3 - wb), iv 4] [(.ref a), (.ref a)])) rfl rfl (hb hby own_d141)
    refine own_to (mkF m 157 #[rv a, rv aC, iv 4, iv wd, iv pl, iv wb, iv lg3, iv (sh3 - wb), iv 4] [(.int (lg3 + (1 : Int32))), (.ref a)]) st119 ?_
    refine own_il 159 X119 hx (hb hby own_d142) rfl rfl ?_
    refine own_iadd 160 X119 hx (hb hby own_d143) rfl rfl ?_
    obtain ⟨T120, h120, X120, e120, W120, st120⟩ := putF X119 hx hZ hown (host := "") (Or.inl (own_w hw 42 rfl)) Via.refl e119 F_width_a E_a (Or.inr ⟨(own_w hw 43 rfl), rfl, hnm⟩) (own_w hw 4 rfl) (ty := .int) (by decide) rfl rfl (g := (mkF m 160 #[rv a, rv aC, iv 4, iv wd, iv pl, iv wb, iv lg3, iv (sh3 - wb), iv 4] [(.int ((lg3 + (1 : Int32)) + pl)), (.ref a)])) rfl rfl (hb hby own_d144)
    refine own_to (mkF m 163 #[rv a, rv aC, iv 4, iv wd, iv pl, iv wb, iv lg3, iv (sh3 - wb), iv 4] []) st120 ?_
    have N120 := Fr.snoc X120 N118 ge_a
    have tmp120 : Fld Z h120 a "com/example/gramstead/gramstead/estimation/RecordLayout" "width" "I" (.int ((lg3 + (1 : Int32)) + pl)) := F_width_a.same W120
    have OL := OL.wr W120 ge_a
    have KP := KP.wr W120 (Or.inl (List.mem_of_getElem? (i := 0) rfl))
    have E_a := E_a.wr W120
    have F_keyLongs_a := F_keyLongs_a.other W120 (Or.inr (slot_ne (Or.inr (own_w hw 41 rfl)) (Or.inr (own_w hw 43 rfl)) (by decide) (t := .int) (t' := .int) (by decide) (by decide)))
    have F_width_a := tmp120
    exact own_ret0 X120 hx Bd.returns hlk (hb hby own_d145) (by decide) (by decide) (by rw [e120]; exact ⟨rfl, N120, KP, E_a, (lg3 + (1 : Int32)), (own_kl (k := 3) (by decide) hl3).1, (own_kl (k := 3) (by decide) hl3).2, F_keyLongs_a, F_width_a⟩)
def own_QCS (Z : State) (a aC aS : Addr) (mo wd pl : Int32) (h0 : Heap) (n0 : Nat) (v : Option Value) (h : Heap) (L : List Loc) : Prop := v = none ∧ Fr n0 L ∧ Keep h0 h [a] ∧ Exa Z h a "com/example/gramstead/gramstead/estimation/RecordLayout" ∧ ∃ kl : Int32, 1 ≤ kl.toInt ∧ kl.toInt ≤ 4 ∧ Fld Z h a "com/example/gramstead/gramstead/estimation/RecordLayout" "keyLongs" "I" (.int kl) ∧ Fld Z h a "com/example/gramstead/gramstead/estimation/RecordLayout" "width" "I" (.int (kl + pl))
set_option maxRecDepth 65536 in
set_option maxHeartbeats 40000000 in
theorem own_rmCS (l : Launch) (Z : State) (a0 : Array Value) (hw : ∀ d ∈ tables_1, d.before a0 Z = true) (ws : List Jvm.Cond) (a aC aS : Addr) (mo wd pl : Int32) (h0 : Heap) (n0 : Nat) (Z0 : n0 ≤ h0.size) (OL : Old Z n0 h0) (SC : Sta Z Z.heap "com/example/gramstead/gramstead/estimation/RecordOrder" "CONTEXT" "Lcom/example/gramstead/gramstead/estimation/RecordOrder;" (.ref aC)) (ne_aS_aC : aS ≠ aC) (hmo : mo = 1 ∨ mo = 2 ∨ mo = 3 ∨ mo = 4) (hwd : 0 ≤ wd.toInt) (ge_a : n0 ≤ a) (E_a : Exa Z h0 a "com/example/gramstead/gramstead/estimation/RecordLayout") (F_order_a : Fld Z h0 a "com/example/gramstead/gramstead/estimation/RecordLayout" "order" "Lcom/example/gramstead/gramstead/estimation/RecordOrder;" .null) (F_wordMask_a : Fld Z h0 a "com/example/gramstead/gramstead/estimation/RecordLayout" "wordMask" "J" (.long (0 : Int64))) (F_slotLongs_a : Fld Z h0 a "com/example/gramstead/gramstead/estimation/RecordLayout" "slotLongs" "[I" .null) (F_slotShifts_a : Fld Z h0 a "com/example/gramstead/gramstead/estimation/RecordLayout" "slotShifts" "[I" .null) (F_orderMask_a : Fld Z h0 a "com/example/gramstead/gramstead/estimation/RecordLayout" "orderMask" "J" (.long (0 : Int64))) (F_orderShift_a : Fld Z h0 a "com/example/gramstead/gramstead/estimation/RecordLayout" "orderShift" "I" (.int (0 : Int32))) (F_keyLongs_a : Fld Z h0 a "com/example/gramstead/gramstead/estimation/RecordLayout" "keyLongs" "I" (.int (0 : Int32))) (F_width_a : Fld Z h0 a "com/example/gramstead/gramstead/estimation/RecordLayout" "width" "I" (.int (0 : Int32))) :
    own_MF l (⟨"com/example/gramstead/gramstead/estimation/RecordLayout", "<init>", "(Lcom/example/gramstead/gramstead/estimation/RecordOrder;III)V"⟩ : MethodName) (Jvm.Cond.code (⟨"com/example/gramstead/gramstead/estimation/RecordLayout", "<init>", "(Lcom/example/gramstead/gramstead/estimation/RecordOrder;III)V"⟩ : MethodName) prog_19_method_1_code 9 none :: ws) ({ frames := 2, cells := 2, slots := 8, locals := 40 } : Room) #[(.ref a), (.ref aS), (.int mo), (.int wd), (.int pl)] Z h0 (own_QCS Z a aC aS mo wd pl h0 n0) := by
  refine MetFree.of_bodySF (plainFor_of_name own_pn1) hisR ?_
  intro p e s m args below meth c s₁ Bd hml0 hP hK
  obtain ⟨rfl, hZ, hh⟩ := hP
  have hx := Bd.exec
  have hby := Bd.bytes
  have hlk : meth.locks = false := BodyLoose.notSynchronized Bd
  have hml : c.maxLocals = 9 := hml0
  have hown : s.vm.findClass "com/example/gramstead/gramstead/estimation/RecordLayout" = some m.cls := findClass_of_methodNamed Bd.named
  have hnm := (name_of_methodNamed Bd.named Bd.method).1
  have X0 : Stand p l e ({ frames := 2, cells := 2, slots := 8, locals := 40 } : Room) s m #[(.ref a), (.ref aS), (.int mo), (.int wd), (.int pl)] below meth c s₁ [] 0 0 := Stand.of_body Bd
  have e0 : s₁.heap = h0 := by rw [← hh, Bd.state]; rfl
  have N0 := Fr.nil n0
  have KP : Keep h0 h0 [a] := Keep.refl _ _
  refine own_start (Fin := (own_Fin s (own_QCS Z a aC aS mo wd pl h0 n0) ({ frames := 2, cells := 2, slots := 8, locals := 40 } : Room).cells ({ frames := 2, cells := 2, slots := 8, locals := 40 } : Room).slots)) (own_from (mkF m 0 #[rv a, rv aS, iv mo, iv wd, iv pl, .unset, .unset, .unset, .unset] []) (castTop (own_ef_CS m a aS mo wd pl)) ?_)
  rcases hmo with q | q | q | q
  · subst q
    refine own_aln 1 X0 hx (hb hby own_d62) rfl rfl rfl ?_
    obtain ⟨T121, X121, e121, st121⟩ := initO X0 hx hZ hown (own_w hw 10 rfl) (own_w hw 11 rfl) (own_w hw 12 rfl) e0 (g := (mkF m 1 #[rv a, rv aS, iv 1, iv wd, iv pl, .unset, .unset, .unset, .unset] [(.ref a)])) rfl (by rw [hml]; rfl) rfl (hb hby own_d63) (by decide) (W := 0) (by show 2 * 0 + _ ≤ _; exact Nat.le_of_eq rfl) (by decide)
    refine own_to (mkF m 4 #[rv a, rv aS, iv 1, iv wd, iv pl, .unset, .unset, .unset, .unset] []) st121 ?_
    refine own_aln 5 X121 hx (hb hby own_d64) rfl rfl rfl ?_
    refine own_aln 6 X121 hx (hb hby own_d65) rfl rfl rfl ?_
    obtain ⟨T122, h122, X122, e122, W122, st122⟩ := putF X121 hx hZ hown (host := "") (Or.inl (own_w hw 13 rfl)) Via.refl e121 F_order_a E_a (Or.inr ⟨(own_w hw 14 rfl), rfl, hnm⟩) (own_w hw 4 rfl) (ty := (.object "com/example/gramstead/gramstead/estimation/RecordOrder")) (by decide) rfl rfl (g := (mkF m 6 #[rv a, rv aS, iv 1, iv wd, iv pl, .unset, .unset, .unset, .unset] [(.ref aS), (.ref a)])) rfl rfl (hb hby own_d66)
    refine own_to (mkF m 9 #[rv a, rv aS, iv 1, iv wd, iv pl, .unset, .unset, .unset, .unset] []) st122 ?_
    have N122 := Fr.snoc X122 N0 ge_a
    have tmp122 : Fld Z h122 a "com/example/gramstead/gramstead/estimation/RecordLayout" "order" "Lcom/example/gramstead/gramstead/estimation/RecordOrder;" (.ref aS) := F_order_a.same W122
    have OL := OL.wr W122 ge_a
    have KP := KP.wr W122 (Or.inl (List.mem_of_getElem? (i := 0) rfl))
    have E_a := E_a.wr W122
    have F_wordMask_a := F_wordMask_a.other W122 (Or.inr (slot_ne (Or.inr (own_w hw 28 rfl)) (Or.inr (own_w hw 14 rfl)) (by decide) (t := .long) (t' := (.object "com/example/gramstead/gramstead/estimation/RecordOrder")) (by decide) (by decide)))
    have F_slotLongs_a := F_slotLongs_a.other W122 (Or.inr (slot_ne (Or.inr (own_w hw 31 rfl)) (Or.inr (own_w hw 14 rfl)) (by decide) (t := (.array .int)) (t' := (.object "com/example/gramstead/gramstead/estimation/RecordOrder")) (by decide) (by decide)))
    have F_slotShifts_a := F_slotShifts_a.other W122 (Or.inr (slot_ne (Or.inr (own_w hw 33 rfl)) (Or.inr (own_w hw 14 rfl)) (by decide) (t := (.array .int)) (t' := (.object "com/example/gramstead/gramstead/estimation/RecordOrder")) (by decide) (by decide)))
    have F_orderMask_a := F_orderMask_a.other W122 (Or.inr (slot_ne (Or.inr (own_w hw 37 rfl)) (Or.inr (own_w hw 14 rfl)) (by decide) (t := .long) (t' := (.object "com/example/gramstead/gramstead/estimation/RecordOrder")) (by decide) (by decide)))
    have F_orderShift_a := F_orderShift_a.other W122 (Or.inr (slot_ne (Or.inr (own_w hw 39 rfl)) (Or.inr (own_w hw 14 rfl)) (by decide) (t := .int) (t' := (.object "com/example/gramstead/gramstead/estimation/RecordOrder")) (by decide) (by decide)))
    have F_keyLongs_a := F_keyLongs_a.other W122 (Or.inr (slot_ne (Or.inr (own_w hw 41 rfl)) (Or.inr (own_w hw 14 rfl)) (by decide) (t := .int) (t' := (.object "com/example/gramstead/gramstead/estimation/RecordOrder")) (by decide) (by decide)))
    have F_width_a := F_width_a.other W122 (Or.inr (slot_ne (Or.inr (own_w hw 43 rfl)) (Or.inr (own_w hw 14 rfl)) (by decide) (t := .int) (t' := (.object "com/example/gramstead/gramstead/estimation/RecordOrder")) (by decide) (by decide)))
    have F_order_a := tmp122
    refine own_iln 10 X122 hx (hb hby own_d67) rfl rfl ?_
    obtain ⟨_, T123, Lc123, X123, hQ123, st123⟩ := own_callS X122 hx (y := (⟨"com/example/gramstead/gramstead/estimation/RecordLayout", "bitsFor", "(I)I"⟩ : MethodName)) hown (mvT hZ (own_w hw 15 rfl)) (mvT hZ (own_w hw 16 rfl)) (mvT hZ (own_w hw 5 rfl)) (mvT hZ (own_w hw 17 rfl)) (by decide) (backOf (W := 0) (own_rmB l Z a0 hw [] wd h122 n0 (Nat.le_trans Z0 KP.1) OL hwd) hZ (own_w hw 17 rfl) (own_w hw 5 rfl) (by decide) (by decide)) (g := (mkF m 10 #[rv a, rv aS, iv 1, iv wd, iv pl, .unset, .unset, .unset, .unset] [(.int wd)])) rfl (by rw [hml]; rfl) (argsL := [(.int wd)]) (rest := []) (lenOf own_pd0 rfl) rfl (by show 2 * 0 + _ ≤ _; exact Nat.le_of_eq rfl) (hb hby own_d68) rfl e122 (kc := 0) (ks := 0) rfl rfl (by decide) (by decide)
    obtain ⟨wb, rfl, hb1, hb2, N123q, e123⟩ := hQ123
    have N123 := Fr.app N122 N123q
    refine own_to (mkF m 13 #[rv a, rv aS, iv 1, iv wd, iv pl, .unset, .unset, .unset, .unset] [(.int wb)]) st123 ?_
    refine own_is 15 #[rv a, rv aS, iv 1, iv wd, iv pl, iv wb, .unset, .unset, .unset] X123 hx (hb hby own_d69) rfl rfl ?_
    refine own_aln 16 X123 hx (hb hby own_d70) rfl rfl rfl ?_
    refine own_to (T' := T123) (mkF m 17 #[rv a, rv aS, iv 1, iv wd, iv pl, iv wb, .unset, .unset, .unset] [(.long (1 : Int64)), (.ref a)]) (fun _ k => XS.lconst X123.here hx rfl (hb hby own_d71) k) ?_
    refine own_il 19 X123 hx (hb hby own_d72) rfl rfl ?_
    refine own_to (T' := T123) (mkF m 20 #[rv a, rv aS, iv 1, iv wd, iv pl, iv wb, .unset, .unset, .unset] [(.long ((1 : Int64) <<< (wb &&& 0x3f).toInt64)), (.ref a)]) (fun _ k => XS.lshl X123.here hx rfl (hb hby own_d73) rfl k) ?_
    refine own_to (T' := T123) (mkF m 21 #[rv a, rv aS, iv 1, iv wd, iv pl, iv wb, .unset, .unset, .unset] [(.long (1 : Int64)), (.long ((1 : Int64) <<< (wb &&& 0x3f).toInt64)), (.ref a)]) (fun _ k => XS.lconst X123.here hx rfl (hb hby own_d74) k) ?_
    refine own_to (T' := T123) (mkF m 22 #[rv a, rv aS, iv 1, iv wd, iv pl, iv wb, .unset, .unset, .unset] [(.long (((1 : Int64) <<< (wb &&& 0x3f).toInt64) - (1 : Int64))), (.ref a)]) (fun _ k => XS.lsub X123.here hx rfl (hb hby own_d75) rfl k) ?_
    obtain ⟨T124, h124, X124, e124, W124, st124⟩ := putF X123 hx hZ hown (host := "") (Or.inl (own_w hw 27 rfl)) Via.refl e123 F_wordMask_a E_a (Or.inr ⟨(own_w hw 28 rfl), rfl, hnm⟩) (own_w hw 4 rfl) (ty := .long) (by decide) rfl rfl (g := (mkF m 22 #[rv a, rv aS, iv 1, iv wd, iv pl, iv wb, .unset, .unset, .unset] [(.long (((1 : Int64) <<< (wb &&& 0x3f).toInt64) - (1 : Int64))), (.ref a)])) rfl rfl (hb hby own_d76)
    refine own_to (mkF m 25 #[rv a, rv aS, iv 1, iv wd, iv pl, iv wb, .unset, .unset, .unset] []) st124 ?_
    have N124 := Fr.snoc X124 N123 ge_a
    have tmp124 : Fld Z h124 a "com/example/gramstead/gramstead/estimation/RecordLayout" "wordMask" "J" (.long (((1 : Int64) <<< (wb &&& 0x3f).toInt64) - (1 : Int64))) := F_wordMask_a.same W124
    have OL := OL.wr W124 ge_a
    have KP := KP.wr W124 (Or.inl (List.mem_of_getElem? (i := 0) rfl))
    have E_a := E_a.wr W124
    have F_slotLongs_a := F_slotLongs_a.other W124 (Or.inr (slot_ne (Or.inr (own_w hw 31 rfl)) (Or.inr (own_w hw 28 rfl)) (by decide) (t := (.array .int)) (t' := .long) (by decide) (by decide)))
    have F_slotShifts_a := F_slotShifts_a.other W124 (Or.inr (slot_ne (Or.inr (own_w hw 33 rfl)) (Or.inr (own_w hw 28 rfl)) (by decide) (t := (.array .int)) (t' := .long) (by decide) (by decide)))
    have F_orderMask_a := F_orderMask_a.other W124 (Or.inr (slot_ne (Or.inr (own_w hw 37 rfl)) (Or.inr (own_w hw 28 rfl)) (by decide) (t := .long) (t' := .long) (by decide) (by decide)))
    have F_orderShift_a := F_orderShift_a.other W124 (Or.inr (slot_ne (Or.inr (own_w hw 39 rfl)) (Or.inr (own_w hw 28 rfl)) (by decide) (t := .int) (t' := .long) (by decide) (by decide)))
    have F_keyLongs_a := F_keyLongs_a.other W124 (Or.inr (slot_ne (Or.inr (own_w hw 41 rfl)) (Or.inr (own_w hw 28 rfl)) (by decide) (t := .int) (t' := .long) (by decide) (by decide)))
    have F_width_a := F_width_a.other W124 (Or.inr (slot_ne (Or.inr (own_w hw 43 rfl)) (Or.inr (own_w hw 28 rfl)) (by decide) (t := .int) (t' := .long) (by decide) (by decide)))
    have F_wordMask_a := tmp124
    refine own_aln 26 X124 hx (hb hby own_d77) rfl rfl rfl ?_
    refine own_iln 27 X124 hx (hb hby own_d78) rfl rfl ?_
    obtain ⟨T125, h125, k125, X125, e125, E125, A125, B125, st125⟩ := newPE X124 hx hZ (own_w hw 29 rfl) e124 (g := (mkF m 27 #[rv a, rv aS, iv 1, iv wd, iv pl, iv wb, .unset, .unset, .unset] [(.int (1 : Int32)), (.ref a)])) rfl (hb hby own_d79) rfl (by decide) (cap := 1) (by decide) (by decide) (by decide) (by decide) (ad := "[I") (by decide)
    obtain ⟨b125, g125⟩ : ∃ z, z = h124.size := ⟨_, rfl⟩
    rw [← g125] at A125 B125 st125
    have sz_b125 : h0.size ≤ b125 := Nat.le_trans KP.1 (Nat.le_of_eq g125.symm)
    have ge_b125 : n0 ≤ b125 := Nat.le_trans Z0 sz_b125
    have ne_a_b125 : a ≠ b125 := Nat.ne_of_lt (Nat.lt_of_lt_of_le E_a.lt (Nat.le_of_eq g125.symm))
    have OL := OL.ext E125
    have KP := KP.ext E125
    have E_a := E_a.ext E125
    have F_slotLongs_a := F_slotLongs_a.ext E125
    have F_slotShifts_a := F_slotShifts_a.ext E125
    have F_orderMask_a := F_orderMask_a.ext E125
    have F_orderShift_a := F_orderShift_a.ext E125
    have F_keyLongs_a := F_keyLongs_a.ext E125
    have F_width_a := F_width_a.ext E125
    have V_b125 : Arv Z h125 b125 k125 .int (1 : Int32) [(.int (0 : Int32))] (.int (0 : Int32)) := (Arv.new A125 (by decide)).pad (pad_rep [] (.int (0 : Int32)) 1)
    refine own_to (mkF m 29 #[rv a, rv aS, iv 1, iv wd, iv pl, iv wb, .unset, .unset, .unset] [(.ref b125), (.ref a)]) st125 ?_
    obtain ⟨T126, h126, X126, e126, W126, st126⟩ := putF X125 hx hZ hown (host := "") (Or.inl (own_w hw 30 rfl)) Via.refl e125 F_slotLongs_a E_a (Or.inr ⟨(own_w hw 31 rfl), rfl, hnm⟩) (own_w hw 4 rfl) (ty := (.array .int)) (by decide) rfl rfl (g := (mkF m 29 #[rv a, rv aS, iv 1, iv wd, iv pl, iv wb, .unset, .unset, .unset] [(.ref b125), (.ref a)])) rfl rfl (hb hby own_d80)
    refine own_to (mkF m 32 #[rv a, rv aS, iv 1, iv wd, iv pl, iv wb, .unset, .unset, .unset] []) st126 ?_
    have N126 := Fr.snoc X126 N124 ge_a
    have tmp126 : Fld Z h126 a "com/example/gramstead/gramstead/estimation/RecordLayout" "slotLongs" "[I" (.ref b125) := F_slotLongs_a.same W126
    have OL := OL.wr W126 ge_a
    have KP := KP.wr W126 (Or.inl (List.mem_of_getElem? (i := 0) rfl))
    have E_a := E_a.wr W126
    have F_slotShifts_a := F_slotShifts_a.other W126 (Or.inr (slot_ne (Or.inr (own_w hw 33 rfl)) (Or.inr (own_w hw 31 rfl)) (by decide) (t := (.array .int)) (t' := (.array .int)) (by decide) (by decide)))
    have F_orderMask_a := F_orderMask_a.other W126 (Or.inr (slot_ne (Or.inr (own_w hw 37 rfl)) (Or.inr (own_w hw 31 rfl)) (by decide) (t := .long) (t' := (.array .int)) (by decide) (by decide)))
    have F_orderShift_a := F_orderShift_a.other W126 (Or.inr (slot_ne (Or.inr (own_w hw 39 rfl)) (Or.inr (own_w hw 31 rfl)) (by decide) (t := .int) (t' := (.array .int)) (by decide) (by decide)))
    have F_keyLongs_a := F_keyLongs_a.other W126 (Or.inr (slot_ne (Or.inr (own_w hw 41 rfl)) (Or.inr (own_w hw 31 rfl)) (by decide) (t := .int) (t' := (.array .int)) (by decide) (by decide)))
    have F_width_a := F_width_a.other W126 (Or.inr (slot_ne (Or.inr (own_w hw 43 rfl)) (Or.inr (own_w hw 31 rfl)) (by decide) (t := .int) (t' := (.array .int)) (by decide) (by decide)))
    have V_b125 := V_b125.other W126 (Ne.symm ne_a_b125)
    have F_slotLongs_a := tmp126
    refine own_aln 33 X126 hx (hb hby own_d81) rfl rfl rfl ?_
    refine own_iln 34 X126 hx (hb hby own_d82) rfl rfl ?_
    obtain ⟨T127, h127, k127, X127, e127, E127, A127, B127, st127⟩ := newPE X126 hx hZ (own_w hw 29 rfl) e126 (g := (mkF m 34 #[rv a, rv aS, iv 1, iv wd, iv pl, iv wb, .unset, .unset, .unset] [(.int (1 : Int32)), (.ref a)])) rfl (hb hby own_d83) rfl (by decide) (cap := 1) (by decide) (by decide) (by decide) (by decide) (ad := "[I") (by decide)
    obtain ⟨b127, g127⟩ : ∃ z, z = h126.size := ⟨_, rfl⟩
    rw [← g127] at A127 B127 st127
    have sz_b127 : h0.size ≤ b127 := Nat.le_trans KP.1 (Nat.le_of_eq g127.symm)
    have ge_b127 : n0 ≤ b127 := Nat.le_trans Z0 sz_b127
    have ne_a_b127 : a ≠ b127 := Nat.ne_of_lt (Nat.lt_of_lt_of_le E_a.lt (Nat.le_of_eq g127.symm))
    have ne_b125_b127 : b125 ≠ b127 := Nat.ne_of_lt (Nat.lt_of_lt_of_le V_b125.lt (Nat.le_of_eq g127.symm))
    have OL := OL.ext E127
    have KP := KP.ext E127
    have E_a := E_a.ext E127
    have F_slotLongs_a := F_slotLongs_a.ext E127
    have F_slotShifts_a := F_slotShifts_a.ext E127
    have F_orderMask_a := F_orderMask_a.ext E127
    have F_orderShift_a := F_orderShift_a.ext E127
    have F_keyLongs_a := F_keyLongs_a.ext E127
    have F_width_a := F_width_a.ext E127
    have V_b125 := V_b125.ext E127
    have V_b127 : Arv Z h127 b127 k127 .int (1 : Int32) [(.int (0 : Int32))] (.int (0 : Int32)) := (Arv.new A127 (by decide)).pad (pad_rep [] (.int (0 : Int32)) 1)
    refine own_to (mkF m 36 #[rv a, rv aS, iv 1, iv wd, iv pl, iv wb, .unset, .unset, .unset] [(.ref b127), (.ref a)]) st127 ?_
    obtain ⟨T128, h128, X128, e128, W128, st128⟩ := putF X127 hx hZ hown (host := "") (Or.inl (own_w hw 32 rfl)) Via.refl e127 F_slotShifts_a E_a (Or.inr ⟨(own_w hw 33 rfl), rfl, hnm⟩) (own_w hw 4 rfl) (ty := (.array .int)) (by decide) rfl rfl (g := (mkF m 36 #[rv a, rv aS, iv 1, iv wd, iv pl, iv wb, .unset, .unset, .unset] [(.ref b127), (.ref a)])) rfl rfl (hb hby own_d84)
    refine own_to (mkF m 39 #[rv a, rv aS, iv 1, iv wd, iv pl, iv wb, .unset, .unset, .unset] []) st128 ?_
    have N128 := Fr.snoc X128 N126 ge_a
    have tmp128 : Fld Z h128 a "com/example/gramstead/gramstead/estimation/RecordLayout" "slotShifts" "[I" (.ref b127) := F_slotShifts_a.same W128
    have OL := OL.wr W128 ge_a
    have KP := KP.wr W128 (Or.inl (List.mem_of_getElem? (i := 0) rfl))
    have E_a := E_a.wr W128
    have F_slotLongs_a := F_slotLongs_a.other W128 (Or.inr (slot_ne (Or.inr (own_w hw 31 rfl)) (Or.inr (own_w hw 33 rfl)) (by decide) (t := (.array .int)) (t' := (.array .int)) (by decide) (by decide)))
    have F_orderMask_a := F_orderMask_a.other W128 (Or.inr (slot_ne (Or.inr (own_w hw 37 rfl)) (Or.inr (own_w hw 33 rfl)) (by decide) (t := .long) (t' := (.array .int)) (by decide) (by decide)))
    have F_orderShift_a := F_orderShift_a.other W128 (Or.inr (slot_ne (Or.inr (own_w hw 39 rfl)) (Or.inr (own_w hw 33 rfl)) (by decide) (t := .int) (t' := (.array .int)) (by decide) (by decide)))
    have F_keyLongs_a := F_keyLongs_a.other W128 (Or.inr (slot_ne (Or.inr (own_w hw 41 rfl)) (Or.inr (own_w hw 33 rfl)) (by decide) (t := .int) (t' := (.array .int)) (by decide) (by decide)))
    have F_width_a := F_width_a.other W128 (Or.inr (slot_ne (Or.inr (own_w hw 43 rfl)) (Or.inr (own_w hw 33 rfl)) (by decide) (t := .int) (t' := (.array .int)) (by decide) (by decide)))
    have V_b125 := V_b125.other W128 (Ne.symm ne_a_b125)
    have V_b127 := V_b127.other W128 (Ne.symm ne_a_b127)
    have F_slotShifts_a := tmp128
    refine own_ic 40 0 X128 hx (hb hby own_d85) rfl rfl ?_
    refine own_is 42 #[rv a, rv aS, iv 1, iv wd, iv pl, iv wb, iv 0, .unset, .unset] X128 hx (hb hby own_d86) rfl rfl ?_
    refine own_bi 44 63 X128 hx (hb hby own_d87) rfl rfl ?_
    refine own_is 46 #[rv a, rv aS, iv 1, iv wd, iv pl, iv wb, iv 0, iv 63, .unset] X128 hx (hb hby own_d88) rfl rfl ?_
    refine own_aln 47 X128 hx (hb hby own_d89) rfl rfl rfl ?_
    obtain ⟨T129, X129, e129, st129⟩ := getS2 X128 hx hZ hown (host := "") (Or.inl (own_w hw 34 rfl)) Via.refl e128 (SC.ext OL.2) (g := (mkF m 47 #[rv a, rv aS, iv 1, iv wd, iv pl, iv wb, iv 0, iv 63, .unset] [(.ref aS)])) rfl (hb hby own_d90)
    refine own_to (mkF m 50 #[rv a, rv aS, iv 1, iv wd, iv pl, iv wb, iv 0, iv 63, .unset] [(.ref aC), (.ref aS)]) st129 ?_
    refine own_to (T' := T129) (mkF m 79 #[rv a, rv aS, iv 1, iv wd, iv pl, iv wb, iv 0, iv 63, .unset] []) (fun _ k => Jvm.RoadKit.acmp (g := (mkF m 50 #[rv a, rv aS, iv 1, iv wd, iv pl, iv wb, iv 0, iv 63, .unset] [(.ref aC), (.ref aS)])) X129 hx rfl rfl rfl (pc0 := 50) (pc' := 79) (same := false) rfl (hb hby own_d91) rfl (decide_eq_false fun q => ne_aS_aC (Value.ref.inj q)) (by decide) (by decide) k) ?_
    refine own_aln 80 X129 hx (hb hby own_d149) rfl rfl rfl ?_
    refine own_to (T' := T129) (mkF m 81 #[rv a, rv aS, iv 1, iv wd, iv pl, iv wb, iv 0, iv 63, .unset] [(.long (0 : Int64)), (.ref a)]) (fun _ k => XS.lconst X129.here hx rfl (hb hby own_d150) k) ?_
    obtain ⟨T130, h130, X130, e130, W130, st130⟩ := putF X129 hx hZ hown (host := "") (Or.inl (own_w hw 36 rfl)) Via.refl e129 F_orderMask_a E_a (Or.inr ⟨(own_w hw 37 rfl), rfl, hnm⟩) (own_w hw 4 rfl) (ty := .long) (by decide) rfl rfl (g := (mkF m 81 #[rv a, rv aS, iv 1, iv wd, iv pl, iv wb, iv 0, iv 63, .unset] [(.long (0 : Int64)), (.ref a)])) rfl rfl (hb hby own_d151)
    refine own_to (mkF m 84 #[rv a, rv aS, iv 1, iv wd, iv pl, iv wb, iv 0, iv 63, .unset] []) st130 ?_
    have N130 := Fr.snoc X130 N128 ge_a
    have tmp130 : Fld Z h130 a "com/example/gramstead/gramstead/estimation/RecordLayout" "orderMask" "J" (.long (0 : Int64)) := F_orderMask_a.same W130
    have OL := OL.wr W130 ge_a
    have KP := KP.wr W130 (Or.inl (List.mem_of_getElem? (i := 0) rfl))
    have E_a := E_a.wr W130
    have F_slotLongs_a := F_slotLongs_a.other W130 (Or.inr (slot_ne (Or.inr (own_w hw 31 rfl)) (Or.inr (own_w hw 37 rfl)) (by decide) (t := (.array .int)) (t' := .long) (by decide) (by decide)))
    have F_slotShifts_a := F_slotShifts_a.other W130 (Or.inr (slot_ne (Or.inr (own_w hw 33 rfl)) (Or.inr (own_w hw 37 rfl)) (by decide) (t := (.array .int)) (t' := .long) (by decide) (by decide)))
    have F_orderShift_a := F_orderShift_a.other W130 (Or.inr (slot_ne (Or.inr (own_w hw 39 rfl)) (Or.inr (own_w hw 37 rfl)) (by decide) (t := .int) (t' := .long) (by decide) (by decide)))
    have F_keyLongs_a := F_keyLongs_a.other W130 (Or.inr (slot_ne (Or.inr (own_w hw 41 rfl)) (Or.inr (own_w hw 37 rfl)) (by decide) (t := .int) (t' := .long) (by decide) (by decide)))
    have F_width_a := F_width_a.other W130 (Or.inr (slot_ne (Or.inr (own_w hw 43 rfl)) (Or.inr (own_w hw 37 rfl)) (by decide) (t := .int) (t' := .long) (by decide) (by decide)))
    have V_b125 := V_b125.other W130 (Ne.symm ne_a_b125)
    have V_b127 := V_b127.other W130 (Ne.symm ne_a_b127)
    have F_orderMask_a := tmp130
    refine own_aln 85 X130 hx (hb hby own_d107) rfl rfl rfl ?_
    refine own_il 87 X130 hx (hb hby own_d108) rfl rfl ?_
    obtain ⟨T131, h131, X131, e131, W131, st131⟩ := putF X130 hx hZ hown (host := "") (Or.inl (own_w hw 38 rfl)) Via.refl e130 F_orderShift_a E_a (Or.inr ⟨(own_w hw 39 rfl), rfl, hnm⟩) (own_w hw 4 rfl) (ty := .int) (by decide) rfl rfl (g := (mkF m 87 #[rv a, rv aS, iv 1, iv wd, iv pl, iv wb, iv 0, iv 63, .unset] [(.int (63 : Int32)), (.ref a)])) rfl rfl (hb hby own_d109)
    refine own_to (mkF m 90 #[rv a, rv aS, iv 1, iv wd, iv pl, iv wb, iv 0, iv 63, .unset] []) st131 ?_
    have N131 := Fr.snoc X131 N130 ge_a
    have tmp131 : Fld Z h131 a "com/example/gramstead/gramstead/estimation/RecordLayout" "orderShift" "I" (.int (63 : Int32)) := F_orderShift_a.same W131
    have OL := OL.wr W131 ge_a
    have KP := KP.wr W131 (Or.inl (List.mem_of_getElem? (i := 0) rfl))
    have E_a := E_a.wr W131
    have F_slotLongs_a := F_slotLongs_a.other W131 (Or.inr (slot_ne (Or.inr (own_w hw 31 rfl)) (Or.inr (own_w hw 39 rfl)) (by decide) (t := (.array .int)) (t' := .int) (by decide) (by decide)))
    have F_slotShifts_a := F_slotShifts_a.other W131 (Or.inr (slot_ne (Or.inr (own_w hw 33 rfl)) (Or.inr (own_w hw 39 rfl)) (by decide) (t := (.array .int)) (t' := .int) (by decide) (by decide)))
    have F_orderMask_a := F_orderMask_a.other W131 (Or.inr (slot_ne (Or.inr (own_w hw 37 rfl)) (Or.inr (own_w hw 39 rfl)) (by decide) (t := .long) (t' := .int) (by decide) (by decide)))
    have F_keyLongs_a := F_keyLongs_a.other W131 (Or.inr (slot_ne (Or.inr (own_w hw 41 rfl)) (Or.inr (own_w hw 39 rfl)) (by decide) (t := .int) (t' := .int) (by decide) (by decide)))
    have F_width_a := F_width_a.other W131 (Or.inr (slot_ne (Or.inr (own_w hw 43 rfl)) (Or.inr (own_w hw 39 rfl)) (by decide) (t := .int) (t' := .int) (by decide) (by decide)))
    have V_b125 := V_b125.other W131 (Ne.symm ne_a_b125)
    have V_b127 := V_b127.other W131 (Ne.symm ne_a_b127)
    have F_orderShift_a := tmp131
    refine own_ic 91 0 X131 hx (hb hby own_d110) rfl rfl ?_
    refine own_is 93 #[rv a, rv aS, iv 1, iv wd, iv pl, iv wb, iv 0, iv 63, iv 0] X131 hx (hb hby own_d111) rfl rfl ?_
    refine own_il 95 X131 hx (hb hby own_d112) rfl rfl ?_
    refine own_iln 96 X131 hx (hb hby own_d113) rfl rfl ?_
    refine own_icN 99 X131 hx (hb hby own_d114) (tlt (by decide : (0 : Int32) < (1 : Int32))).2.1 rfl ?_
    refine own_il 101 X131 hx (hb hby own_d115) rfl rfl ?_
    refine own_il 103 X131 hx (hb hby own_d116) rfl rfl ?_
    refine own_icY 113 X131 hx (hb hby own_d117) (flt (own_ge (63 : Int32) 63 rfl (by decide) hb2)).2.1 (by decide) (by decide) ?_
    have hl0 : 0 ≤ (0 : Int32).toInt ∧ (0 : Int32).toInt ≤ 0 := by decide
    refine own_il 115 X131 hx (hb hby own_d118) rfl rfl ?_
    refine own_il 117 X131 hx (hb hby own_d119) rfl rfl ?_
    refine own_isub 118 X131 hx (hb hby own_d120) rfl rfl ?_
    refine own_is 120 #[rv a, rv aS, iv 1, iv wd, iv pl, iv wb, iv 0, iv ((63 : Int32) - wb), iv 0] X131 hx (hb hby own_d121) rfl rfl ?_
    refine own_aln 121 X131 hx (hb hby own_d122) rfl rfl rfl ?_
    obtain ⟨T132, X132, e132, st132⟩ := getF X131 hx hZ hown (host := "") (Or.inl (own_w hw 30 rfl)) Via.refl e131 F_slotLongs_a (g := (mkF m 121 #[rv a, rv aS, iv 1, iv wd, iv pl, iv wb, iv 0, iv ((63 : Int32) - wb), iv 0] [(.ref a)])) rfl rfl (hb hby own_d123)
    refine own_to (mkF m 124 #[rv a, rv aS, iv 1, iv wd, iv pl, iv wb, iv 0, iv ((63 : Int32) - wb), iv 0] [(.ref b125)]) st132 ?_
    refine own_il 126 X132 hx (hb hby own_d124) rfl rfl ?_
    refine own_il 128 X132 hx (hb hby own_d125) rfl rfl ?_
    obtain ⟨cl133, Ar133, q133, S133, M133, H133, G133⟩ := id V_b125
    obtain ⟨T133, h133, X133, e133, W133, st133⟩ := stI X132 hx hZ e132 Ar133 (j := (0 : Int32)) (inb_of S133 ⟨by decide, by decide⟩) (g := (mkF m 128 #[rv a, rv aS, iv 1, iv wd, iv pl, iv wb, iv 0, iv ((63 : Int32) - wb), iv 0] [(.int (0 : Int32)), (.int (0 : Int32)), (.ref b125)])) rfl rfl (hb hby own_d126)
    refine own_to (mkF m 129 #[rv a, rv aS, iv 1, iv wd, iv pl, iv wb, iv 0, iv ((63 : Int32) - wb), iv 0] []) st133 ?_
    have N133 := Fr.snoc X133 N131 ge_b125
    have tmp133 : Arv Z h133 b125 k125 .int (1 : Int32) [(.int (0 : Int32))] (.int (0 : Int32)) := Arv.set Ar133 q133 S133 M133 H133 G133 rfl W133 0 rfl (Nat.le_of_ble_eq_true rfl)
    have OL := OL.wr W133 ge_b125
    have KP := KP.wr W133 (Or.inr sz_b125)
    have E_a := E_a.wr W133
    have F_slotLongs_a := F_slotLongs_a.other W133 (Or.inl ne_a_b125)
    have F_slotShifts_a := F_slotShifts_a.other W133 (Or.inl ne_a_b125)
    have F_keyLongs_a := F_keyLongs_a.other W133 (Or.inl ne_a_b125)
    have F_width_a := F_width_a.other W133 (Or.inl ne_a_b125)
    have V_b127 := V_b127.other W133 (Ne.symm ne_b125_b127)
    have V_b125 := tmp133
    refine own_aln 130 X133 hx (hb hby own_d127) rfl rfl rfl ?_
    obtain ⟨T134, X134, e134, st134⟩ := getF X133 hx hZ hown (host := "") (Or.inl (own_w hw 32 rfl)) Via.refl e133 F_slotShifts_a (g := (mkF m 130 #[rv a, rv aS, iv 1, iv wd, iv pl, iv wb, iv 0, iv ((63 : Int32) - wb), iv 0] [(.ref a)])) rfl rfl (hb hby own_d128)
    refine own_to (mkF m 133 #[rv a, rv aS, iv 1, iv wd, iv pl, iv wb, iv 0, iv ((63 : Int32) - wb), iv 0] [(.ref b127)]) st134 ?_
    refine own_il 135 X134 hx (hb hby own_d129) rfl rfl ?_
    refine own_il 137 X134 hx (hb hby own_d130) rfl rfl ?_
    obtain ⟨cl135, Ar135, q135, S135, M135, H135, G135⟩ := id V_b127
    obtain ⟨T135, h135, X135, e135, W135, st135⟩ := stI X134 hx hZ e134 Ar135 (j := (0 : Int32)) (inb_of S135 ⟨by decide, by decide⟩) (g := (mkF m 137 #[rv a, rv aS, iv 1, iv wd, iv pl, iv wb, iv 0, iv ((63 : Int32) - wb), iv 0] [(.int ((63 : Int32) - wb)), (.int (0 : Int32)), (.ref b127)])) rfl rfl (hb hby own_d131)
    refine own_to (mkF m 138 #[rv a, rv aS, iv 1, iv wd, iv pl, iv wb, iv 0, iv ((63 : Int32) - wb), iv 0] []) st135 ?_
    have N135 := Fr.snoc X135 N133 ge_b127
    have tmp135 : Arv Z h135 b127 k127 .int (1 : Int32) [(.int ((63 : Int32) - wb))] (.int (0 : Int32)) := Arv.set Ar135 q135 S135 M135 H135 G135 rfl W135 0 rfl (Nat.le_of_ble_eq_true rfl)
    have OL := OL.wr W135 ge_b127
    have KP := KP.wr W135 (Or.inr sz_b127)
    have E_a := E_a.wr W135
    have F_slotLongs_a := F_slotLongs_a.other W135 (Or.inl ne_a_b127)
    have F_slotShifts_a := F_slotShifts_a.other W135 (Or.inl ne_a_b127)
    have F_keyLongs_a := F_keyLongs_a.other W135 (Or.inl ne_a_b127)
    have F_width_a := F_width_a.other W135 (Or.inl ne_a_b127)
    have V_b125 := V_b125.other W135 ne_b125_b127
    have V_b127 := tmp135
    refine own_inc 141 #[rv a, rv aS, iv 1, iv wd, iv pl, iv wb, iv 0, iv ((63 : Int32) - wb), iv 1] X135 hx (hb hby own_d132) rfl rfl rfl ?_
    refine own_go 93 X135 hx (hb hby own_d133) (by decide) (by decide) ?_
    refine own_il 95 X135 hx (hb hby own_d112) rfl rfl ?_
    refine own_iln 96 X135 hx (hb hby own_d113) rfl rfl ?_
    refine own_icY 144 X135 hx (hb hby own_d114) (flt (by decide : ¬ ((1 : Int32) < (1 : Int32)))).2.1 (by decide) (by decide) ?_
    refine own_aln 145 X135 hx (hb hby own_d134) rfl rfl rfl ?_
    refine own_il 147 X135 hx (hb hby own_d135) rfl rfl ?_
    refine own_ic 148 1 X135 hx (hb hby own_d136) rfl rfl ?_
    refine own_iadd 149 X135 hx (hb hby own_d137) (z := (1 : Int32)) rfl rfl ?_
    obtain ⟨T136, h136, X136, e136, W136, st136⟩ := putF X135 hx hZ hown (host := "") (Or.inl (own_w hw 40 rfl)) Via.refl e135 F_keyLongs_a E_a (Or.inr ⟨(own_w hw 41 rfl), rfl, hnm⟩) (own_w hw 4 rfl) (ty := .int) (by decide) rfl rfl (g := (mkF m 149 #[rv a, rv aS, iv 1, iv wd, iv pl, iv wb, iv 0, iv ((63 : Int32) - wb), iv 1] [(.int (1 : Int32)), (.ref a)])) rfl rfl (hb hby own_d138)
    refine own_to (mkF m 152 #[rv a, rv aS, iv 1, iv wd, iv pl, iv wb, iv 0, iv ((63 : Int32) - wb), iv 1] []) st136 ?_
    have N136 := Fr.snoc X136 N135 ge_a
    have tmp136 : Fld Z h136 a "com/example/gramstead/gramstead/estimation/RecordLayout" "keyLongs" "I" (.int (1 : Int32)) := F_keyLongs_a.same W136
    have OL := OL.wr W136 ge_a
    have KP := KP.wr W136 (Or.inl (List.mem_of_getElem? (i := 0) rfl))
    have E_a := E_a.wr W136
    have F_width_a := F_width_a.other W136 (Or.inr (slot_ne (Or.inr (own_w hw 43 rfl)) (Or.inr (own_w hw 41 rfl)) (by decide) (t := .int) (t' := .int) (by decide) (by decide)))
    have F_keyLongs_a := tmp136
    refine own_aln 153 X136 hx (hb hby own_d139) rfl rfl rfl ?_
    refine own_aln 154 X136 hx (hb hby own_d140) rfl rfl rfl ?_
    obtain ⟨T137, X137, e137, st137⟩ := getF X136 hx hZ hown (host := "") (Or.inl (own_w hw 40 rfl)) Via.refl e136 F_keyLongs_a (g := (mkF m 154 #[rv a, rv aS, iv 1, iv wd, iv pl, iv wb, iv 0, iv ((63 : Int32) - wb), iv 1] [(.ref a), (.ref a)])) rfl rfl (hb hby own_d141)
    refine own_to (mkF m 157 #[rv a, rv aS, iv 1, iv wd, iv pl, iv wb, iv 0, iv ((63 : Int32) - wb), iv 1] [(.int (1 : Int32)), (.ref a)]) st137 ?_
    refine own_il 159 X137 hx (hb hby own_d142) rfl rfl ?_
    refine own_iadd 160 X137 hx (hb hby own_d143) rfl rfl ?_
    obtain ⟨T138, h138, X138, e138, W138, st138⟩ := putF X137 hx hZ hown (host := "") (Or.inl (own_w hw 42 rfl)) Via.refl e137 F_width_a E_a (Or.inr ⟨(own_w hw 43 rfl), rfl, hnm⟩) (own_w hw 4 rfl) (ty := .int) (by decide) rfl rfl (g := (mkF m 160 #[rv a, rv aS, iv 1, iv wd, iv pl, iv wb, iv 0, iv ((63 : Int32) - wb), iv 1] [(.int ((1 : Int32) + pl)), (.ref a)])) rfl rfl (hb hby own_d144)
    refine own_to (mkF m 163 #[rv a, rv aS, iv 1, iv wd, iv pl, iv wb, iv 0, iv ((63 : Int32) - wb), iv 1] []) st138 ?_
    have N138 := Fr.snoc X138 N136 ge_a
    have tmp138 : Fld Z h138 a "com/example/gramstead/gramstead/estimation/RecordLayout" "width" "I" (.int ((1 : Int32) + pl)) := F_width_a.same W138
    have OL := OL.wr W138 ge_a
    have KP := KP.wr W138 (Or.inl (List.mem_of_getElem? (i := 0) rfl))
    have E_a := E_a.wr W138
    have F_keyLongs_a := F_keyLongs_a.other W138 (Or.inr (slot_ne (Or.inr (own_w hw 41 rfl)) (Or.inr (own_w hw 43 rfl)) (by decide) (t := .int) (t' := .int) (by decide) (by decide)))
    have F_width_a := tmp138
    exact own_ret0 X138 hx Bd.returns hlk (hb hby own_d145) (by decide) (by decide) (by rw [e138]; exact ⟨rfl, N138, KP, E_a, (1 : Int32), (own_kl (k := 0) (by decide) hl0).1, (own_kl (k := 0) (by decide) hl0).2, F_keyLongs_a, F_width_a⟩)
  · subst q
    refine own_aln 1 X0 hx (hb hby own_d62) rfl rfl rfl ?_
    obtain ⟨T139, X139, e139, st139⟩ := initO X0 hx hZ hown (own_w hw 10 rfl) (own_w hw 11 rfl) (own_w hw 12 rfl) e0 (g := (mkF m 1 #[rv a, rv aS, iv 2, iv wd, iv pl, .unset, .unset, .unset, .unset] [(.ref a)])) rfl (by rw [hml]; rfl) rfl (hb hby own_d63) (by decide) (W := 0) (by show 2 * 0 + _ ≤ _; exact Nat.le_of_eq rfl) (by decide)
    refine own_to (mkF m 4 #[rv a, rv aS, iv 2, iv wd, iv pl, .unset, .unset, .unset, .unset] []) st139 ?_
    refine own_aln 5 X139 hx (hb hby own_d64) rfl rfl rfl ?_
    refine own_aln 6 X139 hx (hb hby own_d65) rfl rfl rfl ?_
    obtain ⟨T140, h140, X140, e140, W140, st140⟩ := putF X139 hx hZ hown (host := "") (Or.inl (own_w hw 13 rfl)) Via.refl e139 F_order_a E_a (Or.inr ⟨(own_w hw 14 rfl), rfl, hnm⟩) (own_w hw 4 rfl) (ty := (.object "com/example/gramstead/gramstead/estimation/RecordOrder")) (by decide) rfl rfl (g := (mkF m 6 #[rv a, rv aS, iv 2, iv wd, iv pl, .unset, .unset, .unset, .unset] [(.ref aS), (.ref a)])) rfl rfl (hb hby own_d66)
    refine own_to (mkF m 9 #[rv a, rv aS, iv 2, iv wd, iv pl, .unset, .unset, .unset, .unset] []) st140 ?_
    have N140 := Fr.snoc X140 N0 ge_a
    have tmp140 : Fld Z h140 a "com/example/gramstead/gramstead/estimation/RecordLayout" "order" "Lcom/example/gramstead/gramstead/estimation/RecordOrder;" (.ref aS) := F_order_a.same W140
    have OL := OL.wr W140 ge_a
    have KP := KP.wr W140 (Or.inl (List.mem_of_getElem? (i := 0) rfl))
    have E_a := E_a.wr W140
    have F_wordMask_a := F_wordMask_a.other W140 (Or.inr (slot_ne (Or.inr (own_w hw 28 rfl)) (Or.inr (own_w hw 14 rfl)) (by decide) (t := .long) (t' := (.object "com/example/gramstead/gramstead/estimation/RecordOrder")) (by decide) (by decide)))
    have F_slotLongs_a := F_slotLongs_a.other W140 (Or.inr (slot_ne (Or.inr (own_w hw 31 rfl)) (Or.inr (own_w hw 14 rfl)) (by decide) (t := (.array .int)) (t' := (.object "com/example/gramstead/gramstead/estimation/RecordOrder")) (by decide) (by decide)))
    have F_slotShifts_a := F_slotShifts_a.other W140 (Or.inr (slot_ne (Or.inr (own_w hw 33 rfl)) (Or.inr (own_w hw 14 rfl)) (by decide) (t := (.array .int)) (t' := (.object "com/example/gramstead/gramstead/estimation/RecordOrder")) (by decide) (by decide)))
    have F_orderMask_a := F_orderMask_a.other W140 (Or.inr (slot_ne (Or.inr (own_w hw 37 rfl)) (Or.inr (own_w hw 14 rfl)) (by decide) (t := .long) (t' := (.object "com/example/gramstead/gramstead/estimation/RecordOrder")) (by decide) (by decide)))
    have F_orderShift_a := F_orderShift_a.other W140 (Or.inr (slot_ne (Or.inr (own_w hw 39 rfl)) (Or.inr (own_w hw 14 rfl)) (by decide) (t := .int) (t' := (.object "com/example/gramstead/gramstead/estimation/RecordOrder")) (by decide) (by decide)))
    have F_keyLongs_a := F_keyLongs_a.other W140 (Or.inr (slot_ne (Or.inr (own_w hw 41 rfl)) (Or.inr (own_w hw 14 rfl)) (by decide) (t := .int) (t' := (.object "com/example/gramstead/gramstead/estimation/RecordOrder")) (by decide) (by decide)))
    have F_width_a := F_width_a.other W140 (Or.inr (slot_ne (Or.inr (own_w hw 43 rfl)) (Or.inr (own_w hw 14 rfl)) (by decide) (t := .int) (t' := (.object "com/example/gramstead/gramstead/estimation/RecordOrder")) (by decide) (by decide)))
    have F_order_a := tmp140
    refine own_iln 10 X140 hx (hb hby own_d67) rfl rfl ?_
    obtain ⟨_, T141, Lc141, X141, hQ141, st141⟩ := own_callS X140 hx (y := (⟨"com/example/gramstead/gramstead/estimation/RecordLayout", "bitsFor", "(I)I"⟩ : MethodName)) hown (mvT hZ (own_w hw 15 rfl)) (mvT hZ (own_w hw 16 rfl)) (mvT hZ (own_w hw 5 rfl)) (mvT hZ (own_w hw 17 rfl)) (by decide) (backOf (W := 0) (own_rmB l Z a0 hw [] wd h140 n0 (Nat.le_trans Z0 KP.1) OL hwd) hZ (own_w hw 17 rfl) (own_w hw 5 rfl) (by decide) (by decide)) (g := (mkF m 10 #[rv a, rv aS, iv 2, iv wd, iv pl, .unset, .unset, .unset, .unset] [(.int wd)])) rfl (by rw [hml]; rfl) (argsL := [(.int wd)]) (rest := []) (lenOf own_pd0 rfl) rfl (by show 2 * 0 + _ ≤ _; exact Nat.le_of_eq rfl) (hb hby own_d68) rfl e140 (kc := 0) (ks := 0) rfl rfl (by decide) (by decide)
    obtain ⟨wb, rfl, hb1, hb2, N141q, e141⟩ := hQ141
    have N141 := Fr.app N140 N141q
    refine own_to (mkF m 13 #[rv a, rv aS, iv 2, iv wd, iv pl, .unset, .unset, .unset, .unset] [(.int wb)]) st141 ?_
    refine own_is 15 #[rv a, rv aS, iv 2, iv wd, iv pl, iv wb, .unset, .unset, .unset] X141 hx (hb hby own_d69) rfl rfl ?_
    refine own_aln 16 X141 hx (hb hby own_d70) rfl rfl rfl ?_
    refine own_to (T' := T141) (mkF m 17 #[rv a, rv aS, iv 2, iv wd, iv pl, iv wb, .unset, .unset, .unset] [(.long (1 : Int64)), (.ref a)]) (fun _ k => XS.lconst X141.here hx rfl (hb hby own_d71) k) ?_
    refine own_il 19 X141 hx (hb hby own_d72) rfl rfl ?_
    refine own_to (T' := T141) (mkF m 20 #[rv a, rv aS, iv 2, iv wd, iv pl, iv wb, .unset, .unset, .unset] [(.long ((1 : Int64) <<< (wb &&& 0x3f).toInt64)), (.ref a)]) (fun _ k => XS.lshl X141.here hx rfl (hb hby own_d73) rfl k) ?_
    refine own_to (T' := T141) (mkF m 21 #[rv a, rv aS, iv 2, iv wd, iv pl, iv wb, .unset, .unset, .unset] [(.long (1 : Int64)), (.long ((1 : Int64) <<< (wb &&& 0x3f).toInt64)), (.ref a)]) (fun _ k => XS.lconst X141.here hx rfl (hb hby own_d74) k) ?_
    refine own_to (T' := T141) (mkF m 22 #[rv a, rv aS, iv 2, iv wd, iv pl, iv wb, .unset, .unset, .unset] [(.long (((1 : Int64) <<< (wb &&& 0x3f).toInt64) - (1 : Int64))), (.ref a)]) (fun _ k => XS.lsub X141.here hx rfl (hb hby own_d75) rfl k) ?_
    obtain ⟨T142, h142, X142, e142, W142, st142⟩ := putF X141 hx hZ hown (host := "") (Or.inl (own_w hw 27 rfl)) Via.refl e141 F_wordMask_a E_a (Or.inr ⟨(own_w hw 28 rfl), rfl, hnm⟩) (own_w hw 4 rfl) (ty := .long) (by decide) rfl rfl (g := (mkF m 22 #[rv a, rv aS, iv 2, iv wd, iv pl, iv wb, .unset, .unset, .unset] [(.long (((1 : Int64) <<< (wb &&& 0x3f).toInt64) - (1 : Int64))), (.ref a)])) rfl rfl (hb hby own_d76)
    refine own_to (mkF m 25 #[rv a, rv aS, iv 2, iv wd, iv pl, iv wb, .unset, .unset, .unset] []) st142 ?_
    have N142 := Fr.snoc X142 N141 ge_a
    have tmp142 : Fld Z h142 a "com/example/gramstead/gramstead/estimation/RecordLayout" "wordMask" "J" (.long (((1 : Int64) <<< (wb &&& 0x3f).toInt64) - (1 : Int64))) := F_wordMask_a.same W142
    have OL := OL.wr W142 ge_a
    have KP := KP.wr W142 (Or.inl (List.mem_of_getElem? (i := 0) rfl))
    have E_a := E_a.wr W142
    have F_slotLongs_a := F_slotLongs_a.other W142 (Or.inr (slot_ne (Or.inr (own_w hw 31 rfl)) (Or.inr (own_w hw 28 rfl)) (by decide) (t := (.array .int)) (t' := .long) (by decide) (by decide)))
    have F_slotShifts_a := F_slotShifts_a.other W142 (Or.inr (slot_ne (Or.inr (own_w hw 33 rfl)) (Or.inr (own_w hw 28 rfl)) (by decide) (t := (.array .int)) (t' := .long) (by decide) (by decide)))
    have F_orderMask_a := F_orderMask_a.other W142 (Or.inr (slot_ne (Or.inr (own_w hw 37 rfl)) (Or.inr (own_w hw 28 rfl)) (by decide) (t := .long) (t' := .long) (by decide) (by decide)))
    have F_orderShift_a := F_orderShift_a.other W142 (Or.inr (slot_ne (Or.inr (own_w hw 39 rfl)) (Or.inr (own_w hw 28 rfl)) (by decide) (t := .int) (t' := .long) (by decide) (by decide)))
    have F_keyLongs_a := F_keyLongs_a.other W142 (Or.inr (slot_ne (Or.inr (own_w hw 41 rfl)) (Or.inr (own_w hw 28 rfl)) (by decide) (t := .int) (t' := .long) (by decide) (by decide)))
    have F_width_a := F_width_a.other W142 (Or.inr (slot_ne (Or.inr (own_w hw 43 rfl)) (Or.inr (own_w hw 28 rfl)) (by decide) (t := .int) (t' := .long) (by decide) (by decide)))
    have F_wordMask_a := tmp142
    refine own_aln 26 X142 hx (hb hby own_d77) rfl rfl rfl ?_
    refine own_iln 27 X142 hx (hb hby own_d78) rfl rfl ?_
    obtain ⟨T143, h143, k143, X143, e143, E143, A143, B143, st143⟩ := newPE X142 hx hZ (own_w hw 29 rfl) e142 (g := (mkF m 27 #[rv a, rv aS, iv 2, iv wd, iv pl, iv wb, .unset, .unset, .unset] [(.int (2 : Int32)), (.ref a)])) rfl (hb hby own_d79) rfl (by decide) (cap := 2) (by decide) (by decide) (by decide) (by decide) (ad := "[I") (by decide)
    obtain ⟨b143, g143⟩ : ∃ z, z = h142.size := ⟨_, rfl⟩
    rw [← g143] at A143 B143 st143
    have sz_b143 : h0.size ≤ b143 := Nat.le_trans KP.1 (Nat.le_of_eq g143.symm)
    have ge_b143 : n0 ≤ b143 := Nat.le_trans Z0 sz_b143
    have ne_a_b143 : a ≠ b143 := Nat.ne_of_lt (Nat.lt_of_lt_of_le E_a.lt (Nat.le_of_eq g143.symm))
    have OL := OL.ext E143
    have KP := KP.ext E143
    have E_a := E_a.ext E143
    have F_slotLongs_a := F_slotLongs_a.ext E143
    have F_slotShifts_a := F_slotShifts_a.ext E143
    have F_orderMask_a := F_orderMask_a.ext E143
    have F_orderShift_a := F_orderShift_a.ext E143
    have F_keyLongs_a := F_keyLongs_a.ext E143
    have F_width_a := F_width_a.ext E143
    have V_b143 : Arv Z h143 b143 k143 .int (2 : Int32) [(.int (0 : Int32)), (.int (0 : Int32))] (.int (0 : Int32)) := (Arv.new A143 (by decide)).pad (pad_rep [] (.int (0 : Int32)) 2)
    refine own_to (mkF m 29 #[rv a, rv aS, iv 2, iv wd, iv pl, iv wb, .unset, .unset, .unset] [(.ref b143), (.ref a)]) st143 ?_
    obtain ⟨T144, h144, X144, e144, W144, st144⟩ := putF X143 hx hZ hown (host := "") (Or.inl (own_w hw 30 rfl)) Via.refl e143 F_slotLongs_a E_a (Or.inr ⟨(own_w hw 31 rfl), rfl, hnm⟩) (own_w hw 4 rfl) (ty := (.array .int)) (by decide) rfl rfl (g := (mkF m 29 #[rv a, rv aS, iv 2, iv wd, iv pl, iv wb, .unset, .unset, .unset] [(.ref b143), (.ref a)])) rfl rfl (hb hby own_d80)
    refine own_to (mkF m 32 #[rv a, rv aS, iv 2, iv wd, iv pl, iv wb, .unset, .unset, .unset] []) st144 ?_
    have N144 := Fr.snoc X144 N142 ge_a
    have tmp144 : Fld Z h144 a "com/example/gramstead/gramstead/estimation/RecordLayout" "slotLongs" "[I" (.ref b143) := F_slotLongs_a.same W144
    have OL := OL.wr W144 ge_a
    have KP := KP.wr W144 (Or.inl (List.mem_of_getElem? (i := 0) rfl))
    have E_a := E_a.wr W144
    have F_slotShifts_a := F_slotShifts_a.other W144 (Or.inr (slot_ne (Or.inr (own_w hw 33 rfl)) (Or.inr (own_w hw 31 rfl)) (by decide) (t := (.array .int)) (t' := (.array .int)) (by decide) (by decide)))
    have F_orderMask_a := F_orderMask_a.other W144 (Or.inr (slot_ne (Or.inr (own_w hw 37 rfl)) (Or.inr (own_w hw 31 rfl)) (by decide) (t := .long) (t' := (.array .int)) (by decide) (by decide)))
    have F_orderShift_a := F_orderShift_a.other W144 (Or.inr (slot_ne (Or.inr (own_w hw 39 rfl)) (Or.inr (own_w hw 31 rfl)) (by decide) (t := .int) (t' := (.array .int)) (by decide) (by decide)))
    have F_keyLongs_a := F_keyLongs_a.other W144 (Or.inr (slot_ne (Or.inr (own_w hw 41 rfl)) (Or.inr (own_w hw 31 rfl)) (by decide) (t := .int) (t' := (.array .int)) (by decide) (by decide)))
    have F_width_a := F_width_a.other W144 (Or.inr (slot_ne (Or.inr (own_w hw 43 rfl)) (Or.inr (own_w hw 31 rfl)) (by decide) (t := .int) (t' := (.array .int)) (by decide) (by decide)))
    have V_b143 := V_b143.other W144 (Ne.symm ne_a_b143)
    have F_slotLongs_a := tmp144
    refine own_aln 33 X144 hx (hb hby own_d81) rfl rfl rfl ?_
    refine own_iln 34 X144 hx (hb hby own_d82) rfl rfl ?_
    obtain ⟨T145, h145, k145, X145, e145, E145, A145, B145, st145⟩ := newPE X144 hx hZ (own_w hw 29 rfl) e144 (g := (mkF m 34 #[rv a, rv aS, iv 2, iv wd, iv pl, iv wb, .unset, .unset, .unset] [(.int (2 : Int32)), (.ref a)])) rfl (hb hby own_d83) rfl (by decide) (cap := 2) (by decide) (by decide) (by decide) (by decide) (ad := "[I") (by decide)
    obtain ⟨b145, g145⟩ : ∃ z, z = h144.size := ⟨_, rfl⟩
    rw [← g145] at A145 B145 st145
    have sz_b145 : h0.size ≤ b145 := Nat.le_trans KP.1 (Nat.le_of_eq g145.symm)
    have ge_b145 : n0 ≤ b145 := Nat.le_trans Z0 sz_b145
    have ne_a_b145 : a ≠ b145 := Nat.ne_of_lt (Nat.lt_of_lt_of_le E_a.lt (Nat.le_of_eq g145.symm))
    have ne_b143_b145 : b143 ≠ b145 := Nat.ne_of_lt (Nat.lt_of_lt_of_le V_b143.lt (Nat.le_of_eq g145.symm))
    have OL := OL.ext E145
    have KP := KP.ext E145
    have E_a := E_a.ext E145
    have F_slotLongs_a := F_slotLongs_a.ext E145
    have F_slotShifts_a := F_slotShifts_a.ext E145
    have F_orderMask_a := F_orderMask_a.ext E145
    have F_orderShift_a := F_orderShift_a.ext E145
    have F_keyLongs_a := F_keyLongs_a.ext E145
    have F_width_a := F_width_a.ext E145
    have V_b143 := V_b143.ext E145
    have V_b145 : Arv Z h145 b145 k145 .int (2 : Int32) [(.int (0 : Int32)), (.int (0 : Int32))] (.int (0 : Int32)) := (Arv.new A145 (by decide)).pad (pad_rep [] (.int (0 : Int32)) 2)
    refine own_to (mkF m 36 #[rv a, rv aS, iv 2, iv wd, iv pl, iv wb, .unset, .unset, .unset] [(.ref b145), (.ref a)]) st145 ?_
    obtain ⟨T146, h146, X146, e146, W146, st146⟩ := putF X145 hx hZ hown (host := "") (Or.inl (own_w hw 32 rfl)) Via.refl e145 F_slotShifts_a E_a (Or.inr ⟨(own_w hw 33 rfl), rfl, hnm⟩) (own_w hw 4 rfl) (ty := (.array .int)) (by decide) rfl rfl (g := (mkF m 36 #[rv a, rv aS, iv 2, iv wd, iv pl, iv wb, .unset, .unset, .unset] [(.ref b145), (.ref a)])) rfl rfl (hb hby own_d84)
    refine own_to (mkF m 39 #[rv a, rv aS, iv 2, iv wd, iv pl, iv wb, .unset, .unset, .unset] []) st146 ?_
    have N146 := Fr.snoc X146 N144 ge_a
    have tmp146 : Fld Z h146 a "com/example/gramstead/gramstead/estimation/RecordLayout" "slotShifts" "[I" (.ref b145) := F_slotShifts_a.same W146
    have OL := OL.wr W146 ge_a
    have KP := KP.wr W146 (Or.inl (List.mem_of_getElem? (i := 0) rfl))
    have E_a := E_a.wr W146
    have F_slotLongs_a := F_slotLongs_a.other W146 (Or.inr (slot_ne (Or.inr (own_w hw 31 rfl)) (Or.inr (own_w hw 33 rfl)) (by decide) (t := (.array .int)) (t' := (.array .int)) (by decide) (by decide)))
    have F_orderMask_a := F_orderMask_a.other W146 (Or.inr (slot_ne (Or.inr (own_w hw 37 rfl)) (Or.inr (own_w hw 33 rfl)) (by decide) (t := .long) (t' := (.array .int)) (by decide) (by decide)))
    have F_orderShift_a := F_orderShift_a.other W146 (Or.inr (slot_ne (Or.inr (own_w hw 39 rfl)) (Or.inr (own_w hw 33 rfl)) (by decide) (t := .int) (t' := (.array .int)) (by decide) (by decide)))
    have F_keyLongs_a := F_keyLongs_a.other W146 (Or.inr (slot_ne (Or.inr (own_w hw 41 rfl)) (Or.inr (own_w hw 33 rfl)) (by decide) (t := .int) (t' := (.array .int)) (by decide) (by decide)))
    have F_width_a := F_width_a.other W146 (Or.inr (slot_ne (Or.inr (own_w hw 43 rfl)) (Or.inr (own_w hw 33 rfl)) (by decide) (t := .int) (t' := (.array .int)) (by decide) (by decide)))
    have V_b143 := V_b143.other W146 (Ne.symm ne_a_b143)
    have V_b145 := V_b145.other W146 (Ne.symm ne_a_b145)
    have F_slotShifts_a := tmp146
    refine own_ic 40 0 X146 hx (hb hby own_d85) rfl rfl ?_
    refine own_is 42 #[rv a, rv aS, iv 2, iv wd, iv pl, iv wb, iv 0, .unset, .unset] X146 hx (hb hby own_d86) rfl rfl ?_
    refine own_bi 44 63 X146 hx (hb hby own_d87) rfl rfl ?_
    refine own_is 46 #[rv a, rv aS, iv 2, iv wd, iv pl, iv wb, iv 0, iv 63, .unset] X146 hx (hb hby own_d88) rfl rfl ?_
    refine own_aln 47 X146 hx (hb hby own_d89) rfl rfl rfl ?_
    obtain ⟨T147, X147, e147, st147⟩ := getS2 X146 hx hZ hown (host := "") (Or.inl (own_w hw 34 rfl)) Via.refl e146 (SC.ext OL.2) (g := (mkF m 47 #[rv a, rv aS, iv 2, iv wd, iv pl, iv wb, iv 0, iv 63, .unset] [(.ref aS)])) rfl (hb hby own_d90)
    refine own_to (mkF m 50 #[rv a, rv aS, iv 2, iv wd, iv pl, iv wb, iv 0, iv 63, .unset] [(.ref aC), (.ref aS)]) st147 ?_
    refine own_to (T' := T147) (mkF m 79 #[rv a, rv aS, iv 2, iv wd, iv pl, iv wb, iv 0, iv 63, .unset] []) (fun _ k => Jvm.RoadKit.acmp (g := (mkF m 50 #[rv a, rv aS, iv 2, iv wd, iv pl, iv wb, iv 0, iv 63, .unset] [(.ref aC), (.ref aS)])) X147 hx rfl rfl rfl (pc0 := 50) (pc' := 79) (same := false) rfl (hb hby own_d91) rfl (decide_eq_false fun q => ne_aS_aC (Value.ref.inj q)) (by decide) (by decide) k) ?_
    refine own_aln 80 X147 hx (hb hby own_d149) rfl rfl rfl ?_
    refine own_to (T' := T147) (mkF m 81 #[rv a, rv aS, iv 2, iv wd, iv pl, iv wb, iv 0, iv 63, .unset] [(.long (0 : Int64)), (.ref a)]) (fun _ k => XS.lconst X147.here hx rfl (hb hby own_d150) k) ?_
    obtain ⟨T148, h148, X148, e148, W148, st148⟩ := putF X147 hx hZ hown (host := "") (Or.inl (own_w hw 36 rfl)) Via.refl e147 F_orderMask_a E_a (Or.inr ⟨(own_w hw 37 rfl), rfl, hnm⟩) (own_w hw 4 rfl) (ty := .long) (by decide) rfl rfl (g := (mkF m 81 #[rv a, rv aS, iv 2, iv wd, iv pl, iv wb, iv 0, iv 63, .unset] [(.long (0 : Int64)), (.ref a)])) rfl rfl (hb hby own_d151)
    refine own_to (mkF m 84 #[rv a, rv aS, iv 2, iv wd, iv pl, iv wb, iv 0, iv 63, .unset] []) st148 ?_
    have N148 := Fr.snoc X148 N146 ge_a
    have tmp148 : Fld Z h148 a "com/example/gramstead/gramstead/estimation/RecordLayout" "orderMask" "J" (.long (0 : Int64)) := F_orderMask_a.same W148
    have OL := OL.wr W148 ge_a
    have KP := KP.wr W148 (Or.inl (List.mem_of_getElem? (i := 0) rfl))
    have E_a := E_a.wr W148
    have F_slotLongs_a := F_slotLongs_a.other W148 (Or.inr (slot_ne (Or.inr (own_w hw 31 rfl)) (Or.inr (own_w hw 37 rfl)) (by decide) (t := (.array .int)) (t' := .long) (by decide) (by decide)))
    have F_slotShifts_a := F_slotShifts_a.other W148 (Or.inr (slot_ne (Or.inr (own_w hw 33 rfl)) (Or.inr (own_w hw 37 rfl)) (by decide) (t := (.array .int)) (t' := .long) (by decide) (by decide)))
    have F_orderShift_a := F_orderShift_a.other W148 (Or.inr (slot_ne (Or.inr (own_w hw 39 rfl)) (Or.inr (own_w hw 37 rfl)) (by decide) (t := .int) (t' := .long) (by decide) (by decide)))
    have F_keyLongs_a := F_keyLongs_a.other W148 (Or.inr (slot_ne (Or.inr (own_w hw 41 rfl)) (Or.inr (own_w hw 37 rfl)) (by decide) (t := .int) (t' := .long) (by decide) (by decide)))
    have F_width_a := F_width_a.other W148 (Or.inr (slot_ne (Or.inr (own_w hw 43 rfl)) (Or.inr (own_w hw 37 rfl)) (by decide) (t := .int) (t' := .long) (by decide) (by decide)))
    have V_b143 := V_b143.other W148 (Ne.symm ne_a_b143)
    have V_b145 := V_b145.other W148 (Ne.symm ne_a_b145)
    have F_orderMask_a := tmp148
    refine own_aln 85 X148 hx (hb hby own_d107) rfl rfl rfl ?_
    refine own_il 87 X148 hx (hb hby own_d108) rfl rfl ?_
    obtain ⟨T149, h149, X149, e149, W149, st149⟩ := putF X148 hx hZ hown (host := "") (Or.inl (own_w hw 38 rfl)) Via.refl e148 F_orderShift_a E_a (Or.inr ⟨(own_w hw 39 rfl), rfl, hnm⟩) (own_w hw 4 rfl) (ty := .int) (by decide) rfl rfl (g := (mkF m 87 #[rv a, rv aS, iv 2, iv wd, iv pl, iv wb, iv 0, iv 63, .unset] [(.int (63 : Int32)), (.ref a)])) rfl rfl (hb hby own_d109)
    refine own_to (mkF m 90 #[rv a, rv aS, iv 2, iv wd, iv pl, iv wb, iv 0, iv 63, .unset] []) st149 ?_
    have N149 := Fr.snoc X149 N148 ge_a
    have tmp149 : Fld Z h149 a "com/example/gramstead/gramstead/estimation/RecordLayout" "orderShift" "I" (.int (63 : Int32)) := F_orderShift_a.same W149
    have OL := OL.wr W149 ge_a
    have KP := KP.wr W149 (Or.inl (List.mem_of_getElem? (i := 0) rfl))
    have E_a := E_a.wr W149
    have F_slotLongs_a := F_slotLongs_a.other W149 (Or.inr (slot_ne (Or.inr (own_w hw 31 rfl)) (Or.inr (own_w hw 39 rfl)) (by decide) (t := (.array .int)) (t' := .int) (by decide) (by decide)))
    have F_slotShifts_a := F_slotShifts_a.other W149 (Or.inr (slot_ne (Or.inr (own_w hw 33 rfl)) (Or.inr (own_w hw 39 rfl)) (by decide) (t := (.array .int)) (t' := .int) (by decide) (by decide)))
    have F_orderMask_a := F_orderMask_a.other W149 (Or.inr (slot_ne (Or.inr (own_w hw 37 rfl)) (Or.inr (own_w hw 39 rfl)) (by decide) (t := .long) (t' := .int) (by decide) (by decide)))
    have F_keyLongs_a := F_keyLongs_a.other W149 (Or.inr (slot_ne (Or.inr (own_w hw 41 rfl)) (Or.inr (own_w hw 39 rfl)) (by decide) (t := .int) (t' := .int) (by decide) (by decide)))
    have F_width_a := F_width_a.other W149 (Or.inr (slot_ne (Or.inr (own_w hw 43 rfl)) (Or.inr (own_w hw 39 rfl)) (by decide) (t := .int) (t' := .int) (by decide) (by decide)))
    have V_b143 := V_b143.other W149 (Ne.symm ne_a_b143)
    have V_b145 := V_b145.other W149 (Ne.symm ne_a_b145)
    have F_orderShift_a := tmp149
    refine own_ic 91 0 X149 hx (hb hby own_d110) rfl rfl ?_
    refine own_is 93 #[rv a, rv aS, iv 2, iv wd, iv pl, iv wb, iv 0, iv 63, iv 0] X149 hx (hb hby own_d111) rfl rfl ?_
    refine own_il 95 X149 hx (hb hby own_d112) rfl rfl ?_
    refine own_iln 96 X149 hx (hb hby own_d113) rfl rfl ?_
    refine own_icN 99 X149 hx (hb hby own_d114) (tlt (by decide : (0 : Int32) < (2 : Int32))).2.1 rfl ?_
    refine own_il 101 X149 hx (hb hby own_d115) rfl rfl ?_
    refine own_il 103 X149 hx (hb hby own_d116) rfl rfl ?_
    refine own_icY 113 X149 hx (hb hby own_d117) (flt (own_ge (63 : Int32) 63 rfl (by decide) hb2)).2.1 (by decide) (by decide) ?_
    have hl0 : 0 ≤ (0 : Int32).toInt ∧ (0 : Int32).toInt ≤ 0 := by decide
    refine own_il 115 X149 hx (hb hby own_d118) rfl rfl ?_
    refine own_il 117 X149 hx (hb hby own_d119) rfl rfl ?_
    refine own_isub 118 X149 hx (hb hby own_d120) rfl rfl ?_
    refine own_is 120 #[rv a, rv aS, iv 2, iv wd, iv pl, iv wb, iv 0, iv ((63 : Int32) - wb), iv 0] X149 hx (hb hby own_d121) rfl rfl ?_
    refine own_aln 121 X149 hx (hb hby own_d122) rfl rfl rfl ?_
    obtain ⟨T150, X150, e150, st150⟩ := getF X149 hx hZ hown (host := "") (Or.inl (own_w hw 30 rfl)) Via.refl e149 F_slotLongs_a (g := (mkF m 121 #[rv a, rv aS, iv 2, iv wd, iv pl, iv wb, iv 0, iv ((63 : Int32) - wb), iv 0] [(.ref a)])) rfl rfl (hb hby own_d123)
    refine own_to (mkF m 124 #[rv a, rv aS, iv 2, iv wd, iv pl, iv wb, iv 0, iv ((63 : Int32) - wb), iv 0] [(.ref b143)]) st150 ?_
    refine own_il 126 X150 hx (hb hby own_d124) rfl rfl ?_
    refine own_il 128 X150 hx (hb hby own_d125) rfl rfl ?_
    obtain ⟨cl151, Ar151, q151, S151, M151, H151, G151⟩ := id V_b143
    obtain ⟨T151, h151, X151, e151, W151, st151⟩ := stI X150 hx hZ e150 Ar151 (j := (0 : Int32)) (inb_of S151 ⟨by decide, by decide⟩) (g := (mkF m 128 #[rv a, rv aS, iv 2, iv wd, iv pl, iv wb, iv 0, iv ((63 : Int32) - wb), iv 0] [(.int (0 : Int32)), (.int (0 : Int32)), (.ref b143)])) rfl rfl (hb hby own_d126)
    refine own_to (mkF m 129 #[rv a, rv aS, iv 2, iv wd, iv pl, iv wb, iv 0, iv ((63 : Int32) - wb), iv 0] []) st151 ?_
    have N151 := Fr.snoc X151 N149 ge_b143
    have tmp151 : Arv Z h151 b143 k143 .int (2 : Int32) [(.int (0 : Int32)), (.int (0 : Int32))] (.int (0 : Int32)) := Arv.set Ar151 q151 S151 M151 H151 G151 rfl W151 0 rfl (Nat.le_of_ble_eq_true rfl)
    have OL := OL.wr W151 ge_b143
    have KP := KP.wr W151 (Or.inr sz_b143)
    have E_a := E_a.wr W151
    have F_slotLongs_a := F_slotLongs_a.other W151 (Or.inl ne_a_b143)
    have F_slotShifts_a := F_slotShifts_a.other W151 (Or.inl ne_a_b143)
    have F_keyLongs_a := F_keyLongs_a.other W151 (Or.inl ne_a_b143)
    have F_width_a := F_width_a.other W151 (Or.inl ne_a_b143)
    have V_b145 := V_b145.other W151 (Ne.symm ne_b143_b145)
    have V_b143 := tmp151
    refine own_aln 130 X151 hx (hb hby own_d127) rfl rfl rfl ?_
    obtain ⟨T152, X152, e152, st152⟩ := getF X151 hx hZ hown (host := "") (Or.inl (own_w hw 32 rfl)) Via.refl e151 F_slotShifts_a (g := (mkF m 130 #[rv a, rv aS, iv 2, iv wd, iv pl, iv wb, iv 0, iv ((63 : Int32) - wb), iv 0] [(.ref a)])) rfl rfl (hb hby own_d128)
    refine own_to (mkF m 133 #[rv a, rv aS, iv 2, iv wd, iv pl, iv wb, iv 0, iv ((63 : Int32) - wb), iv 0] [(.ref b145)]) st152 ?_
    refine own_il 135 X152 hx (hb hby own_d129) rfl rfl ?_
    refine own_il 137 X152 hx (hb hby own_d130) rfl rfl ?_
    obtain ⟨cl153, Ar153, q153, S153, M153, H153, G153⟩ := id V_b145
    obtain ⟨T153, h153, X153, e153, W153, st153⟩ := stI X152 hx hZ e152 Ar153 (j := (0 : Int32)) (inb_of S153 ⟨by decide, by decide⟩) (g := (mkF m 137 #[rv a, rv aS, iv 2, iv wd, iv pl, iv wb, iv 0, iv ((63 : Int32) - wb), iv 0] [(.int ((63 : Int32) - wb)), (.int (0 : Int32)), (.ref b145)])) rfl rfl (hb hby own_d131)
    refine own_to (mkF m 138 #[rv a, rv aS, iv 2, iv wd, iv pl, iv wb, iv 0, iv ((63 : Int32) - wb), iv 0] []) st153 ?_
    have N153 := Fr.snoc X153 N151 ge_b145
    have tmp153 : Arv Z h153 b145 k145 .int (2 : Int32) [(.int ((63 : Int32) - wb)), (.int (0 : Int32))] (.int (0 : Int32)) := Arv.set Ar153 q153 S153 M153 H153 G153 rfl W153 0 rfl (Nat.le_of_ble_eq_true rfl)
    have OL := OL.wr W153 ge_b145
    have KP := KP.wr W153 (Or.inr sz_b145)
    have E_a := E_a.wr W153
    have F_slotLongs_a := F_slotLongs_a.other W153 (Or.inl ne_a_b145)
    have F_slotShifts_a := F_slotShifts_a.other W153 (Or.inl ne_a_b145)
    have F_keyLongs_a := F_keyLongs_a.other W153 (Or.inl ne_a_b145)
    have F_width_a := F_width_a.other W153 (Or.inl ne_a_b145)
    have V_b143 := V_b143.other W153 ne_b143_b145
    have V_b145 := tmp153
    refine own_inc 141 #[rv a, rv aS, iv 2, iv wd, iv pl, iv wb, iv 0, iv ((63 : Int32) - wb), iv 1] X153 hx (hb hby own_d132) rfl rfl rfl ?_
    refine own_go 93 X153 hx (hb hby own_d133) (by decide) (by decide) ?_
    refine own_il 95 X153 hx (hb hby own_d112) rfl rfl ?_
    refine own_iln 96 X153 hx (hb hby own_d113) rfl rfl ?_
    refine own_icN 99 X153 hx (hb hby own_d114) (tlt (by decide : (1 : Int32) < (2 : Int32))).2.1 rfl ?_
    refine own_il 101 X153 hx (hb hby own_d115) rfl rfl ?_
    refine own_il 103 X153 hx (hb hby own_d116) rfl rfl ?_
    suffices jn154 : ∀ lg1 : Int32, (((63 : Int32) - wb) < wb → lg1 = ((0 : Int32) + (1 : Int32))) → (¬ ((63 : Int32) - wb) < wb → lg1 = (0 : Int32)) → ∀ sh1 : Int32, (((63 : Int32) - wb) < wb → sh1 = (63 : Int32)) → (¬ ((63 : Int32) - wb) < wb → sh1 = ((63 : Int32) - wb)) → own_E p e below (own_Fin s (own_QCS Z a aC aS (2 : Int32) wd pl h0 n0) ({ frames := 2, cells := 2, slots := 8, locals := 40 } : Room).cells ({ frames := 2, cells := 2, slots := 8, locals := 40 } : Room).slots) T153 (mkF m 113 #[rv a, rv aS, iv 2, iv wd, iv pl, iv wb, iv lg1, iv sh1, iv 1] []) from by
      by_cases hj1 : ((63 : Int32) - wb) < wb
      · refine own_icN 106 X153 hx (hb hby own_d117) (tlt hj1).2.1 rfl ?_
        refine own_inc 109 #[rv a, rv aS, iv 2, iv wd, iv pl, iv wb, iv ((0 : Int32) + (1 : Int32)), iv ((63 : Int32) - wb), iv 1] X153 hx (hb hby own_d146) rfl rfl rfl ?_
        refine own_bi 111 63 X153 hx (hb hby own_d147) rfl rfl ?_
        refine own_is 113 #[rv a, rv aS, iv 2, iv wd, iv pl, iv wb, iv ((0 : Int32) + (1 : Int32)), iv 63, iv 1] X153 hx (hb hby own_d148) rfl rfl ?_
        exact jn154 ((0 : Int32) + (1 : Int32)) (fun _ => rfl) (fun q => absurd hj1 q) (63 : Int32) (fun _ => rfl) (fun q => absurd hj1 q)
      · refine own_icY 113 X153 hx (hb hby own_d117) (flt hj1).2.1 (by decide) (by decide) ?_
        exact jn154 (0 : Int32) (fun q => absurd q hj1) (fun _ => rfl) ((63 : Int32) - wb) (fun q => absurd q hj1) (fun _ => rfl)
    intro lg1 hlg1t hlg1f sh1 hsh1t hsh1f
    have hl1 := own_incr (k := 0) (by decide) hl0 hlg1t hlg1f
    refine own_il 115 X153 hx (hb hby own_d118) rfl rfl ?_
    refine own_il 117 X153 hx (hb hby own_d119) rfl rfl ?_
    refine own_isub 118 X153 hx (hb hby own_d120) rfl rfl ?_
    refine own_is 120 #[rv a, rv aS, iv 2, iv wd, iv pl, iv wb, iv lg1, iv (sh1 - wb), iv 1] X153 hx (hb hby own_d121) rfl rfl ?_
    refine own_aln 121 X153 hx (hb hby own_d122) rfl rfl rfl ?_
    obtain ⟨T155, X155, e155, st155⟩ := getF X153 hx hZ hown (host := "") (Or.inl (own_w hw 30 rfl)) Via.refl e153 F_slotLongs_a (g := (mkF m 121 #[rv a, rv aS, iv 2, iv wd, iv pl, iv wb, iv lg1, iv (sh1 - wb), iv 1] [(.ref a)])) rfl rfl (hb hby own_d123)
    refine own_to (mkF m 124 #[rv a, rv aS, iv 2, iv wd, iv pl, iv wb, iv lg1, iv (sh1 - wb), iv 1] [(.ref b143)]) st155 ?_
    refine own_il 126 X155 hx (hb hby own_d124) rfl rfl ?_
    refine own_il 128 X155 hx (hb hby own_d125) rfl rfl ?_
    obtain ⟨cl156, Ar156, q156, S156, M156, H156, G156⟩ := id V_b143
    obtain ⟨T156, h156, X156, e156, W156, st156⟩ := stI X155 hx hZ e155 Ar156 (j := (1 : Int32)) (inb_of S156 ⟨by decide, by decide⟩) (g := (mkF m 128 #[rv a, rv aS, iv 2, iv wd, iv pl, iv wb, iv lg1, iv (sh1 - wb), iv 1] [(.int lg1), (.int (1 : Int32)), (.ref b143)])) rfl rfl (hb hby own_d126)
    refine own_to (mkF m 129 #[rv a, rv aS, iv 2, iv wd, iv pl, iv wb, iv lg1, iv (sh1 - wb), iv 1] []) st156 ?_
    have N156 := Fr.snoc X156 N153 ge_b143
    have tmp156 : Arv Z h156 b143 k143 .int (2 : Int32) [(.int (0 : Int32)), (.int lg1)] (.int (0 : Int32)) := Arv.set Ar156 q156 S156 M156 H156 G156 rfl W156 1 rfl (Nat.le_of_ble_eq_true rfl)
    have OL := OL.wr W156 ge_b143
    have KP := KP.wr W156 (Or.inr sz_b143)
    have E_a := E_a.wr W156
    have F_slotLongs_a := F_slotLongs_a.other W156 (Or.inl ne_a_b143)
    have F_slotShifts_a := F_slotShifts_a.other W156 (Or.inl ne_a_b143)
    have F_keyLongs_a := F_keyLongs_a.other W156 (Or.inl ne_a_b143)
    have F_width_a := F_width_a.other W156 (Or.inl ne_a_b143)
    have V_b145 := V_b145.other W156 (Ne.symm ne_b143_b145)
    have V_b143 := tmp156
    refine own_aln 130 X156 hx (hb hby own_d127) rfl rfl rfl ?_
    obtain ⟨T157, X157, e157, st157⟩ := getF X156 hx hZ hown (host := "") (Or.inl (own_w hw 32 rfl)) Via.refl e156 F_slotShifts_a (g := (mkF m 130 #[rv a, rv aS, iv 2, iv wd, iv pl, iv wb, iv lg1, iv (sh1 - wb), iv 1] [(.ref a)])) rfl rfl (hb hby own_d128)
    refine own_to (mkF m 133 #[rv a, rv aS, iv 2, iv wd, iv pl, iv wb, iv lg1, iv (sh1 - wb), iv 1] [(.ref b145)]) st157 ?_
    refine own_il 135 X157 hx (hb hby own_d129) rfl rfl ?_
    refine own_il 137 X157 hx (hb hby own_d130) rfl rfl ?_
    obtain ⟨cl158, Ar158, q158, S158, M158, H158, G158⟩ := id V_b145
    obtain ⟨T158, h158, X158, e158, W158, st158⟩ := stI X157 hx hZ e157 Ar158 (j := (1 : Int32)) (inb_of S158 ⟨by decide, by decide⟩) (g := (mkF m 137 #[rv a, rv aS, iv 2, iv wd, iv pl, iv wb, iv lg1, iv (sh1 - wb), iv 1] [(.int (sh1 - wb)), (.int (1 : Int32)), (.ref b145)])) rfl rfl (hb hby own_d131)
    refine own_to (mkF m 138 #[rv a, rv aS, iv 2, iv wd, iv pl, iv wb, iv lg1, iv (sh1 - wb), iv 1] []) st158 ?_
    have N158 := Fr.snoc X158 N156 ge_b145
    have tmp158 : Arv Z h158 b145 k145 .int (2 : Int32) [(.int ((63 : Int32) - wb)), (.int (sh1 - wb))] (.int (0 : Int32)) := Arv.set Ar158 q158 S158 M158 H158 G158 rfl W158 1 rfl (Nat.le_of_ble_eq_true rfl)
    have OL := OL.wr W158 ge_b145
    have KP := KP.wr W158 (Or.inr sz_b145)
    have E_a := E_a.wr W158
    have F_slotLongs_a := F_slotLongs_a.other W158 (Or.inl ne_a_b145)
    have F_slotShifts_a := F_slotShifts_a.other W158 (Or.inl ne_a_b145)
    have F_keyLongs_a := F_keyLongs_a.other W158 (Or.inl ne_a_b145)
    have F_width_a := F_width_a.other W158 (Or.inl ne_a_b145)
    have V_b143 := V_b143.other W158 ne_b143_b145
    have V_b145 := tmp158
    refine own_inc 141 #[rv a, rv aS, iv 2, iv wd, iv pl, iv wb, iv lg1, iv (sh1 - wb), iv 2] X158 hx (hb hby own_d132) rfl rfl rfl ?_
    refine own_go 93 X158 hx (hb hby own_d133) (by decide) (by decide) ?_
    refine own_il 95 X158 hx (hb hby own_d112) rfl rfl ?_
    refine own_iln 96 X158 hx (hb hby own_d113) rfl rfl ?_
    refine own_icY 144 X158 hx (hb hby own_d114) (flt (by decide : ¬ ((2 : Int32) < (2 : Int32)))).2.1 (by decide) (by decide) ?_
    refine own_aln 145 X158 hx (hb hby own_d134) rfl rfl rfl ?_
    refine own_il 147 X158 hx (hb hby own_d135) rfl rfl ?_
    refine own_ic 148 1 X158 hx (hb hby own_d136) rfl rfl ?_
    refine own_iadd 149 X158 hx (hb hby own_d137) rfl rfl ?_
    obtain ⟨T159, h159, X159, e159, W159, st159⟩ := putF X158 hx hZ hown (host := "") (Or.inl (own_w hw 40 rfl)) Via.refl e158 F_keyLongs_a E_a (Or.inr ⟨(own_w hw 41 rfl), rfl, hnm⟩) (own_w hw 4 rfl) (ty := .int) (by decide) rfl rfl (g := (mkF m 149 #[rv a, rv aS, iv 2, iv wd, iv pl, iv wb, iv lg1, iv (sh1 - wb), iv 2] [(.int (lg1 + (1 : Int32))), (.ref a)])) rfl rfl (hb hby own_d138)
    refine own_to (mkF m 152 #[rv a, rv aS, iv 2, iv wd, iv pl, iv wb, iv lg1, iv (sh1 - wb), iv 2] []) st159 ?_
    have N159 := Fr.snoc X159 N158 ge_a
    have tmp159 : Fld Z h159 a "com/example/gramstead/gramstead/estimation/RecordLayout" "keyLongs" "I" (.int (lg1 + (1 : Int32))) := F_keyLongs_a.same W159
    have OL := OL.wr W159 ge_a
    have KP := KP.wr W159 (Or.inl (List.mem_of_getElem? (i := 0) rfl))
    have E_a := E_a.wr W159
    have F_width_a := F_width_a.other W159 (Or.inr (slot_ne (Or.inr (own_w hw 43 rfl)) (Or.inr (own_w hw 41 rfl)) (by decide) (t := .int) (t' := .int) (by decide) (by decide)))
    have F_keyLongs_a := tmp159
    refine own_aln 153 X159 hx (hb hby own_d139) rfl rfl rfl ?_
    refine own_aln 154 X159 hx (hb hby own_d140) rfl rfl rfl ?_
    obtain ⟨T160, X160, e160, st160⟩ := getF X159 hx hZ hown (host := "") (Or.inl (own_w hw 40 rfl)) Via.refl e159 F_keyLongs_a (g := (mkF m 154 #[rv a, rv aS, iv 2, iv wd, iv pl, iv wb, iv lg1, iv (sh1 - wb), iv 2] [(.ref a), (.ref a)])) rfl rfl (hb hby own_d141)
    refine own_to (mkF m 157 #[rv a, rv aS, iv 2, iv wd, iv pl, iv wb, iv lg1, iv (sh1 - wb), iv 2] [(.int (lg1 + (1 : Int32))), (.ref a)]) st160 ?_
    refine own_il 159 X160 hx (hb hby own_d142) rfl rfl ?_
    refine own_iadd 160 X160 hx (hb hby own_d143) rfl rfl ?_
    obtain ⟨T161, h161, X161, e161, W161, st161⟩ := putF X160 hx hZ hown (host := "") (Or.inl (own_w hw 42 rfl)) Via.refl e160 F_width_a E_a (Or.inr ⟨(own_w hw 43 rfl), rfl, hnm⟩) (own_w hw 4 rfl) (ty := .int) (by decide) rfl rfl (g := (mkF m 160 #[rv a, rv aS, iv 2, iv wd, iv pl, iv wb, iv lg1, iv (sh1 - wb), iv 2] [(.int ((lg1 + (1 : Int32)) + pl)), (.ref a)])) rfl rfl (hb hby own_d144)
    refine own_to (mkF m 163 #[rv a, rv aS, iv 2, iv wd, iv pl, iv wb, iv lg1, iv (sh1 - wb), iv 2] []) st161 ?_
    have N161 := Fr.snoc X161 N159 ge_a
    have tmp161 : Fld Z h161 a "com/example/gramstead/gramstead/estimation/RecordLayout" "width" "I" (.int ((lg1 + (1 : Int32)) + pl)) := F_width_a.same W161
    have OL := OL.wr W161 ge_a
    have KP := KP.wr W161 (Or.inl (List.mem_of_getElem? (i := 0) rfl))
    have E_a := E_a.wr W161
    have F_keyLongs_a := F_keyLongs_a.other W161 (Or.inr (slot_ne (Or.inr (own_w hw 41 rfl)) (Or.inr (own_w hw 43 rfl)) (by decide) (t := .int) (t' := .int) (by decide) (by decide)))
    have F_width_a := tmp161
    exact own_ret0 X161 hx Bd.returns hlk (hb hby own_d145) (by decide) (by decide) (by rw [e161]; exact ⟨rfl, N161, KP, E_a, (lg1 + (1 : Int32)), (own_kl (k := 1) (by decide) hl1).1, (own_kl (k := 1) (by decide) hl1).2, F_keyLongs_a, F_width_a⟩)
  · subst q
    refine own_aln 1 X0 hx (hb hby own_d62) rfl rfl rfl ?_
    obtain ⟨T162, X162, e162, st162⟩ := initO X0 hx hZ hown (own_w hw 10 rfl) (own_w hw 11 rfl) (own_w hw 12 rfl) e0 (g := (mkF m 1 #[rv a, rv aS, iv 3, iv wd, iv pl, .unset, .unset, .unset, .unset] [(.ref a)])) rfl (by rw [hml]; rfl) rfl (hb hby own_d63) (by decide) (W := 0) (by show 2 * 0 + _ ≤ _; exact Nat.le_of_eq rfl) (by decide)
    refine own_to (mkF m 4 #[rv a, rv aS, iv 3, iv wd, iv pl, .unset, .unset, .unset, .unset] []) st162 ?_
    refine own_aln 5 X162 hx (hb hby own_d64) rfl rfl rfl ?_
    refine own_aln 6 X162 hx (hb hby own_d65) rfl rfl rfl ?_
    obtain ⟨T163, h163, X163, e163, W163, st163⟩ := putF X162 hx hZ hown (host := "") (Or.inl (own_w hw 13 rfl)) Via.refl e162 F_order_a E_a (Or.inr ⟨(own_w hw 14 rfl), rfl, hnm⟩) (own_w hw 4 rfl) (ty := (.object "com/example/gramstead/gramstead/estimation/RecordOrder")) (by decide) rfl rfl (g := (mkF m 6 #[rv a, rv aS, iv 3, iv wd, iv pl, .unset, .unset, .unset, .unset] [(.ref aS), (.ref a)])) rfl rfl (hb hby own_d66)
    refine own_to (mkF m 9 #[rv a, rv aS, iv 3, iv wd, iv pl, .unset, .unset, .unset, .unset] []) st163 ?_
    have N163 := Fr.snoc X163 N0 ge_a
    have tmp163 : Fld Z h163 a "com/example/gramstead/gramstead/estimation/RecordLayout" "order" "Lcom/example/gramstead/gramstead/estimation/RecordOrder;" (.ref aS) := F_order_a.same W163
    have OL := OL.wr W163 ge_a
    have KP := KP.wr W163 (Or.inl (List.mem_of_getElem? (i := 0) rfl))
    have E_a := E_a.wr W163
    have F_wordMask_a := F_wordMask_a.other W163 (Or.inr (slot_ne (Or.inr (own_w hw 28 rfl)) (Or.inr (own_w hw 14 rfl)) (by decide) (t := .long) (t' := (.object "com/example/gramstead/gramstead/estimation/RecordOrder")) (by decide) (by decide)))
    have F_slotLongs_a := F_slotLongs_a.other W163 (Or.inr (slot_ne (Or.inr (own_w hw 31 rfl)) (Or.inr (own_w hw 14 rfl)) (by decide) (t := (.array .int)) (t' := (.object "com/example/gramstead/gramstead/estimation/RecordOrder")) (by decide) (by decide)))
    have F_slotShifts_a := F_slotShifts_a.other W163 (Or.inr (slot_ne (Or.inr (own_w hw 33 rfl)) (Or.inr (own_w hw 14 rfl)) (by decide) (t := (.array .int)) (t' := (.object "com/example/gramstead/gramstead/estimation/RecordOrder")) (by decide) (by decide)))
    have F_orderMask_a := F_orderMask_a.other W163 (Or.inr (slot_ne (Or.inr (own_w hw 37 rfl)) (Or.inr (own_w hw 14 rfl)) (by decide) (t := .long) (t' := (.object "com/example/gramstead/gramstead/estimation/RecordOrder")) (by decide) (by decide)))
    have F_orderShift_a := F_orderShift_a.other W163 (Or.inr (slot_ne (Or.inr (own_w hw 39 rfl)) (Or.inr (own_w hw 14 rfl)) (by decide) (t := .int) (t' := (.object "com/example/gramstead/gramstead/estimation/RecordOrder")) (by decide) (by decide)))
    have F_keyLongs_a := F_keyLongs_a.other W163 (Or.inr (slot_ne (Or.inr (own_w hw 41 rfl)) (Or.inr (own_w hw 14 rfl)) (by decide) (t := .int) (t' := (.object "com/example/gramstead/gramstead/estimation/RecordOrder")) (by decide) (by decide)))
    have F_width_a := F_width_a.other W163 (Or.inr (slot_ne (Or.inr (own_w hw 43 rfl)) (Or.inr (own_w hw 14 rfl)) (by decide) (t := .int) (t' := (.object "com/example/gramstead/gramstead/estimation/RecordOrder")) (by decide) (by decide)))
    have F_order_a := tmp163
    refine own_iln 10 X163 hx (hb hby own_d67) rfl rfl ?_
    obtain ⟨_, T164, Lc164, X164, hQ164, st164⟩ := own_callS X163 hx (y := (⟨"com/example/gramstead/gramstead/estimation/RecordLayout", "bitsFor", "(I)I"⟩ : MethodName)) hown (mvT hZ (own_w hw 15 rfl)) (mvT hZ (own_w hw 16 rfl)) (mvT hZ (own_w hw 5 rfl)) (mvT hZ (own_w hw 17 rfl)) (by decide) (backOf (W := 0) (own_rmB l Z a0 hw [] wd h163 n0 (Nat.le_trans Z0 KP.1) OL hwd) hZ (own_w hw 17 rfl) (own_w hw 5 rfl) (by decide) (by decide)) (g := (mkF m 10 #[rv a, rv aS, iv 3, iv wd, iv pl, .unset, .unset, .unset, .unset] [(.int wd)])) rfl (by rw [hml]; rfl) (argsL := [(.int wd)]) (rest := []) (lenOf own_pd0 rfl) rfl (by show 2 * 0 + _ ≤ _; exact Nat.le_of_eq rfl) (hb hby own_d68) rfl e163 (kc := 0) (ks := 0) rfl rfl (by decide) (by decide)
    obtain ⟨wb, rfl, hb1, hb2, N164q, e164⟩ := hQ164
    have N164 := Fr.app N163 N164q
    refine own_to (mkF m 13 #[rv a, rv aS, iv 3, iv wd, iv pl, .unset, .unset, .unset, .unset] [(.int wb)]) st164 ?_
    refine own_is 15 #[rv a, rv aS, iv 3, iv wd, iv pl, iv wb, .unset, .unset, .unset] X164 hx (hb hby own_d69) rfl rfl ?_
    refine own_aln 16 X164 hx (hb hby own_d70) rfl rfl rfl ?_
    refine own_to (T' := T164) (mkF m 17 #[rv a, rv aS, iv 3, iv wd, iv pl, iv wb, .unset, .unset, .unset] [(.long (1 : Int64)), (.ref a)]) (fun _ k => XS.lconst X164.here hx rfl (hb hby own_d71) k) ?_
    refine own_il 19 X164 hx (hb hby own_d72) rfl rfl ?_
    refine own_to (T' := T164) (mkF m 20 #[rv a, rv aS, iv 3, iv wd, iv pl, iv wb, .unset, .unset, .unset] [(.long ((1 : Int64) <<< (wb &&& 0x3f).toInt64)), (.ref a)]) (fun _ k => XS.lshl X164.here hx rfl (hb hby own_d73) rfl k) ?_
    refine own_to (T' := T164) (mkF m 21 #[rv a, rv aS, iv 3, iv wd, iv pl, iv wb, .unset, .unset, .unset] [(.long (1 : Int64)), (.long ((1 : Int64) <<< (wb &&& 0x3f).toInt64)), (.ref a)]) (fun _ k => XS.lconst X164.here hx rfl (hb hby own_d74) k) ?_
    refine own_to (T' := T164) (mkF m 22 #[rv a, rv aS, iv 3, iv wd, iv pl, iv wb, .unset, .unset, .unset] [(.long (((1 : Int64) <<< (wb &&& 0x3f).toInt64) - (1 : Int64))), (.ref a)]) (fun _ k => XS.lsub X164.here hx rfl (hb hby own_d75) rfl k) ?_
    obtain ⟨T165, h165, X165, e165, W165, st165⟩ := putF X164 hx hZ hown (host := "") (Or.inl (own_w hw 27 rfl)) Via.refl e164 F_wordMask_a E_a (Or.inr ⟨(own_w hw 28 rfl), rfl, hnm⟩) (own_w hw 4 rfl) (ty := .long) (by decide) rfl rfl (g := (mkF m 22 #[rv a, rv aS, iv 3, iv wd, iv pl, iv wb, .unset, .unset, .unset] [(.long (((1 : Int64) <<< (wb &&& 0x3f).toInt64) - (1 : Int64))), (.ref a)])) rfl rfl (hb hby own_d76)
    refine own_to (mkF m 25 #[rv a, rv aS, iv 3, iv wd, iv pl, iv wb, .unset, .unset, .unset] []) st165 ?_
    have N165 := Fr.snoc X165 N164 ge_a
    have tmp165 : Fld Z h165 a "com/example/gramstead/gramstead/estimation/RecordLayout" "wordMask" "J" (.long (((1 : Int64) <<< (wb &&& 0x3f).toInt64) - (1 : Int64))) := F_wordMask_a.same W165
    have OL := OL.wr W165 ge_a
    have KP := KP.wr W165 (Or.inl (List.mem_of_getElem? (i := 0) rfl))
    have E_a := E_a.wr W165
    have F_slotLongs_a := F_slotLongs_a.other W165 (Or.inr (slot_ne (Or.inr (own_w hw 31 rfl)) (Or.inr (own_w hw 28 rfl)) (by decide) (t := (.array .int)) (t' := .long) (by decide) (by decide)))
    have F_slotShifts_a := F_slotShifts_a.other W165 (Or.inr (slot_ne (Or.inr (own_w hw 33 rfl)) (Or.inr (own_w hw 28 rfl)) (by decide) (t := (.array .int)) (t' := .long) (by decide) (by decide)))
    have F_orderMask_a := F_orderMask_a.other W165 (Or.inr (slot_ne (Or.inr (own_w hw 37 rfl)) (Or.inr (own_w hw 28 rfl)) (by decide) (t := .long) (t' := .long) (by decide) (by decide)))
    have F_orderShift_a := F_orderShift_a.other W165 (Or.inr (slot_ne (Or.inr (own_w hw 39 rfl)) (Or.inr (own_w hw 28 rfl)) (by decide) (t := .int) (t' := .long) (by decide) (by decide)))
    have F_keyLongs_a := F_keyLongs_a.other W165 (Or.inr (slot_ne (Or.inr (own_w hw 41 rfl)) (Or.inr (own_w hw 28 rfl)) (by decide) (t := .int) (t' := .long) (by decide) (by decide)))
    have F_width_a := F_width_a.other W165 (Or.inr (slot_ne (Or.inr (own_w hw 43 rfl)) (Or.inr (own_w hw 28 rfl)) (by decide) (t := .int) (t' := .long) (by decide) (by decide)))
    have F_wordMask_a := tmp165
    refine own_aln 26 X165 hx (hb hby own_d77) rfl rfl rfl ?_
    refine own_iln 27 X165 hx (hb hby own_d78) rfl rfl ?_
    obtain ⟨T166, h166, k166, X166, e166, E166, A166, B166, st166⟩ := newPE X165 hx hZ (own_w hw 29 rfl) e165 (g := (mkF m 27 #[rv a, rv aS, iv 3, iv wd, iv pl, iv wb, .unset, .unset, .unset] [(.int (3 : Int32)), (.ref a)])) rfl (hb hby own_d79) rfl (by decide) (cap := 3) (by decide) (by decide) (by decide) (by decide) (ad := "[I") (by decide)
    obtain ⟨b166, g166⟩ : ∃ z, z = h165.size := ⟨_, rfl⟩
    rw [← g166] at A166 B166 st166
    have sz_b166 : h0.size ≤ b166 := Nat.le_trans KP.1 (Nat.le_of_eq g166.symm)
    have ge_b166 : n0 ≤ b166 := Nat.le_trans Z0 sz_b166
    have ne_a_b166 : a ≠ b166 := Nat.ne_of_lt (Nat.lt_of_lt_of_le E_a.lt (Nat.le_of_eq g166.symm))
    have OL := OL.ext E166
    have KP := KP.ext E166
    have E_a := E_a.ext E166
    have F_slotLongs_a := F_slotLongs_a.ext E166
    have F_slotShifts_a := F_slotShifts_a.ext E166
    have F_orderMask_a := F_orderMask_a.ext E166
    have F_orderShift_a := F_orderShift_a.ext E166
    have F_keyLongs_a := F_keyLongs_a.ext E166
    have F_width_a := F_width_a.ext E166
    have V_b166 : Arv Z h166 b166 k166 .int (3 : Int32) [(.int (0 : Int32)), (.int (0 : Int32)), (.int (0 : Int32))] (.int (0 : Int32)) := (Arv.new A166 (by decide)).pad (pad_rep [] (.int (0 : Int32)) 3)
    refine own_to (mkF m 29 #[rv a, rv aS, iv 3, iv wd, iv pl, iv wb, .unset, .unset, .unset] [(.ref b166), (.ref a)]) st166 ?_
    obtain ⟨T167, h167, X167, e167, W167, st167⟩ := putF X166 hx hZ hown (host := "") (Or.inl (own_w hw 30 rfl)) Via.refl e166 F_slotLongs_a E_a (Or.inr ⟨(own_w hw 31 rfl), rfl, hnm⟩) (own_w hw 4 rfl) (ty := (.array .int)) (by decide) rfl rfl (g := (mkF m 29 #[rv a, rv aS, iv 3, iv wd, iv pl, iv wb, .unset, .unset, .unset] [(.ref b166), (.ref a)])) rfl rfl (hb hby own_d80)
    refine own_to (mkF m 32 #[rv a, rv aS, iv 3, iv wd, iv pl, iv wb, .unset, .unset, .unset] []) st167 ?_
    have N167 := Fr.snoc X167 N165 ge_a
    have tmp167 : Fld Z h167 a "com/example/gramstead/gramstead/estimation/RecordLayout" "slotLongs" "[I" (.ref b166) := F_slotLongs_a.same W167
    have OL := OL.wr W167 ge_a
    have KP := KP.wr W167 (Or.inl (List.mem_of_getElem? (i := 0) rfl))
    have E_a := E_a.wr W167
    have F_slotShifts_a := F_slotShifts_a.other W167 (Or.inr (slot_ne (Or.inr (own_w hw 33 rfl)) (Or.inr (own_w hw 31 rfl)) (by decide) (t := (.array .int)) (t' := (.array .int)) (by decide) (by decide)))
    have F_orderMask_a := F_orderMask_a.other W167 (Or.inr (slot_ne (Or.inr (own_w hw 37 rfl)) (Or.inr (own_w hw 31 rfl)) (by decide) (t := .long) (t' := (.array .int)) (by decide) (by decide)))
    have F_orderShift_a := F_orderShift_a.other W167 (Or.inr (slot_ne (Or.inr (own_w hw 39 rfl)) (Or.inr (own_w hw 31 rfl)) (by decide) (t := .int) (t' := (.array .int)) (by decide) (by decide)))
    have F_keyLongs_a := F_keyLongs_a.other W167 (Or.inr (slot_ne (Or.inr (own_w hw 41 rfl)) (Or.inr (own_w hw 31 rfl)) (by decide) (t := .int) (t' := (.array .int)) (by decide) (by decide)))
    have F_width_a := F_width_a.other W167 (Or.inr (slot_ne (Or.inr (own_w hw 43 rfl)) (Or.inr (own_w hw 31 rfl)) (by decide) (t := .int) (t' := (.array .int)) (by decide) (by decide)))
    have V_b166 := V_b166.other W167 (Ne.symm ne_a_b166)
    have F_slotLongs_a := tmp167
    refine own_aln 33 X167 hx (hb hby own_d81) rfl rfl rfl ?_
    refine own_iln 34 X167 hx (hb hby own_d82) rfl rfl ?_
    obtain ⟨T168, h168, k168, X168, e168, E168, A168, B168, st168⟩ := newPE X167 hx hZ (own_w hw 29 rfl) e167 (g := (mkF m 34 #[rv a, rv aS, iv 3, iv wd, iv pl, iv wb, .unset, .unset, .unset] [(.int (3 : Int32)), (.ref a)])) rfl (hb hby own_d83) rfl (by decide) (cap := 3) (by decide) (by decide) (by decide) (by decide) (ad := "[I") (by decide)
    obtain ⟨b168, g168⟩ : ∃ z, z = h167.size := ⟨_, rfl⟩
    rw [← g168] at A168 B168 st168
    have sz_b168 : h0.size ≤ b168 := Nat.le_trans KP.1 (Nat.le_of_eq g168.symm)
    have ge_b168 : n0 ≤ b168 := Nat.le_trans Z0 sz_b168
    have ne_a_b168 : a ≠ b168 := Nat.ne_of_lt (Nat.lt_of_lt_of_le E_a.lt (Nat.le_of_eq g168.symm))
    have ne_b166_b168 : b166 ≠ b168 := Nat.ne_of_lt (Nat.lt_of_lt_of_le V_b166.lt (Nat.le_of_eq g168.symm))
    have OL := OL.ext E168
    have KP := KP.ext E168
    have E_a := E_a.ext E168
    have F_slotLongs_a := F_slotLongs_a.ext E168
    have F_slotShifts_a := F_slotShifts_a.ext E168
    have F_orderMask_a := F_orderMask_a.ext E168
    have F_orderShift_a := F_orderShift_a.ext E168
    have F_keyLongs_a := F_keyLongs_a.ext E168
    have F_width_a := F_width_a.ext E168
    have V_b166 := V_b166.ext E168
    have V_b168 : Arv Z h168 b168 k168 .int (3 : Int32) [(.int (0 : Int32)), (.int (0 : Int32)), (.int (0 : Int32))] (.int (0 : Int32)) := (Arv.new A168 (by decide)).pad (pad_rep [] (.int (0 : Int32)) 3)
    refine own_to (mkF m 36 #[rv a, rv aS, iv 3, iv wd, iv pl, iv wb, .unset, .unset, .unset] [(.ref b168), (.ref a)]) st168 ?_
    obtain ⟨T169, h169, X169, e169, W169, st169⟩ := putF X168 hx hZ hown (host := "") (Or.inl (own_w hw 32 rfl)) Via.refl e168 F_slotShifts_a E_a (Or.inr ⟨(own_w hw 33 rfl), rfl, hnm⟩) (own_w hw 4 rfl) (ty := (.array .int)) (by decide) rfl rfl (g := (mkF m 36 #[rv a, rv aS, iv 3, iv wd, iv pl, iv wb, .unset, .unset, .unset] [(.ref b168), (.ref a)])) rfl rfl (hb hby own_d84)
    refine own_to (mkF m 39 #[rv a, rv aS, iv 3, iv wd, iv pl, iv wb, .unset, .unset, .unset] []) st169 ?_
    have N169 := Fr.snoc X169 N167 ge_a
    have tmp169 : Fld Z h169 a "com/example/gramstead/gramstead/estimation/RecordLayout" "slotShifts" "[I" (.ref b168) := F_slotShifts_a.same W169
    have OL := OL.wr W169 ge_a
    have KP := KP.wr W169 (Or.inl (List.mem_of_getElem? (i := 0) rfl))
    have E_a := E_a.wr W169
    have F_slotLongs_a := F_slotLongs_a.other W169 (Or.inr (slot_ne (Or.inr (own_w hw 31 rfl)) (Or.inr (own_w hw 33 rfl)) (by decide) (t := (.array .int)) (t' := (.array .int)) (by decide) (by decide)))
    have F_orderMask_a := F_orderMask_a.other W169 (Or.inr (slot_ne (Or.inr (own_w hw 37 rfl)) (Or.inr (own_w hw 33 rfl)) (by decide) (t := .long) (t' := (.array .int)) (by decide) (by decide)))
    have F_orderShift_a := F_orderShift_a.other W169 (Or.inr (slot_ne (Or.inr (own_w hw 39 rfl)) (Or.inr (own_w hw 33 rfl)) (by decide) (t := .int) (t' := (.array .int)) (by decide) (by decide)))
    have F_keyLongs_a := F_keyLongs_a.other W169 (Or.inr (slot_ne (Or.inr (own_w hw 41 rfl)) (Or.inr (own_w hw 33 rfl)) (by decide) (t := .int) (t' := (.array .int)) (by decide) (by decide)))
    have F_width_a := F_width_a.other W169 (Or.inr (slot_ne (Or.inr (own_w hw 43 rfl)) (Or.inr (own_w hw 33 rfl)) (by decide) (t := .int) (t' := (.array .int)) (by decide) (by decide)))
    have V_b166 := V_b166.other W169 (Ne.symm ne_a_b166)
    have V_b168 := V_b168.other W169 (Ne.symm ne_a_b168)
    have F_slotShifts_a := tmp169
    refine own_ic 40 0 X169 hx (hb hby own_d85) rfl rfl ?_
    refine own_is 42 #[rv a, rv aS, iv 3, iv wd, iv pl, iv wb, iv 0, .unset, .unset] X169 hx (hb hby own_d86) rfl rfl ?_
    refine own_bi 44 63 X169 hx (hb hby own_d87) rfl rfl ?_
    refine own_is 46 #[rv a, rv aS, iv 3, iv wd, iv pl, iv wb, iv 0, iv 63, .unset] X169 hx (hb hby own_d88) rfl rfl ?_
    refine own_aln 47 X169 hx (hb hby own_d89) rfl rfl rfl ?_
    obtain ⟨T170, X170, e170, st170⟩ := getS2 X169 hx hZ hown (host := "") (Or.inl (own_w hw 34 rfl)) Via.refl e169 (SC.ext OL.2) (g := (mkF m 47 #[rv a, rv aS, iv 3, iv wd, iv pl, iv wb, iv 0, iv 63, .unset] [(.ref aS)])) rfl (hb hby own_d90)
    refine own_to (mkF m 50 #[rv a, rv aS, iv 3, iv wd, iv pl, iv wb, iv 0, iv 63, .unset] [(.ref aC), (.ref aS)]) st170 ?_
    refine own_to (T' := T170) (mkF m 79 #[rv a, rv aS, iv 3, iv wd, iv pl, iv wb, iv 0, iv 63, .unset] []) (fun _ k => Jvm.RoadKit.acmp (g := (mkF m 50 #[rv a, rv aS, iv 3, iv wd, iv pl, iv wb, iv 0, iv 63, .unset] [(.ref aC), (.ref aS)])) X170 hx rfl rfl rfl (pc0 := 50) (pc' := 79) (same := false) rfl (hb hby own_d91) rfl (decide_eq_false fun q => ne_aS_aC (Value.ref.inj q)) (by decide) (by decide) k) ?_
    refine own_aln 80 X170 hx (hb hby own_d149) rfl rfl rfl ?_
    refine own_to (T' := T170) (mkF m 81 #[rv a, rv aS, iv 3, iv wd, iv pl, iv wb, iv 0, iv 63, .unset] [(.long (0 : Int64)), (.ref a)]) (fun _ k => XS.lconst X170.here hx rfl (hb hby own_d150) k) ?_
    obtain ⟨T171, h171, X171, e171, W171, st171⟩ := putF X170 hx hZ hown (host := "") (Or.inl (own_w hw 36 rfl)) Via.refl e170 F_orderMask_a E_a (Or.inr ⟨(own_w hw 37 rfl), rfl, hnm⟩) (own_w hw 4 rfl) (ty := .long) (by decide) rfl rfl (g := (mkF m 81 #[rv a, rv aS, iv 3, iv wd, iv pl, iv wb, iv 0, iv 63, .unset] [(.long (0 : Int64)), (.ref a)])) rfl rfl (hb hby own_d151)
    refine own_to (mkF m 84 #[rv a, rv aS, iv 3, iv wd, iv pl, iv wb, iv 0, iv 63, .unset] []) st171 ?_
    have N171 := Fr.snoc X171 N169 ge_a
    have tmp171 : Fld Z h171 a "com/example/gramstead/gramstead/estimation/RecordLayout" "orderMask" "J" (.long (0 : Int64)) := F_orderMask_a.same W171
    have OL := OL.wr W171 ge_a
    have KP := KP.wr W171 (Or.inl (List.mem_of_getElem? (i := 0) rfl))
    have E_a := E_a.wr W171
    have F_slotLongs_a := F_slotLongs_a.other W171 (Or.inr (slot_ne (Or.inr (own_w hw 31 rfl)) (Or.inr (own_w hw 37 rfl)) (by decide) (t := (.array .int)) (t' := .long) (by decide) (by decide)))
    have F_slotShifts_a := F_slotShifts_a.other W171 (Or.inr (slot_ne (Or.inr (own_w hw 33 rfl)) (Or.inr (own_w hw 37 rfl)) (by decide) (t := (.array .int)) (t' := .long) (by decide) (by decide)))
    have F_orderShift_a := F_orderShift_a.other W171 (Or.inr (slot_ne (Or.inr (own_w hw 39 rfl)) (Or.inr (own_w hw 37 rfl)) (by decide) (t := .int) (t' := .long) (by decide) (by decide)))
    have F_keyLongs_a := F_keyLongs_a.other W171 (Or.inr (slot_ne (Or.inr (own_w hw 41 rfl)) (Or.inr (own_w hw 37 rfl)) (by decide) (t := .int) (t' := .long) (by decide) (by decide)))
    have F_width_a := F_width_a.other W171 (Or.inr (slot_ne (Or.inr (own_w hw 43 rfl)) (Or.inr (own_w hw 37 rfl)) (by decide) (t := .int) (t' := .long) (by decide) (by decide)))
    have V_b166 := V_b166.other W171 (Ne.symm ne_a_b166)
    have V_b168 := V_b168.other W171 (Ne.symm ne_a_b168)
    have F_orderMask_a := tmp171
    refine own_aln 85 X171 hx (hb hby own_d107) rfl rfl rfl ?_
    refine own_il 87 X171 hx (hb hby own_d108) rfl rfl ?_
    obtain ⟨T172, h172, X172, e172, W172, st172⟩ := putF X171 hx hZ hown (host := "") (Or.inl (own_w hw 38 rfl)) Via.refl e171 F_orderShift_a E_a (Or.inr ⟨(own_w hw 39 rfl), rfl, hnm⟩) (own_w hw 4 rfl) (ty := .int) (by decide) rfl rfl (g := (mkF m 87 #[rv a, rv aS, iv 3, iv wd, iv pl, iv wb, iv 0, iv 63, .unset] [(.int (63 : Int32)), (.ref a)])) rfl rfl (hb hby own_d109)
    refine own_to (mkF m 90 #[rv a, rv aS, iv 3, iv wd, iv pl, iv wb, iv 0, iv 63, .unset] []) st172 ?_
    have N172 := Fr.snoc X172 N171 ge_a
    have tmp172 : Fld Z h172 a "com/example/gramstead/gramstead/estimation/RecordLayout" "orderShift" "I" (.int (63 : Int32)) := F_orderShift_a.same W172
    have OL := OL.wr W172 ge_a
    have KP := KP.wr W172 (Or.inl (List.mem_of_getElem? (i := 0) rfl))
    have E_a := E_a.wr W172
    have F_slotLongs_a := F_slotLongs_a.other W172 (Or.inr (slot_ne (Or.inr (own_w hw 31 rfl)) (Or.inr (own_w hw 39 rfl)) (by decide) (t := (.array .int)) (t' := .int) (by decide) (by decide)))
    have F_slotShifts_a := F_slotShifts_a.other W172 (Or.inr (slot_ne (Or.inr (own_w hw 33 rfl)) (Or.inr (own_w hw 39 rfl)) (by decide) (t := (.array .int)) (t' := .int) (by decide) (by decide)))
    have F_orderMask_a := F_orderMask_a.other W172 (Or.inr (slot_ne (Or.inr (own_w hw 37 rfl)) (Or.inr (own_w hw 39 rfl)) (by decide) (t := .long) (t' := .int) (by decide) (by decide)))
    have F_keyLongs_a := F_keyLongs_a.other W172 (Or.inr (slot_ne (Or.inr (own_w hw 41 rfl)) (Or.inr (own_w hw 39 rfl)) (by decide) (t := .int) (t' := .int) (by decide) (by decide)))
    have F_width_a := F_width_a.other W172 (Or.inr (slot_ne (Or.inr (own_w hw 43 rfl)) (Or.inr (own_w hw 39 rfl)) (by decide) (t := .int) (t' := .int) (by decide) (by decide)))
    have V_b166 := V_b166.other W172 (Ne.symm ne_a_b166)
    have V_b168 := V_b168.other W172 (Ne.symm ne_a_b168)
    have F_orderShift_a := tmp172
    refine own_ic 91 0 X172 hx (hb hby own_d110) rfl rfl ?_
    refine own_is 93 #[rv a, rv aS, iv 3, iv wd, iv pl, iv wb, iv 0, iv 63, iv 0] X172 hx (hb hby own_d111) rfl rfl ?_
    refine own_il 95 X172 hx (hb hby own_d112) rfl rfl ?_
    refine own_iln 96 X172 hx (hb hby own_d113) rfl rfl ?_
    refine own_icN 99 X172 hx (hb hby own_d114) (tlt (by decide : (0 : Int32) < (3 : Int32))).2.1 rfl ?_
    refine own_il 101 X172 hx (hb hby own_d115) rfl rfl ?_
    refine own_il 103 X172 hx (hb hby own_d116) rfl rfl ?_
    refine own_icY 113 X172 hx (hb hby own_d117) (flt (own_ge (63 : Int32) 63 rfl (by decide) hb2)).2.1 (by decide) (by decide) ?_
    have hl0 : 0 ≤ (0 : Int32).toInt ∧ (0 : Int32).toInt ≤ 0 := by decide
    refine own_il 115 X172 hx (hb hby own_d118) rfl rfl ?_
    refine own_il 117 X172 hx (hb hby own_d119) rfl rfl ?_
    refine own_isub 118 X172 hx (hb hby own_d120) rfl rfl ?_
    refine own_is 120 #[rv a, rv aS, iv 3, iv wd, iv pl, iv wb, iv 0, iv ((63 : Int32) - wb), iv 0] X172 hx (hb hby own_d121) rfl rfl ?_
    refine own_aln 121 X172 hx (hb hby own_d122) rfl rfl rfl ?_
    obtain ⟨T173, X173, e173, st173⟩ := getF X172 hx hZ hown (host := "") (Or.inl (own_w hw 30 rfl)) Via.refl e172 F_slotLongs_a (g := (mkF m 121 #[rv a, rv aS, iv 3, iv wd, iv pl, iv wb, iv 0, iv ((63 : Int32) - wb), iv 0] [(.ref a)])) rfl rfl (hb hby own_d123)
    refine own_to (mkF m 124 #[rv a, rv aS, iv 3, iv wd, iv pl, iv wb, iv 0, iv ((63 : Int32) - wb), iv 0] [(.ref b166)]) st173 ?_
    refine own_il 126 X173 hx (hb hby own_d124) rfl rfl ?_
    refine own_il 128 X173 hx (hb hby own_d125) rfl rfl ?_
    obtain ⟨cl174, Ar174, q174, S174, M174, H174, G174⟩ := id V_b166
    obtain ⟨T174, h174, X174, e174, W174, st174⟩ := stI X173 hx hZ e173 Ar174 (j := (0 : Int32)) (inb_of S174 ⟨by decide, by decide⟩) (g := (mkF m 128 #[rv a, rv aS, iv 3, iv wd, iv pl, iv wb, iv 0, iv ((63 : Int32) - wb), iv 0] [(.int (0 : Int32)), (.int (0 : Int32)), (.ref b166)])) rfl rfl (hb hby own_d126)
    refine own_to (mkF m 129 #[rv a, rv aS, iv 3, iv wd, iv pl, iv wb, iv 0, iv ((63 : Int32) - wb), iv 0] []) st174 ?_
    have N174 := Fr.snoc X174 N172 ge_b166
    have tmp174 : Arv Z h174 b166 k166 .int (3 : Int32) [(.int (0 : Int32)), (.int (0 : Int32)), (.int (0 : Int32))] (.int (0 : Int32)) := Arv.set Ar174 q174 S174 M174 H174 G174 rfl W174 0 rfl (Nat.le_of_ble_eq_true rfl)
    have OL := OL.wr W174 ge_b166
    have KP := KP.wr W174 (Or.inr sz_b166)
    have E_a := E_a.wr W174
    have F_slotLongs_a := F_slotLongs_a.other W174 (Or.inl ne_a_b166)
    have F_slotShifts_a := F_slotShifts_a.other W174 (Or.inl ne_a_b166)
    have F_keyLongs_a := F_keyLongs_a.other W174 (Or.inl ne_a_b166)
    have F_width_a := F_width_a.other W174 (Or.inl ne_a_b166)
    have V_b168 := V_b168.other W174 (Ne.symm ne_b166_b168)
    have V_b166 := tmp174
    refine own_aln 130 X174 hx (hb hby own_d127) rfl rfl rfl ?_
    obtain ⟨T175, X175, e175, st175⟩ := getF X174 hx hZ hown (host := "") (Or.inl (own_w hw 32 rfl)) Via.refl e174 F_slotShifts_a (g := (mkF m 130 #[rv a, rv aS, iv 3, iv wd, iv pl, iv wb, iv 0, iv ((63 : Int32) - wb), iv 0] [(.ref a)])) rfl rfl (hb hby own_d128)
    refine own_to (mkF m 133 #[rv a, rv aS, iv 3, iv wd, iv pl, iv wb, iv 0, iv ((63 : Int32) - wb), iv 0] [(.ref b168)]) st175 ?_
    refine own_il 135 X175 hx (hb hby own_d129) rfl rfl ?_
    refine own_il 137 X175 hx (hb hby own_d130) rfl rfl ?_
    obtain ⟨cl176, Ar176, q176, S176, M176, H176, G176⟩ := id V_b168
    obtain ⟨T176, h176, X176, e176, W176, st176⟩ := stI X175 hx hZ e175 Ar176 (j := (0 : Int32)) (inb_of S176 ⟨by decide, by decide⟩) (g := (mkF m 137 #[rv a, rv aS, iv 3, iv wd, iv pl, iv wb, iv 0, iv ((63 : Int32) - wb), iv 0] [(.int ((63 : Int32) - wb)), (.int (0 : Int32)), (.ref b168)])) rfl rfl (hb hby own_d131)
    refine own_to (mkF m 138 #[rv a, rv aS, iv 3, iv wd, iv pl, iv wb, iv 0, iv ((63 : Int32) - wb), iv 0] []) st176 ?_
    have N176 := Fr.snoc X176 N174 ge_b168
    have tmp176 : Arv Z h176 b168 k168 .int (3 : Int32) [(.int ((63 : Int32) - wb)), (.int (0 : Int32)), (.int (0 : Int32))] (.int (0 : Int32)) := Arv.set Ar176 q176 S176 M176 H176 G176 rfl W176 0 rfl (Nat.le_of_ble_eq_true rfl)
    have OL := OL.wr W176 ge_b168
    have KP := KP.wr W176 (Or.inr sz_b168)
    have E_a := E_a.wr W176
    have F_slotLongs_a := F_slotLongs_a.other W176 (Or.inl ne_a_b168)
    have F_slotShifts_a := F_slotShifts_a.other W176 (Or.inl ne_a_b168)
    have F_keyLongs_a := F_keyLongs_a.other W176 (Or.inl ne_a_b168)
    have F_width_a := F_width_a.other W176 (Or.inl ne_a_b168)
    have V_b166 := V_b166.other W176 ne_b166_b168
    have V_b168 := tmp176
    refine own_inc 141 #[rv a, rv aS, iv 3, iv wd, iv pl, iv wb, iv 0, iv ((63 : Int32) - wb), iv 1] X176 hx (hb hby own_d132) rfl rfl rfl ?_
    refine own_go 93 X176 hx (hb hby own_d133) (by decide) (by decide) ?_
    refine own_il 95 X176 hx (hb hby own_d112) rfl rfl ?_
    refine own_iln 96 X176 hx (hb hby own_d113) rfl rfl ?_
    refine own_icN 99 X176 hx (hb hby own_d114) (tlt (by decide : (1 : Int32) < (3 : Int32))).2.1 rfl ?_
    refine own_il 101 X176 hx (hb hby own_d115) rfl rfl ?_
    refine own_il 103 X176 hx (hb hby own_d116) rfl rfl ?_
    suffices jn177 : ∀ lg1 : Int32, (((63 : Int32) - wb) < wb → lg1 = ((0 : Int32) + (1 : Int32))) → (¬ ((63 : Int32) - wb) < wb → lg1 = (0 : Int32)) → ∀ sh1 : Int32, (((63 : Int32) - wb) < wb → sh1 = (63 : Int32)) → (¬ ((63 : Int32) - wb) < wb → sh1 = ((63 : Int32) - wb)) → own_E p e below (own_Fin s (own_QCS Z a aC aS (3 : Int32) wd pl h0 n0) ({ frames := 2, cells := 2, slots := 8, locals := 40 } : Room).cells ({ frames := 2, cells := 2, slots := 8, locals := 40 } : Room).slots) T176 (mkF m 113 #[rv a, rv aS, iv 3, iv wd, iv pl, iv wb, iv lg1, iv sh1, iv 1] []) from by
      by_cases hj1 : ((63 : Int32) - wb) < wb
      · refine own_icN 106 X176 hx (hb hby own_d117) (tlt hj1).2.1 rfl ?_
        refine own_inc 109 #[rv a, rv aS, iv 3, iv wd, iv pl, iv wb, iv ((0 : Int32) + (1 : Int32)), iv ((63 : Int32) - wb), iv 1] X176 hx (hb hby own_d146) rfl rfl rfl ?_
        refine own_bi 111 63 X176 hx (hb hby own_d147) rfl rfl ?_
        refine own_is 113 #[rv a, rv aS, iv 3, iv wd, iv pl, iv wb, iv ((0 : Int32) + (1 : Int32)), iv 63, iv 1] X176 hx (hb hby own_d148) rfl rfl ?_
        exact jn177 ((0 : Int32) + (1 : Int32)) (fun _ => rfl) (fun q => absurd hj1 q) (63 : Int32) (fun _ => rfl) (fun q => absurd hj1 q)
      · refine own_icY 113 X176 hx (hb hby own_d117) (flt hj1).2.1 (by decide) (by decide) ?_
        exact jn177 (0 : Int32) (fun q => absurd q hj1) (fun _ => rfl) ((63 : Int32) - wb) (fun q => absurd q hj1) (fun _ => rfl)
    intro lg1 hlg1t hlg1f sh1 hsh1t hsh1f
    have hl1 := own_incr (k := 0) (by decide) hl0 hlg1t hlg1f
    refine own_il 115 X176 hx (hb hby own_d118) rfl rfl ?_
    refine own_il 117 X176 hx (hb hby own_d119) rfl rfl ?_
    refine own_isub 118 X176 hx (hb hby own_d120) rfl rfl ?_
    refine own_is 120 #[rv a, rv aS, iv 3, iv wd, iv pl, iv wb, iv lg1, iv (sh1 - wb), iv 1] X176 hx (hb hby own_d121) rfl rfl ?_
    refine own_aln 121 X176 hx (hb hby own_d122) rfl rfl rfl ?_
    obtain ⟨T178, X178, e178, st178⟩ := getF X176 hx hZ hown (host := "") (Or.inl (own_w hw 30 rfl)) Via.refl e176 F_slotLongs_a (g := (mkF m 121 #[rv a, rv aS, iv 3, iv wd, iv pl, iv wb, iv lg1, iv (sh1 - wb), iv 1] [(.ref a)])) rfl rfl (hb hby own_d123)
    refine own_to (mkF m 124 #[rv a, rv aS, iv 3, iv wd, iv pl, iv wb, iv lg1, iv (sh1 - wb), iv 1] [(.ref b166)]) st178 ?_
    refine own_il 126 X178 hx (hb hby own_d124) rfl rfl ?_
    refine own_il 128 X178 hx (hb hby own_d125) rfl rfl ?_
    obtain ⟨cl179, Ar179, q179, S179, M179, H179, G179⟩ := id V_b166
    obtain ⟨T179, h179, X179, e179, W179, st179⟩ := stI X178 hx hZ e178 Ar179 (j := (1 : Int32)) (inb_of S179 ⟨by decide, by decide⟩) (g := (mkF m 128 #[rv a, rv aS, iv 3, iv wd, iv pl, iv wb, iv lg1, iv (sh1 - wb), iv 1] [(.int lg1), (.int (1 : Int32)), (.ref b166)])) rfl rfl (hb hby own_d126)
    refine own_to (mkF m 129 #[rv a, rv aS, iv 3, iv wd, iv pl, iv wb, iv lg1, iv (sh1 - wb), iv 1] []) st179 ?_
    have N179 := Fr.snoc X179 N176 ge_b166
    have tmp179 : Arv Z h179 b166 k166 .int (3 : Int32) [(.int (0 : Int32)), (.int lg1), (.int (0 : Int32))] (.int (0 : Int32)) := Arv.set Ar179 q179 S179 M179 H179 G179 rfl W179 1 rfl (Nat.le_of_ble_eq_true rfl)
    have OL := OL.wr W179 ge_b166
    have KP := KP.wr W179 (Or.inr sz_b166)
    have E_a := E_a.wr W179
    have F_slotLongs_a := F_slotLongs_a.other W179 (Or.inl ne_a_b166)
    have F_slotShifts_a := F_slotShifts_a.other W179 (Or.inl ne_a_b166)
    have F_keyLongs_a := F_keyLongs_a.other W179 (Or.inl ne_a_b166)
    have F_width_a := F_width_a.other W179 (Or.inl ne_a_b166)
    have V_b168 := V_b168.other W179 (Ne.symm ne_b166_b168)
    have V_b166 := tmp179
    refine own_aln 130 X179 hx (hb hby own_d127) rfl rfl rfl ?_
    obtain ⟨T180, X180, e180, st180⟩ := getF X179 hx hZ hown (host := "") (Or.inl (own_w hw 32 rfl)) Via.refl e179 F_slotShifts_a (g := (mkF m 130 #[rv a, rv aS, iv 3, iv wd, iv pl, iv wb, iv lg1, iv (sh1 - wb), iv 1] [(.ref a)])) rfl rfl (hb hby own_d128)
    refine own_to (mkF m 133 #[rv a, rv aS, iv 3, iv wd, iv pl, iv wb, iv lg1, iv (sh1 - wb), iv 1] [(.ref b168)]) st180 ?_
    refine own_il 135 X180 hx (hb hby own_d129) rfl rfl ?_
    refine own_il 137 X180 hx (hb hby own_d130) rfl rfl ?_
    obtain ⟨cl181, Ar181, q181, S181, M181, H181, G181⟩ := id V_b168
    obtain ⟨T181, h181, X181, e181, W181, st181⟩ := stI X180 hx hZ e180 Ar181 (j := (1 : Int32)) (inb_of S181 ⟨by decide, by decide⟩) (g := (mkF m 137 #[rv a, rv aS, iv 3, iv wd, iv pl, iv wb, iv lg1, iv (sh1 - wb), iv 1] [(.int (sh1 - wb)), (.int (1 : Int32)), (.ref b168)])) rfl rfl (hb hby own_d131)
    refine own_to (mkF m 138 #[rv a, rv aS, iv 3, iv wd, iv pl, iv wb, iv lg1, iv (sh1 - wb), iv 1] []) st181 ?_
    have N181 := Fr.snoc X181 N179 ge_b168
    have tmp181 : Arv Z h181 b168 k168 .int (3 : Int32) [(.int ((63 : Int32) - wb)), (.int (sh1 - wb)), (.int (0 : Int32))] (.int (0 : Int32)) := Arv.set Ar181 q181 S181 M181 H181 G181 rfl W181 1 rfl (Nat.le_of_ble_eq_true rfl)
    have OL := OL.wr W181 ge_b168
    have KP := KP.wr W181 (Or.inr sz_b168)
    have E_a := E_a.wr W181
    have F_slotLongs_a := F_slotLongs_a.other W181 (Or.inl ne_a_b168)
    have F_slotShifts_a := F_slotShifts_a.other W181 (Or.inl ne_a_b168)
    have F_keyLongs_a := F_keyLongs_a.other W181 (Or.inl ne_a_b168)
    have F_width_a := F_width_a.other W181 (Or.inl ne_a_b168)
    have V_b166 := V_b166.other W181 ne_b166_b168
    have V_b168 := tmp181
    refine own_inc 141 #[rv a, rv aS, iv 3, iv wd, iv pl, iv wb, iv lg1, iv (sh1 - wb), iv 2] X181 hx (hb hby own_d132) rfl rfl rfl ?_
    refine own_go 93 X181 hx (hb hby own_d133) (by decide) (by decide) ?_
    refine own_il 95 X181 hx (hb hby own_d112) rfl rfl ?_
    refine own_iln 96 X181 hx (hb hby own_d113) rfl rfl ?_
    refine own_icN 99 X181 hx (hb hby own_d114) (tlt (by decide : (2 : Int32) < (3 : Int32))).2.1 rfl ?_
    refine own_il 101 X181 hx (hb hby own_d115) rfl rfl ?_
    refine own_il 103 X181 hx (hb hby own_d116) rfl rfl ?_
    suffices jn182 : ∀ lg2 : Int32, ((sh1 - wb) < wb → lg2 = (lg1 + (1 : Int32))) → (¬ (sh1 - wb) < wb → lg2 = lg1) → ∀ sh2 : Int32, ((sh1 - wb) < wb → sh2 = (63 : Int32)) → (¬ (sh1 - wb) < wb → sh2 = (sh1 - wb)) → own_E p e below (own_Fin s (own_QCS Z a aC aS (3 : Int32) wd pl h0 n0) ({ frames := 2, cells := 2, slots := 8, locals := 40 } : Room).cells ({ frames := 2, cells := 2, slots := 8, locals := 40 } : Room).slots) T181 (mkF m 113 #[rv a, rv aS, iv 3, iv wd, iv pl, iv wb, iv lg2, iv sh2, iv 2] []) from by
      by_cases hj2 : (sh1 - wb) < wb
      · refine own_icN 106 X181 hx (hb hby own_d117) (tlt hj2).2.1 rfl ?_
        refine own_inc 109 #[rv a, rv aS, iv 3, iv wd, iv pl, iv wb, iv (lg1 + (1 : Int32)), iv (sh1 - wb), iv 2] X181 hx (hb hby own_d146) rfl rfl rfl ?_
        refine own_bi 111 63 X181 hx (hb hby own_d147) rfl rfl ?_
        refine own_is 113 #[rv a, rv aS, iv 3, iv wd, iv pl, iv wb, iv (lg1 + (1 : Int32)), iv 63, iv 2] X181 hx (hb hby own_d148) rfl rfl ?_
        exact jn182 (lg1 + (1 : Int32)) (fun _ => rfl) (fun q => absurd hj2 q) (63 : Int32) (fun _ => rfl) (fun q => absurd hj2 q)
      · refine own_icY 113 X181 hx (hb hby own_d117) (flt hj2).2.1 (by decide) (by decide) ?_
        exact jn182 lg1 (fun q => absurd q hj2) (fun _ => rfl) (sh1 - wb) (fun q => absurd q hj2) (fun _ => rfl)
    intro lg2 hlg2t hlg2f sh2 hsh2t hsh2f
    have hl2 := own_incr (k := 1) (by decide) hl1 hlg2t hlg2f
    refine own_il 115 X181 hx (hb hby own_d118) rfl rfl ?_
    refine own_il 117 X181 hx (hb hby own_d119) rfl rfl ?_
    refine own_isub 118 X181 hx (hb hby own_d120) rfl rfl ?_
    refine own_is 120 #[rv a, rv aS, iv 3, iv wd, iv pl, iv wb, iv lg2, iv (sh2 - wb), iv 2] X181 hx (hb hby own_d121) rfl rfl ?_
    refine own_aln 121 X181 hx (hb hby own_d122) rfl rfl rfl ?_
    obtain ⟨T183, X183, e183, st183⟩ := getF X181 hx hZ hown (host := "") (Or.inl (own_w hw 30 rfl)) Via.refl e181 F_slotLongs_a (g := (mkF m 121 #[rv a, rv aS, iv 3, iv wd, iv pl, iv wb, iv lg2, iv (sh2 - wb), iv 2] [(.ref a)])) rfl rfl (hb hby own_d123)
    refine own_to (mkF m 124 #[rv a, rv aS, iv 3, iv wd, iv pl, iv wb, iv lg2, iv (sh2 - wb), iv 2] [(.ref b166)]) st183 ?_
    refine own_il 126 X183 hx (hb hby own_d124) rfl rfl ?_
    refine own_il 128 X183 hx (hb hby own_d125) rfl rfl ?_
    obtain ⟨cl184, Ar184, q184, S184, M184, H184, G184⟩ := id V_b166
    obtain ⟨T184, h184, X184, e184, W184, st184⟩ := stI X183 hx hZ e183 Ar184 (j := (2 : Int32)) (inb_of S184 ⟨by decide, by decide⟩) (g := (mkF m 128 #[rv a, rv aS, iv 3, iv wd, iv pl, iv wb, iv lg2, iv (sh2 - wb), iv 2] [(.int lg2), (.int (2 : Int32)), (.ref b166)])) rfl rfl (hb hby own_d126)
    refine own_to (mkF m 129 #[rv a, rv aS, iv 3, iv wd, iv pl, iv wb, iv lg2, iv (sh2 - wb), iv 2] []) st184 ?_
    have N184 := Fr.snoc X184 N181 ge_b166
    have tmp184 : Arv Z h184 b166 k166 .int (3 : Int32) [(.int (0 : Int32)), (.int lg1), (.int lg2)] (.int (0 : Int32)) := Arv.set Ar184 q184 S184 M184 H184 G184 rfl W184 2 rfl (Nat.le_of_ble_eq_true rfl)
    have OL := OL.wr W184 ge_b166
    have KP := KP.wr W184 (Or.inr sz_b166)
    have E_a := E_a.wr W184
    have F_slotLongs_a := F_slotLongs_a.other W184 (Or.inl ne_a_b166)
    have F_slotShifts_a := F_slotShifts_a.other W184 (Or.inl ne_a_b166)
    have F_keyLongs_a := F_keyLongs_a.other W184 (Or.inl ne_a_b166)
    have F_width_a := F_width_a.other W184 (Or.inl ne_a_b166)
    have V_b168 := V_b168.other W184 (Ne.symm ne_b166_b168)
    have V_b166 := tmp184
    refine own_aln 130 X184 hx (hb hby own_d127) rfl rfl rfl ?_
    obtain ⟨T185, X185, e185, st185⟩ := getF X184 hx hZ hown (host := "") (Or.inl (own_w hw 32 rfl)) Via.refl e184 F_slotShifts_a (g := (mkF m 130 #[rv a, rv aS, iv 3, iv wd, iv pl, iv wb, iv lg2, iv (sh2 - wb), iv 2] [(.ref a)])) rfl rfl (hb hby own_d128)
    refine own_to (mkF m 133 #[rv a, rv aS, iv 3, iv wd, iv pl, iv wb, iv lg2, iv (sh2 - wb), iv 2] [(.ref b168)]) st185 ?_
    refine own_il 135 X185 hx (hb hby own_d129) rfl rfl ?_
    refine own_il 137 X185 hx (hb hby own_d130) rfl rfl ?_
    obtain ⟨cl186, Ar186, q186, S186, M186, H186, G186⟩ := id V_b168
    obtain ⟨T186, h186, X186, e186, W186, st186⟩ := stI X185 hx hZ e185 Ar186 (j := (2 : Int32)) (inb_of S186 ⟨by decide, by decide⟩) (g := (mkF m 137 #[rv a, rv aS, iv 3, iv wd, iv pl, iv wb, iv lg2, iv (sh2 - wb), iv 2] [(.int (sh2 - wb)), (.int (2 : Int32)), (.ref b168)])) rfl rfl (hb hby own_d131)
    refine own_to (mkF m 138 #[rv a, rv aS, iv 3, iv wd, iv pl, iv wb, iv lg2, iv (sh2 - wb), iv 2] []) st186 ?_
    have N186 := Fr.snoc X186 N184 ge_b168
    have tmp186 : Arv Z h186 b168 k168 .int (3 : Int32) [(.int ((63 : Int32) - wb)), (.int (sh1 - wb)), (.int (sh2 - wb))] (.int (0 : Int32)) := Arv.set Ar186 q186 S186 M186 H186 G186 rfl W186 2 rfl (Nat.le_of_ble_eq_true rfl)
    have OL := OL.wr W186 ge_b168
    have KP := KP.wr W186 (Or.inr sz_b168)
    have E_a := E_a.wr W186
    have F_slotLongs_a := F_slotLongs_a.other W186 (Or.inl ne_a_b168)
    have F_slotShifts_a := F_slotShifts_a.other W186 (Or.inl ne_a_b168)
    have F_keyLongs_a := F_keyLongs_a.other W186 (Or.inl ne_a_b168)
    have F_width_a := F_width_a.other W186 (Or.inl ne_a_b168)
    have V_b166 := V_b166.other W186 ne_b166_b168
    have V_b168 := tmp186
    refine own_inc 141 #[rv a, rv aS, iv 3, iv wd, iv pl, iv wb, iv lg2, iv (sh2 - wb), iv 3] X186 hx (hb hby own_d132) rfl rfl rfl ?_
    refine own_go 93 X186 hx (hb hby own_d133) (by decide) (by decide) ?_
    refine own_il 95 X186 hx (hb hby own_d112) rfl rfl ?_
    refine own_iln 96 X186 hx (hb hby own_d113) rfl rfl ?_
    refine own_icY 144 X186 hx (hb hby own_d114) (flt (by decide : ¬ ((3 : Int32) < (3 : Int32)))).2.1 (by decide) (by decide) ?_
    refine own_aln 145 X186 hx (hb hby own_d134) rfl rfl rfl ?_
    refine own_il 147 X186 hx (hb hby own_d135) rfl rfl ?_
    refine own_ic 148 1 X186 hx (hb hby own_d136) rfl rfl ?_
    refine own_iadd 149 X186 hx (hb hby own_d137) rfl rfl ?_
    obtain ⟨T187, h187, X187, e187, W187, st187⟩ := putF X186 hx hZ hown (host := "") (Or.inl (own_w hw 40 rfl)) Via.refl e186 F_keyLongs_a E_a (Or.inr ⟨(own_w hw 41 rfl), rfl, hnm⟩) (own_w hw 4 rfl) (ty := .int) (by decide) rfl rfl (g := (mkF m 149 #[rv a, rv aS, iv 3, iv wd, iv pl, iv wb, iv lg2, iv (sh2 - wb), iv 3] [(.int (lg2 + (1 : Int32))), (.ref a)])) rfl rfl (hb hby own_d138)
    refine own_to (mkF m 152 #[rv a, rv aS, iv 3, iv wd, iv pl, iv wb, iv lg2, iv (sh2 - wb), iv 3] []) st187 ?_
    have N187 := Fr.snoc X187 N186 ge_a
    have tmp187 : Fld Z h187 a "com/example/gramstead/gramstead/estimation/RecordLayout" "keyLongs" "I" (.int (lg2 + (1 : Int32))) := F_keyLongs_a.same W187
    have OL := OL.wr W187 ge_a
    have KP := KP.wr W187 (Or.inl (List.mem_of_getElem? (i := 0) rfl))
    have E_a := E_a.wr W187
    have F_width_a := F_width_a.other W187 (Or.inr (slot_ne (Or.inr (own_w hw 43 rfl)) (Or.inr (own_w hw 41 rfl)) (by decide) (t := .int) (t' := .int) (by decide) (by decide)))
    have F_keyLongs_a := tmp187
    refine own_aln 153 X187 hx (hb hby own_d139) rfl rfl rfl ?_
    refine own_aln 154 X187 hx (hb hby own_d140) rfl rfl rfl ?_
    obtain ⟨T188, X188, e188, st188⟩ := getF X187 hx hZ hown (host := "") (Or.inl (own_w hw 40 rfl)) Via.refl e187 F_keyLongs_a (g := (mkF m 154 #[rv a, rv aS, iv 3, iv wd, iv pl, iv wb, iv lg2, iv (sh2 - wb), iv 3] [(.ref a), (.ref a)])) rfl rfl (hb hby own_d141)
    refine own_to (mkF m 157 #[rv a, rv aS, iv 3, iv wd, iv pl, iv wb, iv lg2, iv (sh2 - wb), iv 3] [(.int (lg2 + (1 : Int32))), (.ref a)]) st188 ?_
    refine own_il 159 X188 hx (hb hby own_d142) rfl rfl ?_
    refine own_iadd 160 X188 hx (hb hby own_d143) rfl rfl ?_
    obtain ⟨T189, h189, X189, e189, W189, st189⟩ := putF X188 hx hZ hown (host := "") (Or.inl (own_w hw 42 rfl)) Via.refl e188 F_width_a E_a (Or.inr ⟨(own_w hw 43 rfl), rfl, hnm⟩) (own_w hw 4 rfl) (ty := .int) (by decide) rfl rfl (g := (mkF m 160 #[rv a, rv aS, iv 3, iv wd, iv pl, iv wb, iv lg2, iv (sh2 - wb), iv 3] [(.int ((lg2 + (1 : Int32)) + pl)), (.ref a)])) rfl rfl (hb hby own_d144)
    refine own_to (mkF m 163 #[rv a, rv aS, iv 3, iv wd, iv pl, iv wb, iv lg2, iv (sh2 - wb), iv 3] []) st189 ?_
    have N189 := Fr.snoc X189 N187 ge_a
    have tmp189 : Fld Z h189 a "com/example/gramstead/gramstead/estimation/RecordLayout" "width" "I" (.int ((lg2 + (1 : Int32)) + pl)) := F_width_a.same W189
    have OL := OL.wr W189 ge_a
    have KP := KP.wr W189 (Or.inl (List.mem_of_getElem? (i := 0) rfl))
    have E_a := E_a.wr W189
    have F_keyLongs_a := F_keyLongs_a.other W189 (Or.inr (slot_ne (Or.inr (own_w hw 41 rfl)) (Or.inr (own_w hw 43 rfl)) (by decide) (t := .int) (t' := .int) (by decide) (by decide)))
    have F_width_a := tmp189
    exact own_ret0 X189 hx Bd.returns hlk (hb hby own_d145) (by decide) (by decide) (by rw [e189]; exact ⟨rfl, N189, KP, E_a, (lg2 + (1 : Int32)), (own_kl (k := 2) (by decide) hl2).1, (own_kl (k := 2) (by decide) hl2).2, F_keyLongs_a, F_width_a⟩)
  · subst q
    refine own_aln 1 X0 hx (hb hby own_d62) rfl rfl rfl ?_
    obtain ⟨T190, X190, e190, st190⟩ := initO X0 hx hZ hown (own_w hw 10 rfl) (own_w hw 11 rfl) (own_w hw 12 rfl) e0 (g := (mkF m 1 #[rv a, rv aS, iv 4, iv wd, iv pl, .unset, .unset, .unset, .unset] [(.ref a)])) rfl (by rw [hml]; rfl) rfl (hb hby own_d63) (by decide) (W := 0) (by show 2 * 0 + _ ≤ _; exact Nat.le_of_eq rfl) (by decide)
    refine own_to (mkF m 4 #[rv a, rv aS, iv 4, iv wd, iv pl, .unset, .unset, .unset, .unset] []) st190 ?_
    refine own_aln 5 X190 hx (hb hby own_d64) rfl rfl rfl ?_
    refine own_aln 6 X190 hx (hb hby own_d65) rfl rfl rfl ?_
    obtain ⟨T191, h191, X191, e191, W191, st191⟩ := putF X190 hx hZ hown (host := "") (Or.inl (own_w hw 13 rfl)) Via.refl e190 F_order_a E_a (Or.inr ⟨(own_w hw 14 rfl), rfl, hnm⟩) (own_w hw 4 rfl) (ty := (.object "com/example/gramstead/gramstead/estimation/RecordOrder")) (by decide) rfl rfl (g := (mkF m 6 #[rv a, rv aS, iv 4, iv wd, iv pl, .unset, .unset, .unset, .unset] [(.ref aS), (.ref a)])) rfl rfl (hb hby own_d66)
    refine own_to (mkF m 9 #[rv a, rv aS, iv 4, iv wd, iv pl, .unset, .unset, .unset, .unset] []) st191 ?_
    have N191 := Fr.snoc X191 N0 ge_a
    have tmp191 : Fld Z h191 a "com/example/gramstead/gramstead/estimation/RecordLayout" "order" "Lcom/example/gramstead/gramstead/estimation/RecordOrder;" (.ref aS) := F_order_a.same W191
    have OL := OL.wr W191 ge_a
    have KP := KP.wr W191 (Or.inl (List.mem_of_getElem? (i := 0) rfl))
    have E_a := E_a.wr W191
    have F_wordMask_a := F_wordMask_a.other W191 (Or.inr (slot_ne (Or.inr (own_w hw 28 rfl)) (Or.inr (own_w hw 14 rfl)) (by decide) (t := .long) (t' := (.object "com/example/gramstead/gramstead/estimation/RecordOrder")) (by decide) (by decide)))
    have F_slotLongs_a := F_slotLongs_a.other W191 (Or.inr (slot_ne (Or.inr (own_w hw 31 rfl)) (Or.inr (own_w hw 14 rfl)) (by decide) (t := (.array .int)) (t' := (.object "com/example/gramstead/gramstead/estimation/RecordOrder")) (by decide) (by decide)))
    have F_slotShifts_a := F_slotShifts_a.other W191 (Or.inr (slot_ne (Or.inr (own_w hw 33 rfl)) (Or.inr (own_w hw 14 rfl)) (by decide) (t := (.array .int)) (t' := (.object "com/example/gramstead/gramstead/estimation/RecordOrder")) (by decide) (by decide)))
    have F_orderMask_a := F_orderMask_a.other W191 (Or.inr (slot_ne (Or.inr (own_w hw 37 rfl)) (Or.inr (own_w hw 14 rfl)) (by decide) (t := .long) (t' := (.object "com/example/gramstead/gramstead/estimation/RecordOrder")) (by decide) (by decide)))
    have F_orderShift_a := F_orderShift_a.other W191 (Or.inr (slot_ne (Or.inr (own_w hw 39 rfl)) (Or.inr (own_w hw 14 rfl)) (by decide) (t := .int) (t' := (.object "com/example/gramstead/gramstead/estimation/RecordOrder")) (by decide) (by decide)))
    have F_keyLongs_a := F_keyLongs_a.other W191 (Or.inr (slot_ne (Or.inr (own_w hw 41 rfl)) (Or.inr (own_w hw 14 rfl)) (by decide) (t := .int) (t' := (.object "com/example/gramstead/gramstead/estimation/RecordOrder")) (by decide) (by decide)))
    have F_width_a := F_width_a.other W191 (Or.inr (slot_ne (Or.inr (own_w hw 43 rfl)) (Or.inr (own_w hw 14 rfl)) (by decide) (t := .int) (t' := (.object "com/example/gramstead/gramstead/estimation/RecordOrder")) (by decide) (by decide)))
    have F_order_a := tmp191
    refine own_iln 10 X191 hx (hb hby own_d67) rfl rfl ?_
    obtain ⟨_, T192, Lc192, X192, hQ192, st192⟩ := own_callS X191 hx (y := (⟨"com/example/gramstead/gramstead/estimation/RecordLayout", "bitsFor", "(I)I"⟩ : MethodName)) hown (mvT hZ (own_w hw 15 rfl)) (mvT hZ (own_w hw 16 rfl)) (mvT hZ (own_w hw 5 rfl)) (mvT hZ (own_w hw 17 rfl)) (by decide) (backOf (W := 0) (own_rmB l Z a0 hw [] wd h191 n0 (Nat.le_trans Z0 KP.1) OL hwd) hZ (own_w hw 17 rfl) (own_w hw 5 rfl) (by decide) (by decide)) (g := (mkF m 10 #[rv a, rv aS, iv 4, iv wd, iv pl, .unset, .unset, .unset, .unset] [(.int wd)])) rfl (by rw [hml]; rfl) (argsL := [(.int wd)]) (rest := []) (lenOf own_pd0 rfl) rfl (by show 2 * 0 + _ ≤ _; exact Nat.le_of_eq rfl) (hb hby own_d68) rfl e191 (kc := 0) (ks := 0) rfl rfl (by decide) (by decide)
    obtain ⟨wb, rfl, hb1, hb2, N192q, e192⟩ := hQ192
    have N192 := Fr.app N191 N192q
    refine own_to (mkF m 13 #[rv a, rv aS, iv 4, iv wd, iv pl, .unset, .unset, .unset, .unset] [(.int wb)]) st192 ?_
    refine own_is 15 #[rv a, rv aS, iv 4, iv wd, iv pl, iv wb, .unset, .unset, .unset] X192 hx (hb hby own_d69) rfl rfl ?_
    refine own_aln 16 X192 hx (hb hby own_d70) rfl rfl rfl ?_
    refine own_to (T' := T192) (mkF m 17 #[rv a, rv aS, iv 4, iv wd, iv pl, iv wb, .unset, .unset, .unset] [(.long (1 : Int64)), (.ref a)]) (fun _ k => XS.lconst X192.here hx rfl (hb hby own_d71) k) ?_
    refine own_il 19 X192 hx (hb hby own_d72) rfl rfl ?_
    refine own_to (T' := T192) (mkF m 20 #[rv a, rv aS, iv 4, iv wd, iv pl, iv wb, .unset, .unset, .unset] [(.long ((1 : Int64) <<< (wb &&& 0x3f).toInt64)), (.ref a)]) (fun _ k => XS.lshl X192.here hx rfl (hb hby own_d73) rfl k) ?_
    refine own_to (T' := T192) (mkF m 21 #[rv a, rv aS, iv 4, iv wd, iv pl, iv wb, .unset, .unset, .unset] [(.long (1 : Int64)), (.long ((1 : Int64) <<< (wb &&& 0x3f).toInt64)), (.ref a)]) (fun _ k => XS.lconst X192.here hx rfl (hb hby own_d74) k) ?_
    refine own_to (T' := T192) (mkF m 22 #[rv a, rv aS, iv 4, iv wd, iv pl, iv wb, .unset, .unset, .unset] [(.long (((1 : Int64) <<< (wb &&& 0x3f).toInt64) - (1 : Int64))), (.ref a)]) (fun _ k => XS.lsub X192.here hx rfl (hb hby own_d75) rfl k) ?_
    obtain ⟨T193, h193, X193, e193, W193, st193⟩ := putF X192 hx hZ hown (host := "") (Or.inl (own_w hw 27 rfl)) Via.refl e192 F_wordMask_a E_a (Or.inr ⟨(own_w hw 28 rfl), rfl, hnm⟩) (own_w hw 4 rfl) (ty := .long) (by decide) rfl rfl (g := (mkF m 22 #[rv a, rv aS, iv 4, iv wd, iv pl, iv wb, .unset, .unset, .unset] [(.long (((1 : Int64) <<< (wb &&& 0x3f).toInt64) - (1 : Int64))), (.ref a)])) rfl rfl (hb hby own_d76)
    refine own_to (mkF m 25 #[rv a, rv aS, iv 4, iv wd, iv pl, iv wb, .unset, .unset, .unset] []) st193 ?_
    have N193 := Fr.snoc X193 N192 ge_a
    have tmp193 : Fld Z h193 a "com/example/gramstead/gramstead/estimation/RecordLayout" "wordMask" "J" (.long (((1 : Int64) <<< (wb &&& 0x3f).toInt64) - (1 : Int64))) := F_wordMask_a.same W193
    have OL := OL.wr W193 ge_a
    have KP := KP.wr W193 (Or.inl (List.mem_of_getElem? (i := 0) rfl))
    have E_a := E_a.wr W193
    have F_slotLongs_a := F_slotLongs_a.other W193 (Or.inr (slot_ne (Or.inr (own_w hw 31 rfl)) (Or.inr (own_w hw 28 rfl)) (by decide) (t := (.array .int)) (t' := .long) (by decide) (by decide)))
    have F_slotShifts_a := F_slotShifts_a.other W193 (Or.inr (slot_ne (Or.inr (own_w hw 33 rfl)) (Or.inr (own_w hw 28 rfl)) (by decide) (t := (.array .int)) (t' := .long) (by decide) (by decide)))
    have F_orderMask_a := F_orderMask_a.other W193 (Or.inr (slot_ne (Or.inr (own_w hw 37 rfl)) (Or.inr (own_w hw 28 rfl)) (by decide) (t := .long) (t' := .long) (by decide) (by decide)))
    have F_orderShift_a := F_orderShift_a.other W193 (Or.inr (slot_ne (Or.inr (own_w hw 39 rfl)) (Or.inr (own_w hw 28 rfl)) (by decide) (t := .int) (t' := .long) (by decide) (by decide)))
    have F_keyLongs_a := F_keyLongs_a.other W193 (Or.inr (slot_ne (Or.inr (own_w hw 41 rfl)) (Or.inr (own_w hw 28 rfl)) (by decide) (t := .int) (t' := .long) (by decide) (by decide)))
    have F_width_a := F_width_a.other W193 (Or.inr (slot_ne (Or.inr (own_w hw 43 rfl)) (Or.inr (own_w hw 28 rfl)) (by decide) (t := .int) (t' := .long) (by decide) (by decide)))
    have F_wordMask_a := tmp193
    refine own_aln 26 X193 hx (hb hby own_d77) rfl rfl rfl ?_
    refine own_iln 27 X193 hx (hb hby own_d78) rfl rfl ?_
    obtain ⟨T194, h194, k194, X194, e194, E194, A194, B194, st194⟩ := newPE X193 hx hZ (own_w hw 29 rfl) e193 (g := (mkF m 27 #[rv a, rv aS, iv 4, iv wd, iv pl, iv wb, .unset, .unset, .unset] [(.int (4 : Int32)), (.ref a)])) rfl (hb hby own_d79) rfl (by decide) (cap := 4) (by decide) (by decide) (by decide) (by decide) (ad := "[I") (by decide)
    obtain ⟨b194, g194⟩ : ∃ z, z = h193.size := ⟨_, rfl⟩
    rw [← g194] at A194 B194 st194
    have sz_b194 : h0.size ≤ b194 := Nat.le_trans KP.1 (Nat.le_of_eq g194.symm)
    have ge_b194 : n0 ≤ b194 := Nat.le_trans Z0 sz_b194
    have ne_a_b194 : a ≠ b194 := Nat.ne_of_lt (Nat.lt_of_lt_of_le E_a.lt (Nat.le_of_eq g194.symm))
    have OL := OL.ext E194
    have KP := KP.ext E194
    have E_a := E_a.ext E194
    have F_slotLongs_a := F_slotLongs_a.ext E194
    have F_slotShifts_a := F_slotShifts_a.ext E194
    have F_orderMask_a := F_orderMask_a.ext E194
    have F_orderShift_a := F_orderShift_a.ext E194
    have F_keyLongs_a := F_keyLongs_a.ext E194
    have F_width_a := F_width_a.ext E194
    have V_b194 : Arv Z h194 b194 k194 .int (4 : Int32) [(.int (0 : Int32)), (.int (0 : Int32)), (.int (0 : Int32)), (.int (0 : Int32))] (.int (0 : Int32)) := (Arv.new A194 (by decide)).pad (pad_rep [] (.int (0 : Int32)) 4)
    refine own_to (mkF m 29 #[rv a, rv aS, iv 4, iv wd, iv pl, iv wb, .unset, .unset, .unset] [(.ref b194), (.ref a)]) st194 ?_
    obtain ⟨T195, h195, X195, e195, W195, st195⟩ := putF X194 hx hZ hown (host := "") (Or.inl (own_w hw 30 rfl)) Via.refl e194 F_slotLongs_a E_a (Or.inr ⟨(own_w hw 31 rfl), rfl, hnm⟩) (own_w hw 4 rfl) (ty := (.array .int)) (by decide) rfl rfl (g := (mkF m 29 #[rv a, rv aS, iv 4, iv wd, iv pl, iv wb, .unset, .unset, .unset] [(.ref b194), (.ref a)])) rfl rfl (hb hby own_d80)
    refine own_to (mkF m 32 #[rv a, rv aS, iv 4, iv wd, iv pl, iv wb, .unset, .unset, .unset] []) st195 ?_
    have N195 := Fr.snoc X195 N193 ge_a
    have tmp195 : Fld Z h195 a "com/example/gramstead/gramstead/estimation/RecordLayout" "slotLongs" "[I" (.ref b194) := F_slotLongs_a.same W195
    have OL := OL.wr W195 ge_a
    have KP := KP.wr W195 (Or.inl (List.mem_of_getElem? (i := 0) rfl))
    have E_a := E_a.wr W195
    have F_slotShifts_a := F_slotShifts_a.other W195 (Or.inr (slot_ne (Or.inr (own_w hw 33 rfl)) (Or.inr (own_w hw 31 rfl)) (by decide) (t := (.array .int)) (t' := (.array .int)) (by decide) (by decide)))
    have F_orderMask_a := F_orderMask_a.other W195 (Or.inr (slot_ne (Or.inr (own_w hw 37 rfl)) (Or.inr (own_w hw 31 rfl)) (by decide) (t := .long) (t' := (.array .int)) (by decide) (by decide)))
    have F_orderShift_a := F_orderShift_a.other W195 (Or.inr (slot_ne (Or.inr (own_w hw 39 rfl)) (Or.inr (own_w hw 31 rfl)) (by decide) (t := .int) (t' := (.array .int)) (by decide) (by decide)))
    have F_keyLongs_a := F_keyLongs_a.other W195 (Or.inr (slot_ne (Or.inr (own_w hw 41 rfl)) (Or.inr (own_w hw 31 rfl)) (by decide) (t := .int) (t' := (.array .int)) (by decide) (by decide)))
    have F_width_a := F_width_a.other W195 (Or.inr (slot_ne (Or.inr (own_w hw 43 rfl)) (Or.inr (own_w hw 31 rfl)) (by decide) (t := .int) (t' := (.array .int)) (by decide) (by decide)))
    have V_b194 := V_b194.other W195 (Ne.symm ne_a_b194)
    have F_slotLongs_a := tmp195
    refine own_aln 33 X195 hx (hb hby own_d81) rfl rfl rfl ?_
    refine own_iln 34 X195 hx (hb hby own_d82) rfl rfl ?_
    obtain ⟨T196, h196, k196, X196, e196, E196, A196, B196, st196⟩ := newPE X195 hx hZ (own_w hw 29 rfl) e195 (g := (mkF m 34 #[rv a, rv aS, iv 4, iv wd, iv pl, iv wb, .unset, .unset, .unset] [(.int (4 : Int32)), (.ref a)])) rfl (hb hby own_d83) rfl (by decide) (cap := 4) (by decide) (by decide) (by decide) (by decide) (ad := "[I") (by decide)
    obtain ⟨b196, g196⟩ : ∃ z, z = h195.size := ⟨_, rfl⟩
    rw [← g196] at A196 B196 st196
    have sz_b196 : h0.size ≤ b196 := Nat.le_trans KP.1 (Nat.le_of_eq g196.symm)
    have ge_b196 : n0 ≤ b196 := Nat.le_trans Z0 sz_b196
    have ne_a_b196 : a ≠ b196 := Nat.ne_of_lt (Nat.lt_of_lt_of_le E_a.lt (Nat.le_of_eq g196.symm))
    have ne_b194_b196 : b194 ≠ b196 := Nat.ne_of_lt (Nat.lt_of_lt_of_le V_b194.lt (Nat.le_of_eq g196.symm))
    have OL := OL.ext E196
    have KP := KP.ext E196
    have E_a := E_a.ext E196
    have F_slotLongs_a := F_slotLongs_a.ext E196
    have F_slotShifts_a := F_slotShifts_a.ext E196
    have F_orderMask_a := F_orderMask_a.ext E196
    have F_orderShift_a := F_orderShift_a.ext E196
    have F_keyLongs_a := F_keyLongs_a.ext E196
    have F_width_a := F_width_a.ext E196
    have V_b194 := V_b194.ext E196
    have V_b196 : Arv Z h196 b196 k196 .int (4 : Int32) [(.int (0 : Int32)), (.int (0 : Int32)), (.int (0 : Int32)), (.int (0 : Int32))] (.int (0 : Int32)) := (Arv.new A196 (by decide)).pad (pad_rep [] (.int (0 : Int32)) 4)
    refine own_to (mkF m 36 #[rv a, rv aS, iv 4, iv wd, iv pl, iv wb, .unset, .unset, .unset] [(.ref b196), (.ref a)]) st196 ?_
    obtain ⟨T197, h197, X197, e197, W197, st197⟩ := putF X196 hx hZ hown (host := "") (Or.inl (own_w hw 32 rfl)) Via.refl e196 F_slotShifts_a E_a (Or.inr ⟨(own_w hw 33 rfl), rfl, hnm⟩) (own_w hw 4 rfl) (ty := (.array .int)) (by decide) rfl rfl (g := (mkF m 36 #[rv a, rv aS, iv 4, iv wd, iv pl, iv wb, .unset, .unset, .unset] [(.ref b196), (.ref a)])) rfl rfl (hb hby own_d84)
    refine own_to (mkF m 39 #[rv a, rv aS, iv 4, iv wd, iv pl, iv wb, .unset, .unset, .unset] []) st197 ?_
    have N197 := Fr.snoc X197 N195 ge_a
    have tmp197 : Fld Z h197 a "com/example/gramstead/gramstead/estimation/RecordLayout" "slotShifts" "[I" (.ref b196) := F_slotShifts_a.same W197
    have OL := OL.wr W197 ge_a
    have KP := KP.wr W197 (Or.inl (List.mem_of_getElem? (i := 0) rfl))
    have E_a := E_a.wr W197
    have F_slotLongs_a := F_slotLongs_a.other W197 (Or.inr (slot_ne (Or.inr (own_w hw 31 rfl)) (Or.inr (own_w hw 33 rfl)) (by decide) (t := (.array .int)) (t' := (.array .int)) (by decide) (by decide)))
    have F_orderMask_a := F_orderMask_a.other W197 (Or.inr (slot_ne (Or.inr (own_w hw 37 rfl)) (Or.inr (own_w hw 33 rfl)) (by decide) (t := .long) (t' := (.array .int)) (by decide) (by decide)))
    have F_orderShift_a := F_orderShift_a.other W197 (Or.inr (slot_ne (Or.inr (own_w hw 39 rfl)) (Or.inr (own_w hw 33 rfl)) (by decide) (t := .int) (t' := (.array .int)) (by decide) (by decide)))
    have F_keyLongs_a := F_keyLongs_a.other W197 (Or.inr (slot_ne (Or.inr (own_w hw 41 rfl)) (Or.inr (own_w hw 33 rfl)) (by decide) (t := .int) (t' := (.array .int)) (by decide) (by decide)))
    have F_width_a := F_width_a.other W197 (Or.inr (slot_ne (Or.inr (own_w hw 43 rfl)) (Or.inr (own_w hw 33 rfl)) (by decide) (t := .int) (t' := (.array .int)) (by decide) (by decide)))
    have V_b194 := V_b194.other W197 (Ne.symm ne_a_b194)
    have V_b196 := V_b196.other W197 (Ne.symm ne_a_b196)
    have F_slotShifts_a := tmp197
    refine own_ic 40 0 X197 hx (hb hby own_d85) rfl rfl ?_
    refine own_is 42 #[rv a, rv aS, iv 4, iv wd, iv pl, iv wb, iv 0, .unset, .unset] X197 hx (hb hby own_d86) rfl rfl ?_
    refine own_bi 44 63 X197 hx (hb hby own_d87) rfl rfl ?_
    refine own_is 46 #[rv a, rv aS, iv 4, iv wd, iv pl, iv wb, iv 0, iv 63, .unset] X197 hx (hb hby own_d88) rfl rfl ?_
    refine own_aln 47 X197 hx (hb hby own_d89) rfl rfl rfl ?_
    obtain ⟨T198, X198, e198, st198⟩ := getS2 X197 hx hZ hown (host := "") (Or.inl (own_w hw 34 rfl)) Via.refl e197 (SC.ext OL.2) (g := (mkF m 47 #[rv a, rv aS, iv 4, iv wd, iv pl, iv wb, iv 0, iv 63, .unset] [(.ref aS)])) rfl (hb hby own_d90)
    refine own_to (mkF m 50 #[rv a, rv aS, iv 4, iv wd, iv pl, iv wb, iv 0, iv 63, .unset] [(.ref aC), (.ref aS)]) st198 ?_
    refine own_to (T' := T198) (mkF m 79 #[rv a, rv aS, iv 4, iv wd, iv pl, iv wb, iv 0, iv 63, .unset] []) (fun _ k => Jvm.RoadKit.acmp (g := (mkF m 50 #[rv a, rv aS, iv 4, iv wd, iv pl, iv wb, iv 0, iv 63, .unset] [(.ref aC), (.ref aS)])) X198 hx rfl rfl rfl (pc0 := 50) (pc' := 79) (same := false) rfl (hb hby own_d91) rfl (decide_eq_false fun q => ne_aS_aC (Value.ref.inj q)) (by decide) (by decide) k) ?_
    refine own_aln 80 X198 hx (hb hby own_d149) rfl rfl rfl ?_
    refine own_to (T' := T198) (mkF m 81 #[rv a, rv aS, iv 4, iv wd, iv pl, iv wb, iv 0, iv 63, .unset] [(.long (0 : Int64)), (.ref a)]) (fun _ k => XS.lconst X198.here hx rfl (hb hby own_d150) k) ?_
    obtain ⟨T199, h199, X199, e199, W199, st199⟩ := putF X198 hx hZ hown (host := "") (Or.inl (own_w hw 36 rfl)) Via.refl e198 F_orderMask_a E_a (Or.inr ⟨(own_w hw 37 rfl), rfl, hnm⟩) (own_w hw 4 rfl) (ty := .long) (by decide) rfl rfl (g := (mkF m 81 #[rv a, rv aS, iv 4, iv wd, iv pl, iv wb, iv 0, iv 63, .unset] [(.long (0 : Int64)), (.ref a)])) rfl rfl (hb hby own_d151)
    refine own_to (mkF m 84 #[rv a, rv aS, iv 4, iv wd, iv pl, iv wb, iv 0, iv 63, .unset] []) st199 ?_
    have N199 := Fr.snoc X199 N197 ge_a
    have tmp199 : Fld Z h199 a "com/example/gramstead/gramstead/estimation/RecordLayout" "orderMask" "J" (.long (0 : Int64)) := F_orderMask_a.same W199
    have OL := OL.wr W199 ge_a
    have KP := KP.wr W199 (Or.inl (List.mem_of_getElem? (i := 0) rfl))
    have E_a := E_a.wr W199
    have F_slotLongs_a := F_slotLongs_a.other W199 (Or.inr (slot_ne (Or.inr (own_w hw 31 rfl)) (Or.inr (own_w hw 37 rfl)) (by decide) (t := (.array .int)) (t' := .long) (by decide) (by decide)))
    have F_slotShifts_a := F_slotShifts_a.other W199 (Or.inr (slot_ne (Or.inr (own_w hw 33 rfl)) (Or.inr (own_w hw 37 rfl)) (by decide) (t := (.array .int)) (t' := .long) (by decide) (by decide)))
    have F_orderShift_a := F_orderShift_a.other W199 (Or.inr (slot_ne (Or.inr (own_w hw 39 rfl)) (Or.inr (own_w hw 37 rfl)) (by decide) (t := .int) (t' := .long) (by decide) (by decide)))
    have F_keyLongs_a := F_keyLongs_a.other W199 (Or.inr (slot_ne (Or.inr (own_w hw 41 rfl)) (Or.inr (own_w hw 37 rfl)) (by decide) (t := .int) (t' := .long) (by decide) (by decide)))
    have F_width_a := F_width_a.other W199 (Or.inr (slot_ne (Or.inr (own_w hw 43 rfl)) (Or.inr (own_w hw 37 rfl)) (by decide) (t := .int) (t' := .long) (by decide) (by decide)))
    have V_b194 := V_b194.other W199 (Ne.symm ne_a_b194)
    have V_b196 := V_b196.other W199 (Ne.symm ne_a_b196)
    have F_orderMask_a := tmp199
    refine own_aln 85 X199 hx (hb hby own_d107) rfl rfl rfl ?_
    refine own_il 87 X199 hx (hb hby own_d108) rfl rfl ?_
    obtain ⟨T200, h200, X200, e200, W200, st200⟩ := putF X199 hx hZ hown (host := "") (Or.inl (own_w hw 38 rfl)) Via.refl e199 F_orderShift_a E_a (Or.inr ⟨(own_w hw 39 rfl), rfl, hnm⟩) (own_w hw 4 rfl) (ty := .int) (by decide) rfl rfl (g := (mkF m 87 #[rv a, rv aS, iv 4, iv wd, iv pl, iv wb, iv 0, iv 63, .unset] [(.int (63 : Int32)), (.ref a)])) rfl rfl (hb hby own_d109)
    refine own_to (mkF m 90 #[rv a, rv aS, iv 4, iv wd, iv pl, iv wb, iv 0, iv 63, .unset] []) st200 ?_
    have N200 := Fr.snoc X200 N199 ge_a
    have tmp200 : Fld Z h200 a "com/example/gramstead/gramstead/estimation/RecordLayout" "orderShift" "I" (.int (63 : Int32)) := F_orderShift_a.same W200
    have OL := OL.wr W200 ge_a
    have KP := KP.wr W200 (Or.inl (List.mem_of_getElem? (i := 0) rfl))
    have E_a := E_a.wr W200
    have F_slotLongs_a := F_slotLongs_a.other W200 (Or.inr (slot_ne (Or.inr (own_w hw 31 rfl)) (Or.inr (own_w hw 39 rfl)) (by decide) (t := (.array .int)) (t' := .int) (by decide) (by decide)))
    have F_slotShifts_a := F_slotShifts_a.other W200 (Or.inr (slot_ne (Or.inr (own_w hw 33 rfl)) (Or.inr (own_w hw 39 rfl)) (by decide) (t := (.array .int)) (t' := .int) (by decide) (by decide)))
    have F_orderMask_a := F_orderMask_a.other W200 (Or.inr (slot_ne (Or.inr (own_w hw 37 rfl)) (Or.inr (own_w hw 39 rfl)) (by decide) (t := .long) (t' := .int) (by decide) (by decide)))
    have F_keyLongs_a := F_keyLongs_a.other W200 (Or.inr (slot_ne (Or.inr (own_w hw 41 rfl)) (Or.inr (own_w hw 39 rfl)) (by decide) (t := .int) (t' := .int) (by decide) (by decide)))
    have F_width_a := F_width_a.other W200 (Or.inr (slot_ne (Or.inr (own_w hw 43 rfl)) (Or.inr (own_w hw 39 rfl)) (by decide) (t := .int) (t' := .int) (by decide) (by decide)))
    have V_b194 := V_b194.other W200 (Ne.symm ne_a_b194)
    have V_b196 := V_b196.other W200 (Ne.symm ne_a_b196)
    have F_orderShift_a := tmp200
    refine own_ic 91 0 X200 hx (hb hby own_d110) rfl rfl ?_
    refine own_is 93 #[rv a, rv aS, iv 4, iv wd, iv pl, iv wb, iv 0, iv 63, iv 0] X200 hx (hb hby own_d111) rfl rfl ?_
    refine own_il 95 X200 hx (hb hby own_d112) rfl rfl ?_
    refine own_iln 96 X200 hx (hb hby own_d113) rfl rfl ?_
    refine own_icN 99 X200 hx (hb hby own_d114) (tlt (by decide : (0 : Int32) < (4 : Int32))).2.1 rfl ?_
    refine own_il 101 X200 hx (hb hby own_d115) rfl rfl ?_
    refine own_il 103 X200 hx (hb hby own_d116) rfl rfl ?_
    refine own_icY 113 X200 hx (hb hby own_d117) (flt (own_ge (63 : Int32) 63 rfl (by decide) hb2)).2.1 (by decide) (by decide) ?_
    have hl0 : 0 ≤ (0 : Int32).toInt ∧ (0 : Int32).toInt ≤ 0 := by decide
    refine own_il 115 X200 hx (hb hby own_d118) rfl rfl ?_
    refine own_il 117 X200 hx (hb hby own_d119) rfl rfl ?_
    refine own_isub 118 X200 hx (hb hby own_d120) rfl rfl ?_
    refine own_is 120 #[rv a, rv aS, iv 4, iv wd, iv pl, iv wb, iv 0, iv ((63 : Int32) - wb), iv 0] X200 hx (hb hby own_d121) rfl rfl ?_
    refine own_aln 121 X200 hx (hb hby own_d122) rfl rfl rfl ?_
    obtain ⟨T201, X201, e201, st201⟩ := getF X200 hx hZ hown (host := "") (Or.inl (own_w hw 30 rfl)) Via.refl e200 F_slotLongs_a (g := (mkF m 121 #[rv a, rv aS, iv 4, iv wd, iv pl, iv wb, iv 0, iv ((63 : Int32) - wb), iv 0] [(.ref a)])) rfl rfl (hb hby own_d123)
    refine own_to (mkF m 124 #[rv a, rv aS, iv 4, iv wd, iv pl, iv wb, iv 0, iv ((63 : Int32) - wb), iv 0] [(.ref b194)]) st201 ?_
    refine own_il 126 X201 hx (hb hby own_d124) rfl rfl ?_
    refine own_il 128 X201 hx (hb hby own_d125) rfl rfl ?_
    obtain ⟨cl202, Ar202, q202, S202, M202, H202, G202⟩ := id V_b194
    obtain ⟨T202, h202, X202, e202, W202, st202⟩ := stI X201 hx hZ e201 Ar202 (j := (0 : Int32)) (inb_of S202 ⟨by decide, by decide⟩) (g := (mkF m 128 #[rv a, rv aS, iv 4, iv wd, iv pl, iv wb, iv 0, iv ((63 : Int32) - wb), iv 0] [(.int (0 : Int32)), (.int (0 : Int32)), (.ref b194)])) rfl rfl (hb hby own_d126)
    refine own_to (mkF m 129 #[rv a, rv aS, iv 4, iv wd, iv pl, iv wb, iv 0, iv ((63 : Int32) - wb), iv 0] []) st202 ?_
    have N202 := Fr.snoc X202 N200 ge_b194
    have tmp202 : Arv Z h202 b194 k194 .int (4 : Int32) [(.int (0 : Int32)), (.int (0 : Int32)), (.int (0 : Int32)), (.int (0 : Int32))] (.int (0 : Int32)) := Arv.set Ar202 q202 S202 M202 H202 G202 rfl W202 0 rfl (Nat.le_of_ble_eq_true rfl)
    have OL := OL.wr W202 ge_b194
    have KP := KP.wr W202 (Or.inr sz_b194)
    have E_a := E_a.wr W202
    have F_slotLongs_a := F_slotLongs_a.other W202 (Or.inl ne_a_b194)
    have F_slotShifts_a := F_slotShifts_a.other W202 (Or.inl ne_a_b194)
    have F_keyLongs_a := F_keyLongs_a.other W202 (Or.inl ne_a_b194)
    have F_width_a := F_width_a.other W202 (Or.inl ne_a_b194)
    have V_b196 := V_b196.other W202 (Ne.symm ne_b194_b196)
    have V_b194 := tmp202
    refine own_aln 130 X202 hx (hb hby own_d127) rfl rfl rfl ?_
    obtain ⟨T203, X203, e203, st203⟩ := getF X202 hx hZ hown (host := "") (Or.inl (own_w hw 32 rfl)) Via.refl e202 F_slotShifts_a (g := (mkF m 130 #[rv a, rv aS, iv 4, iv wd, iv pl, iv wb, iv 0, iv ((63 : Int32) - wb), iv 0] [(.ref a)])) rfl rfl (hb hby own_d128)
    refine own_to (mkF m 133 #[rv a, rv aS, iv 4, iv wd, iv pl, iv wb, iv 0, iv ((63 : Int32) - wb), iv 0] [(.ref b196)]) st203 ?_
    refine own_il 135 X203 hx (hb hby own_d129) rfl rfl ?_
    refine own_il 137 X203 hx (hb hby own_d130) rfl rfl ?_
    obtain ⟨cl204, Ar204, q204, S204, M204, H204, G204⟩ := id V_b196
    obtain ⟨T204, h204, X204, e204, W204, st204⟩ := stI X203 hx hZ e203 Ar204 (j := (0 : Int32)) (inb_of S204 ⟨by decide, by decide⟩) (g := (mkF m 137 #[rv a, rv aS, iv 4, iv wd, iv pl, iv wb, iv 0, iv ((63 : Int32) - wb), iv 0] [(.int ((63 : Int32) - wb)), (.int (0 : Int32)), (.ref b196)])) rfl rfl (hb hby own_d131)
    refine own_to (mkF m 138 #[rv a, rv aS, iv 4, iv wd, iv pl, iv wb, iv 0, iv ((63 : Int32) - wb), iv 0] []) st204 ?_
    have N204 := Fr.snoc X204 N202 ge_b196
    have tmp204 : Arv Z h204 b196 k196 .int (4 : Int32) [(.int ((63 : Int32) - wb)), (.int (0 : Int32)), (.int (0 : Int32)), (.int (0 : Int32))] (.int (0 : Int32)) := Arv.set Ar204 q204 S204 M204 H204 G204 rfl W204 0 rfl (Nat.le_of_ble_eq_true rfl)
    have OL := OL.wr W204 ge_b196
    have KP := KP.wr W204 (Or.inr sz_b196)
    have E_a := E_a.wr W204
    have F_slotLongs_a := F_slotLongs_a.other W204 (Or.inl ne_a_b196)
    have F_slotShifts_a := F_slotShifts_a.other W204 (Or.inl ne_a_b196)
    have F_keyLongs_a := F_keyLongs_a.other W204 (Or.inl ne_a_b196)
    have F_width_a := F_width_a.other W204 (Or.inl ne_a_b196)
    have V_b194 := V_b194.other W204 ne_b194_b196
    have V_b196 := tmp204
    refine own_inc 141 #[rv a, rv aS, iv 4, iv wd, iv pl, iv wb, iv 0, iv ((63 : Int32) - wb), iv 1] X204 hx (hb hby own_d132) rfl rfl rfl ?_
    refine own_go 93 X204 hx (hb hby own_d133) (by decide) (by decide) ?_
    refine own_il 95 X204 hx (hb hby own_d112) rfl rfl ?_
    refine own_iln 96 X204 hx (hb hby own_d113) rfl rfl ?_
    refine own_icN 99 X204 hx (hb hby own_d114) (tlt (by decide : (1 : Int32) < (4 : Int32))).2.1 rfl ?_
    refine own_il 101 X204 hx (hb hby own_d115) rfl rfl ?_
    refine own_il 103 X204 hx (hb hby own_d116) rfl rfl ?_
    suffices jn205 : ∀ lg1 : Int32, (((63 : Int32) - wb) < wb → lg1 = ((0 : Int32) + (1 : Int32))) → (¬ ((63 : Int32) - wb) < wb → lg1 = (0 : Int32)) → ∀ sh1 : Int32, (((63 : Int32) - wb) < wb → sh1 = (63 : Int32)) → (¬ ((63 : Int32) - wb) < wb → sh1 = ((63 : Int32) - wb)) → own_E p e below (own_Fin s (own_QCS Z a aC aS (4 : Int32) wd pl h0 n0) ({ frames := 2, cells := 2, slots := 8, locals := 40 } : Room).cells ({ frames := 2, cells := 2, slots := 8, locals := 40 } : Room).slots) T204 (mkF m 113 #[rv a, rv aS, iv 4, iv wd, iv pl, iv wb, iv lg1, iv sh1, iv 1] []) from by
      by_cases hj1 : ((63 : Int32) - wb) < wb
      · refine own_icN 106 X204 hx (hb hby own_d117) (tlt hj1).2.1 rfl ?_
        refine own_inc 109 #[rv a, rv aS, iv 4, iv wd, iv pl, iv wb, iv ((0 : Int32) + (1 : Int32)), iv ((63 : Int32) - wb), iv 1] X204 hx (hb hby own_d146) rfl rfl rfl ?_
        refine own_bi 111 63 X204 hx (hb hby own_d147) rfl rfl ?_
        refine own_is 113 #[rv a, rv aS, iv 4, iv wd, iv pl, iv wb, iv ((0 : Int32) + (1 : Int32)), iv 63, iv 1] X204 hx (hb hby own_d148) rfl rfl ?_
        exact jn205 ((0 : Int32) + (1 : Int32)) (fun _ => rfl) (fun q => absurd hj1 q) (63 : Int32) (fun _ => rfl) (fun q => absurd hj1 q)
      · refine own_icY 113 X204 hx (hb hby own_d117) (flt hj1).2.1 (by decide) (by decide) ?_
        exact jn205 (0 : Int32) (fun q => absurd q hj1) (fun _ => rfl) ((63 : Int32) - wb) (fun q => absurd q hj1) (fun _ => rfl)
    intro lg1 hlg1t hlg1f sh1 hsh1t hsh1f
    have hl1 := own_incr (k := 0) (by decide) hl0 hlg1t hlg1f
    refine own_il 115 X204 hx (hb hby own_d118) rfl rfl ?_
    refine own_il 117 X204 hx (hb hby own_d119) rfl rfl ?_
    refine own_isub 118 X204 hx (hb hby own_d120) rfl rfl ?_
    refine own_is 120 #[rv a, rv aS, iv 4, iv wd, iv pl, iv wb, iv lg1, iv (sh1 - wb), iv 1] X204 hx (hb hby own_d121) rfl rfl ?_
    refine own_aln 121 X204 hx (hb hby own_d122) rfl rfl rfl ?_
    obtain ⟨T206, X206, e206, st206⟩ := getF X204 hx hZ hown (host := "") (Or.inl (own_w hw 30 rfl)) Via.refl e204 F_slotLongs_a (g := (mkF m 121 #[rv a, rv aS, iv 4, iv wd, iv pl, iv wb, iv lg1, iv (sh1 - wb), iv 1] [(.ref a)])) rfl rfl (hb hby own_d123)
    refine own_to (mkF m 124 #[rv a, rv aS, iv 4, iv wd, iv pl, iv wb, iv lg1, iv (sh1 - wb), iv 1] [(.ref b194)]) st206 ?_
    refine own_il 126 X206 hx (hb hby own_d124) rfl rfl ?_
    refine own_il 128 X206 hx (hb hby own_d125) rfl rfl ?_
    obtain ⟨cl207, Ar207, q207, S207, M207, H207, G207⟩ := id V_b194
    obtain ⟨T207, h207, X207, e207, W207, st207⟩ := stI X206 hx hZ e206 Ar207 (j := (1 : Int32)) (inb_of S207 ⟨by decide, by decide⟩) (g := (mkF m 128 #[rv a, rv aS, iv 4, iv wd, iv pl, iv wb, iv lg1, iv (sh1 - wb), iv 1] [(.int lg1), (.int (1 : Int32)), (.ref b194)])) rfl rfl (hb hby own_d126)
    refine own_to (mkF m 129 #[rv a, rv aS, iv 4, iv wd, iv pl, iv wb, iv lg1, iv (sh1 - wb), iv 1] []) st207 ?_
    have N207 := Fr.snoc X207 N204 ge_b194
    have tmp207 : Arv Z h207 b194 k194 .int (4 : Int32) [(.int (0 : Int32)), (.int lg1), (.int (0 : Int32)), (.int (0 : Int32))] (.int (0 : Int32)) := Arv.set Ar207 q207 S207 M207 H207 G207 rfl W207 1 rfl (Nat.le_of_ble_eq_true rfl)
    have OL := OL.wr W207 ge_b194
    have KP := KP.wr W207 (Or.inr sz_b194)
    have E_a := E_a.wr W207
    have F_slotLongs_a := F_slotLongs_a.other W207 (Or.inl ne_a_b194)
    have F_slotShifts_a := F_slotShifts_a.other W207 (Or.inl ne_a_b194)
    have F_keyLongs_a := F_keyLongs_a.other W207 (Or.inl ne_a_b194)
    have F_width_a := F_width_a.other W207 (Or.inl ne_a_b194)
    have V_b196 := V_b196.other W207 (Ne.symm ne_b194_b196)
    have V_b194 := tmp207
    refine own_aln 130 X207 hx (hb hby own_d127) rfl rfl rfl ?_
    obtain ⟨T208, X208, e208, st208⟩ := getF X207 hx hZ hown (host := "") (Or.inl (own_w hw 32 rfl)) Via.refl e207 F_slotShifts_a (g := (mkF m 130 #[rv a, rv aS, iv 4, iv wd, iv pl, iv wb, iv lg1, iv (sh1 - wb), iv 1] [(.ref a)])) rfl rfl (hb hby own_d128)
    refine own_to (mkF m 133 #[rv a, rv aS, iv 4, iv wd, iv pl, iv wb, iv lg1, iv (sh1 - wb), iv 1] [(.ref b196)]) st208 ?_
    refine own_il 135 X208 hx (hb hby own_d129) rfl rfl ?_
    refine own_il 137 X208 hx (hb hby own_d130) rfl rfl ?_
    obtain ⟨cl209, Ar209, q209, S209, M209, H209, G209⟩ := id V_b196
    obtain ⟨T209, h209, X209, e209, W209, st209⟩ := stI X208 hx hZ e208 Ar209 (j := (1 : Int32)) (inb_of S209 ⟨by decide, by decide⟩) (g := (mkF m 137 #[rv a, rv aS, iv 4, iv wd, iv pl, iv wb, iv lg1, iv (sh1 - wb), iv 1] [(.int (sh1 - wb)), (.int (1 : Int32)), (.ref b196)])) rfl rfl (hb hby own_d131)
    refine own_to (mkF m 138 #[rv a, rv aS, iv 4, iv wd, iv pl, iv wb, iv lg1, iv (sh1 - wb), iv 1] []) st209 ?_
    have N209 := Fr.snoc X209 N207 ge_b196
    have tmp209 : Arv Z h209 b196 k196 .int (4 : Int32) [(.int ((63 : Int32) - wb)), (.int (sh1 - wb)), (.int (0 : Int32)), (.int (0 : Int32))] (.int (0 : Int32)) := Arv.set Ar209 q209 S209 M209 H209 G209 rfl W209 1 rfl (Nat.le_of_ble_eq_true rfl)
    have OL := OL.wr W209 ge_b196
    have KP := KP.wr W209 (Or.inr sz_b196)
    have E_a := E_a.wr W209
    have F_slotLongs_a := F_slotLongs_a.other W209 (Or.inl ne_a_b196)
    have F_slotShifts_a := F_slotShifts_a.other W209 (Or.inl ne_a_b196)
    have F_keyLongs_a := F_keyLongs_a.other W209 (Or.inl ne_a_b196)
    have F_width_a := F_width_a.other W209 (Or.inl ne_a_b196)
    have V_b194 := V_b194.other W209 ne_b194_b196
    have V_b196 := tmp209
    refine own_inc 141 #[rv a, rv aS, iv 4, iv wd, iv pl, iv wb, iv lg1, iv (sh1 - wb), iv 2] X209 hx (hb hby own_d132) rfl rfl rfl ?_
    refine own_go 93 X209 hx (hb hby own_d133) (by decide) (by decide) ?_
    refine own_il 95 X209 hx (hb hby own_d112) rfl rfl ?_
    refine own_iln 96 X209 hx (hb hby own_d113) rfl rfl ?_
    refine own_icN 99 X209 hx (hb hby own_d114) (tlt (by decide : (2 : Int32) < (4 : Int32))).2.1 rfl ?_
    refine own_il 101 X209 hx (hb hby own_d115) rfl rfl ?_
    refine own_il 103 X209 hx (hb hby own_d116) rfl rfl ?_
    suffices jn210 : ∀ lg2 : Int32, ((sh1 - wb) < wb → lg2 = (lg1 + (1 : Int32))) → (¬ (sh1 - wb) < wb → lg2 = lg1) → ∀ sh2 : Int32, ((sh1 - wb) < wb → sh2 = (63 : Int32)) → (¬ (sh1 - wb) < wb → sh2 = (sh1 - wb)) → own_E p e below (own_Fin s (own_QCS Z a aC aS (4 : Int32) wd pl h0 n0) ({ frames := 2, cells := 2, slots := 8, locals := 40 } : Room).cells ({ frames := 2, cells := 2, slots := 8, locals := 40 } : Room).slots) T209 (mkF m 113 #[rv a, rv aS, iv 4, iv wd, iv pl, iv wb, iv lg2, iv sh2, iv 2] []) from by
      by_cases hj2 : (sh1 - wb) < wb
      · refine own_icN 106 X209 hx (hb hby own_d117) (tlt hj2).2.1 rfl ?_
        refine own_inc 109 #[rv a, rv aS, iv 4, iv wd, iv pl, iv wb, iv (lg1 + (1 : Int32)), iv (sh1 - wb), iv 2] X209 hx (hb hby own_d146) rfl rfl rfl ?_
        refine own_bi 111 63 X209 hx (hb hby own_d147) rfl rfl ?_
        refine own_is 113 #[rv a, rv aS, iv 4, iv wd, iv pl, iv wb, iv (lg1 + (1 : Int32)), iv 63, iv 2] X209 hx (hb hby own_d148) rfl rfl ?_
        exact jn210 (lg1 + (1 : Int32)) (fun _ => rfl) (fun q => absurd hj2 q) (63 : Int32) (fun _ => rfl) (fun q => absurd hj2 q)
      · refine own_icY 113 X209 hx (hb hby own_d117) (flt hj2).2.1 (by decide) (by decide) ?_
        exact jn210 lg1 (fun q => absurd q hj2) (fun _ => rfl) (sh1 - wb) (fun q => absurd q hj2) (fun _ => rfl)
    intro lg2 hlg2t hlg2f sh2 hsh2t hsh2f
    have hl2 := own_incr (k := 1) (by decide) hl1 hlg2t hlg2f
    refine own_il 115 X209 hx (hb hby own_d118) rfl rfl ?_
    refine own_il 117 X209 hx (hb hby own_d119) rfl rfl ?_
    refine own_isub 118 X209 hx (hb hby own_d120) rfl rfl ?_
    refine own_is 120 #[rv a, rv aS, iv 4, iv wd, iv pl, iv wb, iv lg2, iv (sh2 - wb), iv 2] X209 hx (hb hby own_d121) rfl rfl ?_
    refine own_aln 121 X209 hx (hb hby own_d122) rfl rfl rfl ?_
    obtain ⟨T211, X211, e211, st211⟩ := getF X209 hx hZ hown (host := "") (Or.inl (own_w hw 30 rfl)) Via.refl e209 F_slotLongs_a (g := (mkF m 121 #[rv a, rv aS, iv 4, iv wd, iv pl, iv wb, iv lg2, iv (sh2 - wb), iv 2] [(.ref a)])) rfl rfl (hb hby own_d123)
    refine own_to (mkF m 124 #[rv a, rv aS, iv 4, iv wd, iv pl, iv wb, iv lg2, iv (sh2 - wb), iv 2] [(.ref b194)]) st211 ?_
    refine own_il 126 X211 hx (hb hby own_d124) rfl rfl ?_
    refine own_il 128 X211 hx (hb hby own_d125) rfl rfl ?_
    obtain ⟨cl212, Ar212, q212, S212, M212, H212, G212⟩ := id V_b194
    obtain ⟨T212, h212, X212, e212, W212, st212⟩ := stI X211 hx hZ e211 Ar212 (j := (2 : Int32)) (inb_of S212 ⟨by decide, by decide⟩) (g := (mkF m 128 #[rv a, rv aS, iv 4, iv wd, iv pl, iv wb, iv lg2, iv (sh2 - wb), iv 2] [(.int lg2), (.int (2 : Int32)), (.ref b194)])) rfl rfl (hb hby own_d126)
    refine own_to (mkF m 129 #[rv a, rv aS, iv 4, iv wd, iv pl, iv wb, iv lg2, iv (sh2 - wb), iv 2] []) st212 ?_
    have N212 := Fr.snoc X212 N209 ge_b194
    have tmp212 : Arv Z h212 b194 k194 .int (4 : Int32) [(.int (0 : Int32)), (.int lg1), (.int lg2), (.int (0 : Int32))] (.int (0 : Int32)) := Arv.set Ar212 q212 S212 M212 H212 G212 rfl W212 2 rfl (Nat.le_of_ble_eq_true rfl)
    have OL := OL.wr W212 ge_b194
    have KP := KP.wr W212 (Or.inr sz_b194)
    have E_a := E_a.wr W212
    have F_slotLongs_a := F_slotLongs_a.other W212 (Or.inl ne_a_b194)
    have F_slotShifts_a := F_slotShifts_a.other W212 (Or.inl ne_a_b194)
    have F_keyLongs_a := F_keyLongs_a.other W212 (Or.inl ne_a_b194)
    have F_width_a := F_width_a.other W212 (Or.inl ne_a_b194)
    have V_b196 := V_b196.other W212 (Ne.symm ne_b194_b196)
    have V_b194 := tmp212
    refine own_aln 130 X212 hx (hb hby own_d127) rfl rfl rfl ?_
    obtain ⟨T213, X213, e213, st213⟩ := getF X212 hx hZ hown (host := "") (Or.inl (own_w hw 32 rfl)) Via.refl e212 F_slotShifts_a (g := (mkF m 130 #[rv a, rv aS, iv 4, iv wd, iv pl, iv wb, iv lg2, iv (sh2 - wb), iv 2] [(.ref a)])) rfl rfl (hb hby own_d128)
    refine own_to (mkF m 133 #[rv a, rv aS, iv 4, iv wd, iv pl, iv wb, iv lg2, iv (sh2 - wb), iv 2] [(.ref b196)]) st213 ?_
    refine own_il 135 X213 hx (hb hby own_d129) rfl rfl ?_
    refine own_il 137 X213 hx (hb hby own_d130) rfl rfl ?_
    obtain ⟨cl214, Ar214, q214, S214, M214, H214, G214⟩ := id V_b196
    obtain ⟨T214, h214, X214, e214, W214, st214⟩ := stI X213 hx hZ e213 Ar214 (j := (2 : Int32)) (inb_of S214 ⟨by decide, by decide⟩) (g := (mkF m 137 #[rv a, rv aS, iv 4, iv wd, iv pl, iv wb, iv lg2, iv (sh2 - wb), iv 2] [(.int (sh2 - wb)), (.int (2 : Int32)), (.ref b196)])) rfl rfl (hb hby own_d131)
    refine own_to (mkF m 138 #[rv a, rv aS, iv 4, iv wd, iv pl, iv wb, iv lg2, iv (sh2 - wb), iv 2] []) st214 ?_
    have N214 := Fr.snoc X214 N212 ge_b196
    have tmp214 : Arv Z h214 b196 k196 .int (4 : Int32) [(.int ((63 : Int32) - wb)), (.int (sh1 - wb)), (.int (sh2 - wb)), (.int (0 : Int32))] (.int (0 : Int32)) := Arv.set Ar214 q214 S214 M214 H214 G214 rfl W214 2 rfl (Nat.le_of_ble_eq_true rfl)
    have OL := OL.wr W214 ge_b196
    have KP := KP.wr W214 (Or.inr sz_b196)
    have E_a := E_a.wr W214
    have F_slotLongs_a := F_slotLongs_a.other W214 (Or.inl ne_a_b196)
    have F_slotShifts_a := F_slotShifts_a.other W214 (Or.inl ne_a_b196)
    have F_keyLongs_a := F_keyLongs_a.other W214 (Or.inl ne_a_b196)
    have F_width_a := F_width_a.other W214 (Or.inl ne_a_b196)
    have V_b194 := V_b194.other W214 ne_b194_b196
    have V_b196 := tmp214
    refine own_inc 141 #[rv a, rv aS, iv 4, iv wd, iv pl, iv wb, iv lg2, iv (sh2 - wb), iv 3] X214 hx (hb hby own_d132) rfl rfl rfl ?_
    refine own_go 93 X214 hx (hb hby own_d133) (by decide) (by decide) ?_
    refine own_il 95 X214 hx (hb hby own_d112) rfl rfl ?_
    refine own_iln 96 X214 hx (hb hby own_d113) rfl rfl ?_
    refine own_icN 99 X214 hx (hb hby own_d114) (tlt (by decide : (3 : Int32) < (4 : Int32))).2.1 rfl ?_
    refine own_il 101 X214 hx (hb hby own_d115) rfl rfl ?_
    refine own_il 103 X214 hx (hb hby own_d116) rfl rfl ?_
    suffices jn215 : ∀ lg3 : Int32, ((sh2 - wb) < wb → lg3 = (lg2 + (1 : Int32))) → (¬ (sh2 - wb) < wb → lg3 = lg2) → ∀ sh3 : Int32, ((sh2 - wb) < wb → sh3 = (63 : Int32)) → (¬ (sh2 - wb) < wb → sh3 = (sh2 - wb)) → own_E p e below (own_Fin s (own_QCS Z a aC aS (4 : Int32) wd pl h0 n0) ({ frames := 2, cells := 2, slots := 8, locals := 40 } : Room).cells ({ frames := 2, cells := 2, slots := 8, locals := 40 } : Room).slots) T214 (mkF m 113 #[rv a, rv aS, iv 4, iv wd, iv pl, iv wb, iv lg3, iv sh3, iv 3] []) from by
      by_cases hj3 : (sh2 - wb) < wb
      · refine own_icN 106 X214 hx (hb hby own_d117) (tlt hj3).2.1 rfl ?_
        refine own_inc 109 #[rv a, rv aS, iv 4, iv wd, iv pl, iv wb, iv (lg2 + (1 : Int32)), iv (sh2 - wb), iv 3] X214 hx (hb hby own_d146) rfl rfl rfl ?_
        refine own_bi 111 63 X214 hx (hb hby own_d147) rfl rfl ?_
        refine own_is 113 #[rv a, rv aS, iv 4, iv wd, iv pl, iv wb, iv (lg2 + (1 : Int32)), iv 63, iv 3] X214 hx (hb hby own_d148) rfl rfl ?_
        exact jn215 (lg2 + (1 : Int32)) (fun _ => rfl) (fun q => absurd hj3 q) (63 : Int32) (fun _ => rfl) (fun q => absurd hj3 q)
      · refine own_icY 113 X214 hx (hb hby own_d117) (flt hj3).2.1 (by decide) (by decide) ?_
        exact jn215 lg2 (fun q => absurd q hj3) (fun _ => rfl) (sh2 - wb) (fun q => absurd q hj3) (fun _ => rfl)
    intro lg3 hlg3t hlg3f sh3 hsh3t hsh3f
    have hl3 := own_incr (k := 2) (by decide) hl2 hlg3t hlg3f
    refine own_il 115 X214 hx (hb hby own_d118) rfl rfl ?_
    refine own_il 117 X214 hx (hb hby own_d119) rfl rfl ?_
    refine own_isub 118 X214 hx (hb hby own_d120) rfl rfl ?_
    refine own_is 120 #[rv a, rv aS, iv 4, iv wd, iv pl, iv wb, iv lg3, iv (sh3 - wb), iv 3] X214 hx (hb hby own_d121) rfl rfl ?_
    refine own_aln 121 X214 hx (hb hby own_d122) rfl rfl rfl ?_
    obtain ⟨T216, X216, e216, st216⟩ := getF X214 hx hZ hown (host := "") (Or.inl (own_w hw 30 rfl)) Via.refl e214 F_slotLongs_a (g := (mkF m 121 #[rv a, rv aS, iv 4, iv wd, iv pl, iv wb, iv lg3, iv (sh3 - wb), iv 3] [(.ref a)])) rfl rfl (hb hby own_d123)
    refine own_to (mkF m 124 #[rv a, rv aS, iv 4, iv wd, iv pl, iv wb, iv lg3, iv (sh3 - wb), iv 3] [(.ref b194)]) st216 ?_
    refine own_il 126 X216 hx (hb hby own_d124) rfl rfl ?_
    refine own_il 128 X216 hx (hb hby own_d125) rfl rfl ?_
    obtain ⟨cl217, Ar217, q217, S217, M217, H217, G217⟩ := id V_b194
    obtain ⟨T217, h217, X217, e217, W217, st217⟩ := stI X216 hx hZ e216 Ar217 (j := (3 : Int32)) (inb_of S217 ⟨by decide, by decide⟩) (g := (mkF m 128 #[rv a, rv aS, iv 4, iv wd, iv pl, iv wb, iv lg3, iv (sh3 - wb), iv 3] [(.int lg3), (.int (3 : Int32)), (.ref b194)])) rfl rfl (hb hby own_d126)
    refine own_to (mkF m 129 #[rv a, rv aS, iv 4, iv wd, iv pl, iv wb, iv lg3, iv (sh3 - wb), iv 3] []) st217 ?_
    have N217 := Fr.snoc X217 N214 ge_b194
    have tmp217 : Arv Z h217 b194 k194 .int (4 : Int32) [(.int (0 : Int32)), (.int lg1), (.int lg2), (.int lg3)] (.int (0 : Int32)) := Arv.set Ar217 q217 S217 M217 H217 G217 rfl W217 3 rfl (Nat.le_of_ble_eq_true rfl)
    have OL := OL.wr W217 ge_b194
    have KP := KP.wr W217 (Or.inr sz_b194)
    have E_a := E_a.wr W217
    have F_slotLongs_a := F_slotLongs_a.other W217 (Or.inl ne_a_b194)
    have F_slotShifts_a := F_slotShifts_a.other W217 (Or.inl ne_a_b194)
    have F_keyLongs_a := F_keyLongs_a.other W217 (Or.inl ne_a_b194)
    have F_width_a := F_width_a.other W217 (Or.inl ne_a_b194)
    have V_b196 := V_b196.other W217 (Ne.symm ne_b194_b196)
    have V_b194 := tmp217
    refine own_aln 130 X217 hx (hb hby own_d127) rfl rfl rfl ?_
    obtain ⟨T218, X218, e218, st218⟩ := getF X217 hx hZ hown (host := "") (Or.inl (own_w hw 32 rfl)) Via.refl e217 F_slotShifts_a (g := (mkF m 130 #[rv a, rv aS, iv 4, iv wd, iv pl, iv wb, iv lg3, iv (sh3 - wb), iv 3] [(.ref a)])) rfl rfl (hb hby own_d128)
    refine own_to (mkF m 133 #[rv a, rv aS, iv 4, iv wd, iv pl, iv wb, iv lg3, iv (sh3 - wb), iv 3] [(.ref b196)]) st218 ?_
    refine own_il 135 X218 hx (hb hby own_d129) rfl rfl ?_
    refine own_il 137 X218 hx (hb hby own_d130) rfl rfl ?_
    obtain ⟨cl219, Ar219, q219, S219, M219, H219, G219⟩ := id V_b196
    obtain ⟨T219, h219, X219, e219, W219, st219⟩ := stI X218 hx hZ e218 Ar219 (j := (3 : Int32)) (inb_of S219 ⟨by decide, by decide⟩) (g := (mkF m 137 #[rv a, rv aS, iv 4, iv wd, iv pl, iv wb, iv lg3, iv (sh3 - wb), iv 3] [(.int (sh3 - wb)), (.int (3 : Int32)), (.ref b196)])) rfl rfl (hb hby own_d131)
    refine own_to (mkF m 138 #[rv a, rv aS, iv 4, iv wd, iv pl, iv wb, iv lg3, iv (sh3 - wb), iv 3] []) st219 ?_
    have N219 := Fr.snoc X219 N217 ge_b196
    have tmp219 : Arv Z h219 b196 k196 .int (4 : Int32) [(.int ((63 : Int32) - wb)), (.int (sh1 - wb)), (.int (sh2 - wb)), (.int (sh3 - wb))] (.int (0 : Int32)) := Arv.set Ar219 q219 S219 M219 H219 G219 rfl W219 3 rfl (Nat.le_of_ble_eq_true rfl)
    have OL := OL.wr W219 ge_b196
    have KP := KP.wr W219 (Or.inr sz_b196)
    have E_a := E_a.wr W219
    have F_slotLongs_a := F_slotLongs_a.other W219 (Or.inl ne_a_b196)
    have F_slotShifts_a := F_slotShifts_a.other W219 (Or.inl ne_a_b196)
    have F_keyLongs_a := F_keyLongs_a.other W219 (Or.inl ne_a_b196)
    have F_width_a := F_width_a.other W219 (Or.inl ne_a_b196)
    have V_b194 := V_b194.other W219 ne_b194_b196
    have V_b196 := tmp219
    refine own_inc 141 #[rv a, rv aS, iv 4, iv wd, iv pl, iv wb, iv lg3, iv (sh3 - wb), iv 4] X219 hx (hb hby own_d132) rfl rfl rfl ?_
    refine own_go 93 X219 hx (hb hby own_d133) (by decide) (by decide) ?_
    refine own_il 95 X219 hx (hb hby own_d112) rfl rfl ?_
    refine own_iln 96 X219 hx (hb hby own_d113) rfl rfl ?_
    refine own_icY 144 X219 hx (hb hby own_d114) (flt (by decide : ¬ ((4 : Int32) < (4 : Int32)))).2.1 (by decide) (by decide) ?_
    refine own_aln 145 X219 hx (hb hby own_d134) rfl rfl rfl ?_
    refine own_il 147 X219 hx (hb hby own_d135) rfl rfl ?_
    refine own_ic 148 1 X219 hx (hb hby own_d136) rfl rfl ?_
    refine own_iadd 149 X219 hx (hb hby own_d137) rfl rfl ?_
    obtain ⟨T220, h220, X220, e220, W220, st220⟩ := putF X219 hx hZ hown (host := "") (Or.inl (own_w hw 40 rfl)) Via.refl e219 F_keyLongs_a E_a (Or.inr ⟨(own_w hw 41 rfl), rfl, hnm⟩) (own_w hw 4 rfl) (ty := .int) (by decide) rfl rfl (g := (mkF m 149 #[rv a, rv aS, iv 4, iv wd, iv pl, iv wb, iv lg3, iv (sh3 - wb), iv 4] [(.int (lg3 + (1 : Int32))), (.ref a)])) rfl rfl (hb hby own_d138)
    refine own_to (mkF m 152 #[rv a, rv aS, iv 4, iv wd, iv pl, iv wb, iv lg3, iv (sh3 - wb), iv 4] []) st220 ?_
    have N220 := Fr.snoc X220 N219 ge_a
    have tmp220 : Fld Z h220 a "com/example/gramstead/gramstead/estimation/RecordLayout" "keyLongs" "I" (.int (lg3 + (1 : Int32))) := F_keyLongs_a.same W220
    have OL := OL.wr W220 ge_a
    have KP := KP.wr W220 (Or.inl (List.mem_of_getElem? (i := 0) rfl))
    have E_a := E_a.wr W220
    have F_width_a := F_width_a.other W220 (Or.inr (slot_ne (Or.inr (own_w hw 43 rfl)) (Or.inr (own_w hw 41 rfl)) (by decide) (t := .int) (t' := .int) (by decide) (by decide)))
    have F_keyLongs_a := tmp220
    refine own_aln 153 X220 hx (hb hby own_d139) rfl rfl rfl ?_
    refine own_aln 154 X220 hx (hb hby own_d140) rfl rfl rfl ?_
    obtain ⟨T221, X221, e221, st221⟩ := getF X220 hx hZ hown (host := "") (Or.inl (own_w hw 40 rfl)) Via.refl e220 F_keyLongs_a (g := (mkF m 154 #[rv a, rv aS, iv 4, iv wd, iv pl, iv wb, iv lg3, iv (sh3 - wb), iv 4] [(.ref a), (.ref a)])) rfl rfl (hb hby own_d141)
    refine own_to (mkF m 157 #[rv a, rv aS, iv 4, iv wd, iv pl, iv wb, iv lg3, iv (sh3 - wb), iv 4] [(.int (lg3 + (1 : Int32))), (.ref a)]) st221 ?_
    refine own_il 159 X221 hx (hb hby own_d142) rfl rfl ?_
    refine own_iadd 160 X221 hx (hb hby own_d143) rfl rfl ?_
    obtain ⟨T222, h222, X222, e222, W222, st222⟩ := putF X221 hx hZ hown (host := "") (Or.inl (own_w hw 42 rfl)) Via.refl e221 F_width_a E_a (Or.inr ⟨(own_w hw 43 rfl), rfl, hnm⟩) (own_w hw 4 rfl) (ty := .int) (by decide) rfl rfl (g := (mkF m 160 #[rv a, rv aS, iv 4, iv wd, iv pl, iv wb, iv lg3, iv (sh3 - wb), iv 4] [(.int ((lg3 + (1 : Int32)) + pl)), (.ref a)])) rfl rfl (hb hby own_d144)
    refine own_to (mkF m 163 #[rv a, rv aS, iv 4, iv wd, iv pl, iv wb, iv lg3, iv (sh3 - wb), iv 4] []) st222 ?_
    have N222 := Fr.snoc X222 N220 ge_a
    have tmp222 : Fld Z h222 a "com/example/gramstead/gramstead/estimation/RecordLayout" "width" "I" (.int ((lg3 + (1 : Int32)) + pl)) := F_width_a.same W222
    have OL := OL.wr W222 ge_a
    have KP := KP.wr W222 (Or.inl (List.mem_of_getElem? (i := 0) rfl))
    have E_a := E_a.wr W222
    have F_keyLongs_a := F_keyLongs_a.other W222 (Or.inr (slot_ne (Or.inr (own_w hw 41 rfl)) (Or.inr (own_w hw 43 rfl)) (by decide) (t := .int) (t' := .int) (by decide) (by decide)))
    have F_width_a := tmp222
    exact own_ret0 X222 hx Bd.returns hlk (hb hby own_d145) (by decide) (by decide) (by rw [e222]; exact ⟨rfl, N222, KP, E_a, (lg3 + (1 : Int32)), (own_kl (k := 3) (by decide) hl3).1, (own_kl (k := 3) (by decide) hl3).2, F_keyLongs_a, F_width_a⟩)
theorem own_rmCT (l : Launch) (Z : State) (a0 : Array Value) (hw : ∀ d ∈ tables_1, d.before a0 Z = true) (ws : List Jvm.Cond) (ord a aC aS : Addr) (mo wd pl : Int32) (h0 : Heap) (n0 : Nat) (Z0 : n0 ≤ h0.size) (OL : Old Z n0 h0) (hO : ord = aC ∨ ord = aS) (SC : Sta Z Z.heap "com/example/gramstead/gramstead/estimation/RecordOrder" "CONTEXT" "Lcom/example/gramstead/gramstead/estimation/RecordOrder;" (.ref aC)) (ne_aS_aC : aS ≠ aC) (hmo : mo = 1 ∨ mo = 2 ∨ mo = 3 ∨ mo = 4) (hwd : 0 ≤ wd.toInt) (ge_a : n0 ≤ a) (E_a : Exa Z h0 a "com/example/gramstead/gramstead/estimation/RecordLayout") (F_order_a : Fld Z h0 a "com/example/gramstead/gramstead/estimation/RecordLayout" "order" "Lcom/example/gramstead/gramstead/estimation/RecordOrder;" .null) (F_wordMask_a : Fld Z h0 a "com/example/gramstead/gramstead/estimation/RecordLayout" "wordMask" "J" (.long (0 : Int64))) (F_slotLongs_a : Fld Z h0 a "com/example/gramstead/gramstead/estimation/RecordLayout" "slotLongs" "[I" .null) (F_slotShifts_a : Fld Z h0 a "com/example/gramstead/gramstead/estimation/RecordLayout" "slotShifts" "[I" .null) (F_orderMask_a : Fld Z h0 a "com/example/gramstead/gramstead/estimation/RecordLayout" "orderMask" "J" (.long (0 : Int64))) (F_orderShift_a : Fld Z h0 a "com/example/gramstead/gramstead/estimation/RecordLayout" "orderShift" "I" (.int (0 : Int32))) (F_keyLongs_a : Fld Z h0 a "com/example/gramstead/gramstead/estimation/RecordLayout" "keyLongs" "I" (.int (0 : Int32))) (F_width_a : Fld Z h0 a "com/example/gramstead/gramstead/estimation/RecordLayout" "width" "I" (.int (0 : Int32))) :
    MetFree l (⟨"com/example/gramstead/gramstead/estimation/RecordLayout", "<init>", "(Lcom/example/gramstead/gramstead/estimation/RecordOrder;III)V"⟩ : MethodName) (head1 (Jvm.Cond.code (⟨"com/example/gramstead/gramstead/estimation/RecordLayout", "<init>", "(Lcom/example/gramstead/gramstead/estimation/RecordOrder;III)V"⟩ : MethodName) prog_19_method_1_code 9 none :: ws) ({ frames := 2, cells := 2, slots := 8, locals := 40 } : Room)) (fun q U => q = #[(.ref a), (.ref ord), (.int mo), (.int wd), (.int pl)] ∧ Z.Warmed39 U.vm ∧ U.heap = h0) (fun _ _ _ _ _ => True) (fun _ U o U' => ∃ v L, o = .returned v ∧ own_QCC Z a aC aS mo wd pl h0 n0 v U'.heap L ∧ FrameEnd U o U' L ({ frames := 2, cells := 2, slots := 8, locals := 40 } : Room).cells ({ frames := 2, cells := 2, slots := 8, locals := 40 } : Room).slots) := by
  rcases hO with q | q
  · rw [q]; exact own_rmCC l Z a0 hw ws a aC aS mo wd pl h0 n0 Z0 OL SC ne_aS_aC hmo hwd ge_a E_a F_order_a F_wordMask_a F_slotLongs_a F_slotShifts_a F_orderMask_a F_orderShift_a F_keyLongs_a F_width_a
  · rw [q]; exact own_rmCS l Z a0 hw ws a aC aS mo wd pl h0 n0 Z0 OL SC ne_aS_aC hmo hwd ge_a E_a F_order_a F_wordMask_a F_slotLongs_a F_slotShifts_a F_orderMask_a F_orderShift_a F_keyLongs_a F_width_a
def own_QK (Z : State) (a : Addr) (y : Int32) (h0 : Heap) (n0 : Nat) (v : Option Value) (h : Heap) (L : List Loc) : Prop := v = some (.int y) ∧ Fr n0 L ∧ h = h0
set_option maxRecDepth 65536 in
set_option maxHeartbeats 40000000 in
theorem own_rmK (l : Launch) (Z : State) (a0 : Array Value) (hw : ∀ d ∈ tables_1, d.before a0 Z = true) (ws : List Jvm.Cond) (a : Addr) (y : Int32) (h0 : Heap) (n0 : Nat) (Z0 : n0 ≤ h0.size) (OL : Old Z n0 h0) (Fa : Fld Z h0 a "com/example/gramstead/gramstead/estimation/RecordLayout" "keyLongs" "I" (.int y)) :
    own_MF l (⟨"com/example/gramstead/gramstead/estimation/RecordLayout", "keyLongs", "()I"⟩ : MethodName) (Jvm.Cond.code (⟨"com/example/gramstead/gramstead/estimation/RecordLayout", "keyLongs", "()I"⟩ : MethodName) prog_19_method_3_code 1 (some .int) :: ws) ({ frames := 0, cells := 0, slots := 0, locals := 0 } : Room) #[(.ref a)] Z h0 (own_QK Z a y h0 n0) := by
  refine MetFree.of_bodySF (plainFor_of_name own_pn1) hisR ?_
  intro p e s m args below meth c s₁ Bd hml0 hP hK
  obtain ⟨rfl, hZ, hh⟩ := hP
  have hx := Bd.exec
  have hby := Bd.bytes
  have hlk : meth.locks = false := BodyLoose.notSynchronized Bd
  have hml : c.maxLocals = 1 := hml0
  have hown : s.vm.findClass "com/example/gramstead/gramstead/estimation/RecordLayout" = some m.cls := findClass_of_methodNamed Bd.named
  have hnm := (name_of_methodNamed Bd.named Bd.method).1
  have X0 : Stand p l e ({ frames := 0, cells := 0, slots := 0, locals := 0 } : Room) s m #[(.ref a)] below meth c s₁ [] 0 0 := Stand.of_body Bd
  have e0 : s₁.heap = h0 := by rw [← hh, Bd.state]; rfl
  have N0 := Fr.nil n0
  have KP : Keep h0 h0 [] := Keep.refl _ _
  refine own_start (Fin := (own_Fin s (own_QK Z a y h0 n0) ({ frames := 0, cells := 0, slots := 0, locals := 0 } : Room).cells ({ frames := 0, cells := 0, slots := 0, locals := 0 } : Room).slots)) (own_from (mkF m 0 #[rv a] []) (castTop (own_ef_K m a)) ?_)
  refine own_aln 1 X0 hx (hb hby own_d152) rfl rfl rfl ?_
  obtain ⟨T223, X223, e223, st223⟩ := getF X0 hx hZ hown (host := "") (Or.inl (own_w hw 40 rfl)) Via.refl e0 Fa (g := (mkF m 1 #[rv a] [(.ref a)])) rfl rfl (hb hby own_d153)
  refine own_to (mkF m 4 #[rv a] [(.int y)]) st223 ?_
  exact own_retI X223 hx Bd.returns hlk (hb hby own_d154) (by decide) (by decide) (by rw [e223]; exact ⟨rfl, N0, rfl⟩)
def own_QW (Z : State) (a : Addr) (y : Int32) (h0 : Heap) (n0 : Nat) (v : Option Value) (h : Heap) (L : List Loc) : Prop := v = some (.int y) ∧ Fr n0 L ∧ h = h0
set_option maxRecDepth 65536 in
set_option maxHeartbeats 40000000 in
theorem own_rmW (l : Launch) (Z : State) (a0 : Array Value) (hw : ∀ d ∈ tables_1, d.before a0 Z = true) (ws : List Jvm.Cond) (a : Addr) (y : Int32) (h0 : Heap) (n0 : Nat) (Z0 : n0 ≤ h0.size) (OL : Old Z n0 h0) (Fa : Fld Z h0 a "com/example/gramstead/gramstead/estimation/RecordLayout" "width" "I" (.int y)) :
    own_MF l (⟨"com/example/gramstead/gramstead/estimation/RecordLayout", "width", "()I"⟩ : MethodName) (Jvm.Cond.code (⟨"com/example/gramstead/gramstead/estimation/RecordLayout", "width", "()I"⟩ : MethodName) prog_19_method_4_code 1 (some .int) :: ws) ({ frames := 0, cells := 0, slots := 0, locals := 0 } : Room) #[(.ref a)] Z h0 (own_QW Z a y h0 n0) := by
  refine MetFree.of_bodySF (plainFor_of_name own_pn1) hisR ?_
  intro p e s m args below meth c s₁ Bd hml0 hP hK
  obtain ⟨rfl, hZ, hh⟩ := hP
  have hx := Bd.exec
  have hby := Bd.bytes
  have hlk : meth.locks = false := BodyLoose.notSynchronized Bd
  have hml : c.maxLocals = 1 := hml0
  have hown : s.vm.findClass "com/example/gramstead/gramstead/estimation/RecordLayout" = some m.cls := findClass_of_methodNamed Bd.named
  have hnm := (name_of_methodNamed Bd.named Bd.method).1
  have X0 : Stand p l e ({ frames := 0, cells := 0, slots := 0, locals := 0 } : Room) s m #[(.ref a)] below meth c s₁ [] 0 0 := Stand.of_body Bd
  have e0 : s₁.heap = h0 := by rw [← hh, Bd.state]; rfl
  have N0 := Fr.nil n0
  have KP : Keep h0 h0 [] := Keep.refl _ _
  refine own_start (Fin := (own_Fin s (own_QW Z a y h0 n0) ({ frames := 0, cells := 0, slots := 0, locals := 0 } : Room).cells ({ frames := 0, cells := 0, slots := 0, locals := 0 } : Room).slots)) (own_from (mkF m 0 #[rv a] []) (castTop (own_ef_W m a)) ?_)
  refine own_aln 1 X0 hx (hb hby own_d155) rfl rfl rfl ?_
  obtain ⟨T224, X224, e224, st224⟩ := getF X0 hx hZ hown (host := "") (Or.inl (own_w hw 42 rfl)) Via.refl e0 Fa (g := (mkF m 1 #[rv a] [(.ref a)])) rfl rfl (hb hby own_d156)
  refine own_to (mkF m 4 #[rv a] [(.int y)]) st224 ?_
  exact own_retI X224 hx Bd.returns hlk (hb hby own_d157) (by decide) (by decide) (by rw [e224]; exact ⟨rfl, N0, rfl⟩)
def own_QP (Z : State) (a b : Addr) (kb : ClassId) (ax va kl tg : Int32) (ct ff : Int64) (h0 : Heap) (n0 : Nat) (v : Option Value) (h : Heap) (L : List Loc) : Prop := v = none ∧ Fr n0 L ∧ Keep h0 h [b] ∧ Arv Z h b kb .long (10 : Int32) [(.long (if tg = (0 : Int32) then ct else ff)), (.long (if tg = (1 : Int32) then ct else (ff + (1 : Int64)))), (.long (if tg = (2 : Int32) then ct else (ff + (2 : Int64)))), (.long (if tg = (3 : Int32) then ct else (ff + (3 : Int64)))), (.long (if tg = (4 : Int32) then ct else (ff + (4 : Int64)))), (.long (if tg = (5 : Int32) then ct else (ff + (5 : Int64)))), (.long (if tg = (6 : Int32) then ct else (ff + (6 : Int64)))), (.long (if tg = (7 : Int32) then ct else (ff + (7 : Int64)))), (.long (if tg = (8 : Int32) then ct else (ff + (8 : Int64)))), (.long (if tg = (9 : Int32) then ct else (ff + (9 : Int64))))] (.long (0 : Int64))
set_option maxRecDepth 65536 in
set_option maxHeartbeats 40000000 in
theorem own_rmP (l : Launch) (Z : State) (a0 : Array Value) (hw : ∀ d ∈ tables_1, d.before a0 Z = true) (ws : List Jvm.Cond) (a b : Addr) (kb : ClassId) (ax va kl tg : Int32) (ct ff : Int64) (h0 : Heap) (n0 : Nat) (Z0 : n0 ≤ h0.size) (OL : Old Z n0 h0) (Fk : Fld Z h0 a "com/example/gramstead/gramstead/estimation/RecordLayout" "keyLongs" "I" (.int kl)) (Vb : Arv Z h0 b kb .long (10 : Int32) [(.long ff), (.long (ff + (1 : Int64))), (.long (ff + (2 : Int64))), (.long (ff + (3 : Int64))), (.long (ff + (4 : Int64))), (.long (ff + (5 : Int64))), (.long (ff + (6 : Int64))), (.long (ff + (7 : Int64))), (.long (ff + (8 : Int64))), (.long (ff + (9 : Int64)))] (.long (0 : Int64))) (ne_a_b : a ≠ b) (ge_b : n0 ≤ b) (htg : ((ax + kl) + va) = tg) (h10 : tg = 0 ∨ tg = 1 ∨ tg = 2 ∨ tg = 3 ∨ tg = 4 ∨ tg = 5 ∨ tg = 6 ∨ tg = 7 ∨ tg = 8 ∨ tg = 9) :
    own_MF l (⟨"com/example/gramstead/gramstead/estimation/RecordLayout", "putLong", "([JIIJ)V"⟩ : MethodName) (Jvm.Cond.code (⟨"com/example/gramstead/gramstead/estimation/RecordLayout", "putLong", "([JIIJ)V"⟩ : MethodName) prog_19_method_9_code 6 none :: ws) ({ frames := 0, cells := 0, slots := 0, locals := 0 } : Room) #[(.ref a), (.ref b), (.int ax), (.int va), (.long ct)] Z h0 (own_QP Z a b kb ax va kl tg ct ff h0 n0) := by
  refine MetFree.of_bodySF (plainFor_of_name own_pn1) hisR ?_
  intro p e s m args below meth c s₁ Bd hml0 hP hK
  obtain ⟨rfl, hZ, hh⟩ := hP
  have hx := Bd.exec
  have hby := Bd.bytes
  have hlk : meth.locks = false := BodyLoose.notSynchronized Bd
  have hml : c.maxLocals = 6 := hml0
  have hown : s.vm.findClass "com/example/gramstead/gramstead/estimation/RecordLayout" = some m.cls := findClass_of_methodNamed Bd.named
  have hnm := (name_of_methodNamed Bd.named Bd.method).1
  have X0 : Stand p l e ({ frames := 0, cells := 0, slots := 0, locals := 0 } : Room) s m #[(.ref a), (.ref b), (.int ax), (.int va), (.long ct)] below meth c s₁ [] 0 0 := Stand.of_body Bd
  have e0 : s₁.heap = h0 := by rw [← hh, Bd.state]; rfl
  have N0 := Fr.nil n0
  have KP : Keep h0 h0 [b] := Keep.refl _ _
  refine own_start (Fin := (own_Fin s (own_QP Z a b kb ax va kl tg ct ff h0 n0) ({ frames := 0, cells := 0, slots := 0, locals := 0 } : Room).cells ({ frames := 0, cells := 0, slots := 0, locals := 0 } : Room).slots)) (own_from (mkF m 0 #[rv a, rv b, iv ax, iv va, .val (.long ct), .second] []) (castTop (own_ef_P m a b ax va ct)) ?_)
  refine own_aln 1 X0 hx (hb hby own_d158) rfl rfl rfl ?_
  refine own_iln 2 X0 hx (hb hby own_d159) rfl rfl ?_
  refine own_aln 3 X0 hx (hb hby own_d160) rfl rfl rfl ?_
  obtain ⟨T225, X225, e225, st225⟩ := getF X0 hx hZ hown (host := "") (Or.inl (own_w hw 40 rfl)) Via.refl e0 Fk (g := (mkF m 3 #[rv a, rv b, iv ax, iv va, .val (.long ct), .second] [(.ref a), (.int ax), (.ref b)])) rfl rfl (hb hby own_d161)
  refine own_to (mkF m 6 #[rv a, rv b, iv ax, iv va, .val (.long ct), .second] [(.int kl), (.int ax), (.ref b)]) st225 ?_
  refine own_iadd 7 X225 hx (hb hby own_d162) rfl rfl ?_
  refine own_iln 8 X225 hx (hb hby own_d163) rfl rfl ?_
  refine own_iadd 9 X225 hx (hb hby own_d164) rfl rfl ?_
  rw [htg]
  rcases h10 with q | q | q | q | q | q | q | q | q | q
  · subst q
    refine own_to (T' := T225) (mkF m 11 #[rv a, rv b, iv ax, iv va, .val (.long ct), .second] [(.long ct), (.int (0 : Int32)), (.ref b)]) (fun _ k => XS.lload X225.here hx rfl (hb hby own_d165) rfl k) ?_
    obtain ⟨cl226, Ar226, q226, S226, M226, H226, G226⟩ := id Vb
    obtain ⟨T226, h226, X226, e226, W226, st226⟩ := stJ X225 hx hZ e225 Ar226 (j := (0 : Int32)) (inb_of S226 ⟨by decide, by decide⟩) (g := (mkF m 11 #[rv a, rv b, iv ax, iv va, .val (.long ct), .second] [(.long ct), (.int (0 : Int32)), (.ref b)])) rfl rfl (hb hby own_d166)
    refine own_to (mkF m 12 #[rv a, rv b, iv ax, iv va, .val (.long ct), .second] []) st226 ?_
    have N226 := Fr.snoc X226 N0 ge_b
    have tmp226 : Arv Z h226 b kb .long (10 : Int32) [(.long ct), (.long (ff + (1 : Int64))), (.long (ff + (2 : Int64))), (.long (ff + (3 : Int64))), (.long (ff + (4 : Int64))), (.long (ff + (5 : Int64))), (.long (ff + (6 : Int64))), (.long (ff + (7 : Int64))), (.long (ff + (8 : Int64))), (.long (ff + (9 : Int64)))] (.long (0 : Int64)) := Arv.set Ar226 q226 S226 M226 H226 G226 rfl W226 0 rfl (Nat.le_of_ble_eq_true rfl)
    have OL := OL.wr W226 ge_b
    have KP := KP.wr W226 (Or.inl (List.mem_of_getElem? (i := 0) rfl))
    have Fk := Fk.other W226 (Or.inl ne_a_b)
    have Vb := tmp226
    exact own_ret0 X226 hx Bd.returns hlk (hb hby own_d167) (by decide) (by decide) (by rw [e226]; exact ⟨rfl, N226, KP, by simpa using Vb⟩)
  · subst q
    refine own_to (T' := T225) (mkF m 11 #[rv a, rv b, iv ax, iv va, .val (.long ct), .second] [(.long ct), (.int (1 : Int32)), (.ref b)]) (fun _ k => XS.lload X225.here hx rfl (hb hby own_d165) rfl k) ?_
    obtain ⟨cl227, Ar227, q227, S227, M227, H227, G227⟩ := id Vb
    obtain ⟨T227, h227, X227, e227, W227, st227⟩ := stJ X225 hx hZ e225 Ar227 (j := (1 : Int32)) (inb_of S227 ⟨by decide, by decide⟩) (g := (mkF m 11 #[rv a, rv b, iv ax, iv va, .val (.long ct), .second] [(.long ct), (.int (1 : Int32)), (.ref b)])) rfl rfl (hb hby own_d166)
    refine own_to (mkF m 12 #[rv a, rv b, iv ax, iv va, .val (.long ct), .second] []) st227 ?_
    have N227 := Fr.snoc X227 N0 ge_b
    have tmp227 : Arv Z h227 b kb .long (10 : Int32) [(.long ff), (.long ct), (.long (ff + (2 : Int64))), (.long (ff + (3 : Int64))), (.long (ff + (4 : Int64))), (.long (ff + (5 : Int64))), (.long (ff + (6 : Int64))), (.long (ff + (7 : Int64))), (.long (ff + (8 : Int64))), (.long (ff + (9 : Int64)))] (.long (0 : Int64)) := Arv.set Ar227 q227 S227 M227 H227 G227 rfl W227 1 rfl (Nat.le_of_ble_eq_true rfl)
    have OL := OL.wr W227 ge_b
    have KP := KP.wr W227 (Or.inl (List.mem_of_getElem? (i := 0) rfl))
    have Fk := Fk.other W227 (Or.inl ne_a_b)
    have Vb := tmp227
    exact own_ret0 X227 hx Bd.returns hlk (hb hby own_d167) (by decide) (by decide) (by rw [e227]; exact ⟨rfl, N227, KP, by simpa using Vb⟩)
  · subst q
    refine own_to (T' := T225) (mkF m 11 #[rv a, rv b, iv ax, iv va, .val (.long ct), .second] [(.long ct), (.int (2 : Int32)), (.ref b)]) (fun _ k => XS.lload X225.here hx rfl (hb hby own_d165) rfl k) ?_
    obtain ⟨cl228, Ar228, q228, S228, M228, H228, G228⟩ := id Vb
    obtain ⟨T228, h228, X228, e228, W228, st228⟩ := stJ X225 hx hZ e225 Ar228 (j := (2 : Int32)) (inb_of S228 ⟨by decide, by decide⟩) (g := (mkF m 11 #[rv a, rv b, iv ax, iv va, .val (.long ct), .second] [(.long ct), (.int (2 : Int32)), (.ref b)])) rfl rfl (hb hby own_d166)
    refine own_to (mkF m 12 #[rv a, rv b, iv ax, iv va, .val (.long ct), .second] []) st228 ?_
    have N228 := Fr.snoc X228 N0 ge_b
    have tmp228 : Arv Z h228 b kb .long (10 : Int32) [(.long ff), (.long (ff + (1 : Int64))), (.long ct), (.long (ff + (3 : Int64))), (.long (ff + (4 : Int64))), (.long (ff + (5 : Int64))), (.long (ff + (6 : Int64))), (.long (ff + (7 : Int64))), (.long (ff + (8 : Int64))), (.long (ff + (9 : Int64)))] (.long (0 : Int64)) := Arv.set Ar228 q228 S228 M228 H228 G228 rfl W228 2 rfl (Nat.le_of_ble_eq_true rfl)
    have OL := OL.wr W228 ge_b
    have KP := KP.wr W228 (Or.inl (List.mem_of_getElem? (i := 0) rfl))
    have Fk := Fk.other W228 (Or.inl ne_a_b)
    have Vb := tmp228
    exact own_ret0 X228 hx Bd.returns hlk (hb hby own_d167) (by decide) (by decide) (by rw [e228]; exact ⟨rfl, N228, KP, by simpa using Vb⟩)
  · subst q
    refine own_to (T' := T225) (mkF m 11 #[rv a, rv b, iv ax, iv va, .val (.long ct), .second] [(.long ct), (.int (3 : Int32)), (.ref b)]) (fun _ k => XS.lload X225.here hx rfl (hb hby own_d165) rfl k) ?_
    obtain ⟨cl229, Ar229, q229, S229, M229, H229, G229⟩ := id Vb
    obtain ⟨T229, h229, X229, e229, W229, st229⟩ := stJ X225 hx hZ e225 Ar229 (j := (3 : Int32)) (inb_of S229 ⟨by decide, by decide⟩) (g := (mkF m 11 #[rv a, rv b, iv ax, iv va, .val (.long ct), .second] [(.long ct), (.int (3 : Int32)), (.ref b)])) rfl rfl (hb hby own_d166)
    refine own_to (mkF m 12 #[rv a, rv b, iv ax, iv va, .val (.long ct), .second] []) st229 ?_
    have N229 := Fr.snoc X229 N0 ge_b
    have tmp229 : Arv Z h229 b kb .long (10 : Int32) [(.long ff), (.long (ff + (1 : Int64))), (.long (ff + (2 : Int64))), (.long ct), (.long (ff + (4 : Int64))), (.long (ff + (5 : Int64))), (.long (ff + (6 : Int64))), (.long (ff + (7 : Int64))), (.long (ff + (8 : Int64))), (.long (ff + (9 : Int64)))] (.long (0 : Int64)) := Arv.set Ar229 q229 S229 M229 H229 G229 rfl W229 3 rfl (Nat.le_of_ble_eq_true rfl)
    have OL := OL.wr W229 ge_b
    have KP := KP.wr W229 (Or.inl (List.mem_of_getElem? (i := 0) rfl))
    have Fk := Fk.other W229 (Or.inl ne_a_b)
    have Vb := tmp229
    exact own_ret0 X229 hx Bd.returns hlk (hb hby own_d167) (by decide) (by decide) (by rw [e229]; exact ⟨rfl, N229, KP, by simpa using Vb⟩)
  · subst q
    refine own_to (T' := T225) (mkF m 11 #[rv a, rv b, iv ax, iv va, .val (.long ct), .second] [(.long ct), (.int (4 : Int32)), (.ref b)]) (fun _ k => XS.lload X225.here hx rfl (hb hby own_d165) rfl k) ?_
    obtain ⟨cl230, Ar230, q230, S230, M230, H230, G230⟩ := id Vb
    obtain ⟨T230, h230, X230, e230, W230, st230⟩ := stJ X225 hx hZ e225 Ar230 (j := (4 : Int32)) (inb_of S230 ⟨by decide, by decide⟩) (g := (mkF m 11 #[rv a, rv b, iv ax, iv va, .val (.long ct), .second] [(.long ct), (.int (4 : Int32)), (.ref b)])) rfl rfl (hb hby own_d166)
    refine own_to (mkF m 12 #[rv a, rv b, iv ax, iv va, .val (.long ct), .second] []) st230 ?_
    have N230 := Fr.snoc X230 N0 ge_b
    have tmp230 : Arv Z h230 b kb .long (10 : Int32) [(.long ff), (.long (ff + (1 : Int64))), (.long (ff + (2 : Int64))), (.long (ff + (3 : Int64))), (.long ct), (.long (ff + (5 : Int64))), (.long (ff + (6 : Int64))), (.long (ff + (7 : Int64))), (.long (ff + (8 : Int64))), (.long (ff + (9 : Int64)))] (.long (0 : Int64)) := Arv.set Ar230 q230 S230 M230 H230 G230 rfl W230 4 rfl (Nat.le_of_ble_eq_true rfl)
    have OL := OL.wr W230 ge_b
    have KP := KP.wr W230 (Or.inl (List.mem_of_getElem? (i := 0) rfl))
    have Fk := Fk.other W230 (Or.inl ne_a_b)
    have Vb := tmp230
    exact own_ret0 X230 hx Bd.returns hlk (hb hby own_d167) (by decide) (by decide) (by rw [e230]; exact ⟨rfl, N230, KP, by simpa using Vb⟩)
  · subst q
    refine own_to (T' := T225) (mkF m 11 #[rv a, rv b, iv ax, iv va, .val (.long ct), .second] [(.long ct), (.int (5 : Int32)), (.ref b)]) (fun _ k => XS.lload X225.here hx rfl (hb hby own_d165) rfl k) ?_
    obtain ⟨cl231, Ar231, q231, S231, M231, H231, G231⟩ := id Vb
    obtain ⟨T231, h231, X231, e231, W231, st231⟩ := stJ X225 hx hZ e225 Ar231 (j := (5 : Int32)) (inb_of S231 ⟨by decide, by decide⟩) (g := (mkF m 11 #[rv a, rv b, iv ax, iv va, .val (.long ct), .second] [(.long ct), (.int (5 : Int32)), (.ref b)])) rfl rfl (hb hby own_d166)
    refine own_to (mkF m 12 #[rv a, rv b, iv ax, iv va, .val (.long ct), .second] []) st231 ?_
    have N231 := Fr.snoc X231 N0 ge_b
    have tmp231 : Arv Z h231 b kb .long (10 : Int32) [(.long ff), (.long (ff + (1 : Int64))), (.long (ff + (2 : Int64))), (.long (ff + (3 : Int64))), (.long (ff + (4 : Int64))), (.long ct), (.long (ff + (6 : Int64))), (.long (ff + (7 : Int64))), (.long (ff + (8 : Int64))), (.long (ff + (9 : Int64)))] (.long (0 : Int64)) := Arv.set Ar231 q231 S231 M231 H231 G231 rfl W231 5 rfl (Nat.le_of_ble_eq_true rfl)
    have OL := OL.wr W231 ge_b
    have KP := KP.wr W231 (Or.inl (List.mem_of_getElem? (i := 0) rfl))
    have Fk := Fk.other W231 (Or.inl ne_a_b)
    have Vb := tmp231
    exact own_ret0 X231 hx Bd.returns hlk (hb hby own_d167) (by decide) (by decide) (by rw [e231]; exact ⟨rfl, N231, KP, by simpa using Vb⟩)
  · subst q
    refine own_to (T' := T225) (mkF m 11 #[rv a, rv b, iv ax, iv va, .val (.long ct), .second] [(.long ct), (.int (6 : Int32)), (.ref b)]) (fun _ k => XS.lload X225.here hx rfl (hb hby own_d165) rfl k) ?_
    obtain ⟨cl232, Ar232, q232, S232, M232, H232, G232⟩ := id Vb
    obtain ⟨T232, h232, X232, e232, W232, st232⟩ := stJ X225 hx hZ e225 Ar232 (j := (6 : Int32)) (inb_of S232 ⟨by decide, by decide⟩) (g := (mkF m 11 #[rv a, rv b, iv ax, iv va, .val (.long ct), .second] [(.long ct), (.int (6 : Int32)), (.ref b)])) rfl rfl (hb hby own_d166)
    refine own_to (mkF m 12 #[rv a, rv b, iv ax, iv va, .val (.long ct), .second] []) st232 ?_
    have N232 := Fr.snoc X232 N0 ge_b
    have tmp232 : Arv Z h232 b kb .long (10 : Int32) [(.long ff), (.long (ff + (1 : Int64))), (.long (ff + (2 : Int64))), (.long (ff + (3 : Int64))), (.long (ff + (4 : Int64))), (.long (ff + (5 : Int64))), (.long ct), (.long (ff + (7 : Int64))), (.long (ff + (8 : Int64))), (.long (ff + (9 : Int64)))] (.long (0 : Int64)) := Arv.set Ar232 q232 S232 M232 H232 G232 rfl W232 6 rfl (Nat.le_of_ble_eq_true rfl)
    have OL := OL.wr W232 ge_b
    have KP := KP.wr W232 (Or.inl (List.mem_of_getElem? (i := 0) rfl))
    have Fk := Fk.other W232 (Or.inl ne_a_b)
    have Vb := tmp232
    exact own_ret0 X232 hx Bd.returns hlk (hb hby own_d167) (by decide) (by decide) (by rw [e232]; exact ⟨rfl, N232, KP, by simpa using Vb⟩)
  · subst q
    refine own_to (T' := T225) (mkF m 11 #[rv a, rv b, iv ax, iv va, .val (.long ct), .second] [(.long ct), (.int (7 : Int32)), (.ref b)]) (fun _ k => XS.lload X225.here hx rfl (hb hby own_d165) rfl k) ?_
    obtain ⟨cl233, Ar233, q233, S233, M233, H233, G233⟩ := id Vb
    obtain ⟨T233, h233, X233, e233, W233, st233⟩ := stJ X225 hx hZ e225 Ar233 (j := (7 : Int32)) (inb_of S233 ⟨by decide, by decide⟩) (g := (mkF m 11 #[rv a, rv b, iv ax, iv va, .val (.long ct), .second] [(.long ct), (.int (7 : Int32)), (.ref b)])) rfl rfl (hb hby own_d166)
    refine own_to (mkF m 12 #[rv a, rv b, iv ax, iv va, .val (.long ct), .second] []) st233 ?_
    have N233 := Fr.snoc X233 N0 ge_b
    have tmp233 : Arv Z h233 b kb .long (10 : Int32) [(.long ff), (.long (ff + (1 : Int64))), (.long (ff + (2 : Int64))), (.long (ff + (3 : Int64))), (.long (ff + (4 : Int64))), (.long (ff + (5 : Int64))), (.long (ff + (6 : Int64))), (.long ct), (.long (ff + (8 : Int64))), (.long (ff + (9 : Int64)))] (.long (0 : Int64)) := Arv.set Ar233 q233 S233 M233 H233 G233 rfl W233 7 rfl (Nat.le_of_ble_eq_true rfl)
    have OL := OL.wr W233 ge_b
    have KP := KP.wr W233 (Or.inl (List.mem_of_getElem? (i := 0) rfl))
    have Fk := Fk.other W233 (Or.inl ne_a_b)
    have Vb := tmp233
    exact own_ret0 X233 hx Bd.returns hlk (hb hby own_d167) (by decide) (by decide) (by rw [e233]; exact ⟨rfl, N233, KP, by simpa using Vb⟩)
  · subst q
    refine own_to (T' := T225) (mkF m 11 #[rv a, rv b, iv ax, iv va, .val (.long ct), .second] [(.long ct), (.int (8 : Int32)), (.ref b)]) (fun _ k => XS.lload X225.here hx rfl (hb hby own_d165) rfl k) ?_
    obtain ⟨cl234, Ar234, q234, S234, M234, H234, G234⟩ := id Vb
    obtain ⟨T234, h234, X234, e234, W234, st234⟩ := stJ X225 hx hZ e225 Ar234 (j := (8 : Int32)) (inb_of S234 ⟨by decide, by decide⟩) (g := (mkF m 11 #[rv a, rv b, iv ax, iv va, .val (.long ct), .second] [(.long ct), (.int (8 : Int32)), (.ref b)])) rfl rfl (hb hby own_d166)
    refine own_to (mkF m 12 #[rv a, rv b, iv ax, iv va, .val (.long ct), .second] []) st234 ?_
    have N234 := Fr.snoc X234 N0 ge_b
    have tmp234 : Arv Z h234 b kb .long (10 : Int32) [(.long ff), (.long (ff + (1 : Int64))), (.long (ff + (2 : Int64))), (.long (ff + (3 : Int64))), (.long (ff + (4 : Int64))), (.long (ff + (5 : Int64))), (.long (ff + (6 : Int64))), (.long (ff + (7 : Int64))), (.long ct), (.long (ff + (9 : Int64)))] (.long (0 : Int64)) := Arv.set Ar234 q234 S234 M234 H234 G234 rfl W234 8 rfl (Nat.le_of_ble_eq_true rfl)
    have OL := OL.wr W234 ge_b
    have KP := KP.wr W234 (Or.inl (List.mem_of_getElem? (i := 0) rfl))
    have Fk := Fk.other W234 (Or.inl ne_a_b)
    have Vb := tmp234
    exact own_ret0 X234 hx Bd.returns hlk (hb hby own_d167) (by decide) (by decide) (by rw [e234]; exact ⟨rfl, N234, KP, by simpa using Vb⟩)
  · subst q
    refine own_to (T' := T225) (mkF m 11 #[rv a, rv b, iv ax, iv va, .val (.long ct), .second] [(.long ct), (.int (9 : Int32)), (.ref b)]) (fun _ k => XS.lload X225.here hx rfl (hb hby own_d165) rfl k) ?_
    obtain ⟨cl235, Ar235, q235, S235, M235, H235, G235⟩ := id Vb
    obtain ⟨T235, h235, X235, e235, W235, st235⟩ := stJ X225 hx hZ e225 Ar235 (j := (9 : Int32)) (inb_of S235 ⟨by decide, by decide⟩) (g := (mkF m 11 #[rv a, rv b, iv ax, iv va, .val (.long ct), .second] [(.long ct), (.int (9 : Int32)), (.ref b)])) rfl rfl (hb hby own_d166)
    refine own_to (mkF m 12 #[rv a, rv b, iv ax, iv va, .val (.long ct), .second] []) st235 ?_
    have N235 := Fr.snoc X235 N0 ge_b
    have tmp235 : Arv Z h235 b kb .long (10 : Int32) [(.long ff), (.long (ff + (1 : Int64))), (.long (ff + (2 : Int64))), (.long (ff + (3 : Int64))), (.long (ff + (4 : Int64))), (.long (ff + (5 : Int64))), (.long (ff + (6 : Int64))), (.long (ff + (7 : Int64))), (.long (ff + (8 : Int64))), (.long ct)] (.long (0 : Int64)) := Arv.set Ar235 q235 S235 M235 H235 G235 rfl W235 9 rfl (Nat.le_of_ble_eq_true rfl)
    have OL := OL.wr W235 ge_b
    have KP := KP.wr W235 (Or.inl (List.mem_of_getElem? (i := 0) rfl))
    have Fk := Fk.other W235 (Or.inl ne_a_b)
    have Vb := tmp235
    exact own_ret0 X235 hx Bd.returns hlk (hb hby own_d167) (by decide) (by decide) (by rw [e235]; exact ⟨rfl, N235, KP, by simpa using Vb⟩)
def own_QG (Z : State) (a b : Addr) (kb : ClassId) (ax va kl tg : Int32) (ct ff : Int64) (h0 : Heap) (n0 : Nat) (v : Option Value) (h : Heap) (L : List Loc) : Prop := v = some (.long ct) ∧ Fr n0 L ∧ h = h0
set_option maxRecDepth 65536 in
set_option maxHeartbeats 40000000 in
theorem own_rmG (l : Launch) (Z : State) (a0 : Array Value) (hw : ∀ d ∈ tables_1, d.before a0 Z = true) (ws : List Jvm.Cond) (a b : Addr) (kb : ClassId) (ax va kl tg : Int32) (ct ff : Int64) (h0 : Heap) (n0 : Nat) (Z0 : n0 ≤ h0.size) (OL : Old Z n0 h0) (Fk : Fld Z h0 a "com/example/gramstead/gramstead/estimation/RecordLayout" "keyLongs" "I" (.int kl)) (Vb : Arv Z h0 b kb .long (10 : Int32) [(.long (if tg = (0 : Int32) then ct else ff)), (.long (if tg = (1 : Int32) then ct else (ff + (1 : Int64)))), (.long (if tg = (2 : Int32) then ct else (ff + (2 : Int64)))), (.long (if tg = (3 : Int32) then ct else (ff + (3 : Int64)))), (.long (if tg = (4 : Int32) then ct else (ff + (4 : Int64)))), (.long (if tg = (5 : Int32) then ct else (ff + (5 : Int64)))), (.long (if tg = (6 : Int32) then ct else (ff + (6 : Int64)))), (.long (if tg = (7 : Int32) then ct else (ff + (7 : Int64)))), (.long (if tg = (8 : Int32) then ct else (ff + (8 : Int64)))), (.long (if tg = (9 : Int32) then ct else (ff + (9 : Int64))))] (.long (0 : Int64))) (htg : ((ax + kl) + va) = tg) (h10 : tg = 0 ∨ tg = 1 ∨ tg = 2 ∨ tg = 3 ∨ tg = 4 ∨ tg = 5 ∨ tg = 6 ∨ tg = 7 ∨ tg = 8 ∨ tg = 9) :
    own_MF l (⟨"com/example/gramstead/gramstead/estimation/RecordLayout", "getLong", "([JII)J"⟩ : MethodName) (Jvm.Cond.code (⟨"com/example/gramstead/gramstead/estimation/RecordLayout", "getLong", "([JII)J"⟩ : MethodName) prog_19_method_8_code 4 (some .long) :: ws) ({ frames := 0, cells := 0, slots := 0, locals := 0 } : Room) #[(.ref a), (.ref b), (.int ax), (.int va)] Z h0 (own_QG Z a b kb ax va kl tg ct ff h0 n0) := by
  refine MetFree.of_bodySF (plainFor_of_name own_pn1) hisR ?_
  intro p e s m args below meth c s₁ Bd hml0 hP hK
  obtain ⟨rfl, hZ, hh⟩ := hP
  have hx := Bd.exec
  have hby := Bd.bytes
  have hlk : meth.locks = false := BodyLoose.notSynchronized Bd
  have hml : c.maxLocals = 4 := hml0
  have hown : s.vm.findClass "com/example/gramstead/gramstead/estimation/RecordLayout" = some m.cls := findClass_of_methodNamed Bd.named
  have hnm := (name_of_methodNamed Bd.named Bd.method).1
  have X0 : Stand p l e ({ frames := 0, cells := 0, slots := 0, locals := 0 } : Room) s m #[(.ref a), (.ref b), (.int ax), (.int va)] below meth c s₁ [] 0 0 := Stand.of_body Bd
  have e0 : s₁.heap = h0 := by rw [← hh, Bd.state]; rfl
  have N0 := Fr.nil n0
  have KP : Keep h0 h0 [] := Keep.refl _ _
  refine own_start (Fin := (own_Fin s (own_QG Z a b kb ax va kl tg ct ff h0 n0) ({ frames := 0, cells := 0, slots := 0, locals := 0 } : Room).cells ({ frames := 0, cells := 0, slots := 0, locals := 0 } : Room).slots)) (own_from (mkF m 0 #[rv a, rv b, iv ax, iv va] []) (castTop (own_ef_G m a b ax va)) ?_)
  refine own_aln 1 X0 hx (hb hby own_d168) rfl rfl rfl ?_
  refine own_iln 2 X0 hx (hb hby own_d169) rfl rfl ?_
  refine own_aln 3 X0 hx (hb hby own_d170) rfl rfl rfl ?_
  obtain ⟨T236, X236, e236, st236⟩ := getF X0 hx hZ hown (host := "") (Or.inl (own_w hw 40 rfl)) Via.refl e0 Fk (g := (mkF m 3 #[rv a, rv b, iv ax, iv va] [(.ref a), (.int ax), (.ref b)])) rfl rfl (hb hby own_d171)
  refine own_to (mkF m 6 #[rv a, rv b, iv ax, iv va] [(.int kl), (.int ax), (.ref b)]) st236 ?_
  refine own_iadd 7 X236 hx (hb hby own_d172) rfl rfl ?_
  refine own_iln 8 X236 hx (hb hby own_d173) rfl rfl ?_
  refine own_iadd 9 X236 hx (hb hby own_d174) rfl rfl ?_
  rw [htg]
  rcases h10 with q | q | q | q | q | q | q | q | q | q
  · subst q
    obtain ⟨cl237, Ar237, -, S237, -, H237, -⟩ := id Vb
    refine own_to (mkF m 10 #[rv a, rv b, iv ax, iv va] [(.long (if (0 : Int32) = (0 : Int32) then ct else ff))]) (X236.laload hx (j := (0 : Int32)) (v := (.long (if (0 : Int32) = (0 : Int32) then ct else ff))) (by rw [e236]; exact Ar237.1) (State.isArrayOf_alike hZ.alike Ar237.2.1) Ar237.2.2 (inb_of S237 ⟨by decide, by decide⟩) (H237.at (inb_of S237 ⟨by decide, by decide⟩) rfl) (g := (mkF m 9 #[rv a, rv b, iv ax, iv va] [(.int (0 : Int32)), (.ref b)])) rfl rfl (hb hby own_d175)) ?_
    exact own_retJ X236 hx Bd.returns hlk (hb hby own_d176) (by decide) (by decide) (by rw [e236]; exact ⟨by simp, N0, rfl⟩)
  · subst q
    obtain ⟨cl238, Ar238, -, S238, -, H238, -⟩ := id Vb
    refine own_to (mkF m 10 #[rv a, rv b, iv ax, iv va] [(.long (if (1 : Int32) = (1 : Int32) then ct else (ff + (1 : Int64))))]) (X236.laload hx (j := (1 : Int32)) (v := (.long (if (1 : Int32) = (1 : Int32) then ct else (ff + (1 : Int64))))) (by rw [e236]; exact Ar238.1) (State.isArrayOf_alike hZ.alike Ar238.2.1) Ar238.2.2 (inb_of S238 ⟨by decide, by decide⟩) (H238.at (inb_of S238 ⟨by decide, by decide⟩) rfl) (g := (mkF m 9 #[rv a, rv b, iv ax, iv va] [(.int (1 : Int32)), (.ref b)])) rfl rfl (hb hby own_d175)) ?_
    exact own_retJ X236 hx Bd.returns hlk (hb hby own_d176) (by decide) (by decide) (by rw [e236]; exact ⟨by simp, N0, rfl⟩)
  · subst q
    obtain ⟨cl239, Ar239, -, S239, -, H239, -⟩ := id Vb
    refine own_to (mkF m 10 #[rv a, rv b, iv ax, iv va] [(.long (if (2 : Int32) = (2 : Int32) then ct else (ff + (2 : Int64))))]) (X236.laload hx (j := (2 : Int32)) (v := (.long (if (2 : Int32) = (2 : Int32) then ct else (ff + (2 : Int64))))) (by rw [e236]; exact Ar239.1) (State.isArrayOf_alike hZ.alike Ar239.2.1) Ar239.2.2 (inb_of S239 ⟨by decide, by decide⟩) (H239.at (inb_of S239 ⟨by decide, by decide⟩) rfl) (g := (mkF m 9 #[rv a, rv b, iv ax, iv va] [(.int (2 : Int32)), (.ref b)])) rfl rfl (hb hby own_d175)) ?_
    exact own_retJ X236 hx Bd.returns hlk (hb hby own_d176) (by decide) (by decide) (by rw [e236]; exact ⟨by simp, N0, rfl⟩)
  · subst q
    obtain ⟨cl240, Ar240, -, S240, -, H240, -⟩ := id Vb
    refine own_to (mkF m 10 #[rv a, rv b, iv ax, iv va] [(.long (if (3 : Int32) = (3 : Int32) then ct else (ff + (3 : Int64))))]) (X236.laload hx (j := (3 : Int32)) (v := (.long (if (3 : Int32) = (3 : Int32) then ct else (ff + (3 : Int64))))) (by rw [e236]; exact Ar240.1) (State.isArrayOf_alike hZ.alike Ar240.2.1) Ar240.2.2 (inb_of S240 ⟨by decide, by decide⟩) (H240.at (inb_of S240 ⟨by decide, by decide⟩) rfl) (g := (mkF m 9 #[rv a, rv b, iv ax, iv va] [(.int (3 : Int32)), (.ref b)])) rfl rfl (hb hby own_d175)) ?_
    exact own_retJ X236 hx Bd.returns hlk (hb hby own_d176) (by decide) (by decide) (by rw [e236]; exact ⟨by simp, N0, rfl⟩)
  · subst q
    obtain ⟨cl241, Ar241, -, S241, -, H241, -⟩ := id Vb
    refine own_to (mkF m 10 #[rv a, rv b, iv ax, iv va] [(.long (if (4 : Int32) = (4 : Int32) then ct else (ff + (4 : Int64))))]) (X236.laload hx (j := (4 : Int32)) (v := (.long (if (4 : Int32) = (4 : Int32) then ct else (ff + (4 : Int64))))) (by rw [e236]; exact Ar241.1) (State.isArrayOf_alike hZ.alike Ar241.2.1) Ar241.2.2 (inb_of S241 ⟨by decide, by decide⟩) (H241.at (inb_of S241 ⟨by decide, by decide⟩) rfl) (g := (mkF m 9 #[rv a, rv b, iv ax, iv va] [(.int (4 : Int32)), (.ref b)])) rfl rfl (hb hby own_d175)) ?_
    exact own_retJ X236 hx Bd.returns hlk (hb hby own_d176) (by decide) (by decide) (by rw [e236]; exact ⟨by simp, N0, rfl⟩)
  · subst q
    obtain ⟨cl242, Ar242, -, S242, -, H242, -⟩ := id Vb
    refine own_to (mkF m 10 #[rv a, rv b, iv ax, iv va] [(.long (if (5 : Int32) = (5 : Int32) then ct else (ff + (5 : Int64))))]) (X236.laload hx (j := (5 : Int32)) (v := (.long (if (5 : Int32) = (5 : Int32) then ct else (ff + (5 : Int64))))) (by rw [e236]; exact Ar242.1) (State.isArrayOf_alike hZ.alike Ar242.2.1) Ar242.2.2 (inb_of S242 ⟨by decide, by decide⟩) (H242.at (inb_of S242 ⟨by decide, by decide⟩) rfl) (g := (mkF m 9 #[rv a, rv b, iv ax, iv va] [(.int (5 : Int32)), (.ref b)])) rfl rfl (hb hby own_d175)) ?_
    exact own_retJ X236 hx Bd.returns hlk (hb hby own_d176) (by decide) (by decide) (by rw [e236]; exact ⟨by simp, N0, rfl⟩)
  · subst q
    obtain ⟨cl243, Ar243, -, S243, -, H243, -⟩ := id Vb
    refine own_to (mkF m 10 #[rv a, rv b, iv ax, iv va] [(.long (if (6 : Int32) = (6 : Int32) then ct else (ff + (6 : Int64))))]) (X236.laload hx (j := (6 : Int32)) (v := (.long (if (6 : Int32) = (6 : Int32) then ct else (ff + (6 : Int64))))) (by rw [e236]; exact Ar243.1) (State.isArrayOf_alike hZ.alike Ar243.2.1) Ar243.2.2 (inb_of S243 ⟨by decide, by decide⟩) (H243.at (inb_of S243 ⟨by decide, by decide⟩) rfl) (g := (mkF m 9 #[rv a, rv b, iv ax, iv va] [(.int (6 : Int32)), (.ref b)])) rfl rfl (hb hby own_d175)) ?_
    exact own_retJ X236 hx Bd.returns hlk (hb hby own_d176) (by decide) (by decide) (by rw [e236]; exact ⟨by simp, N0, rfl⟩)
  · subst q
    obtain ⟨cl244, Ar244, -, S244, -, H244, -⟩ := id Vb
    refine own_to (mkF m 10 #[rv a, rv b, iv ax, iv va] [(.long (if (7 : Int32) = (7 : Int32) then ct else (ff + (7 : Int64))))]) (X236.laload hx (j := (7 : Int32)) (v := (.long (if (7 : Int32) = (7 : Int32) then ct else (ff + (7 : Int64))))) (by rw [e236]; exact Ar244.1) (State.isArrayOf_alike hZ.alike Ar244.2.1) Ar244.2.2 (inb_of S244 ⟨by decide, by decide⟩) (H244.at (inb_of S244 ⟨by decide, by decide⟩) rfl) (g := (mkF m 9 #[rv a, rv b, iv ax, iv va] [(.int (7 : Int32)), (.ref b)])) rfl rfl (hb hby own_d175)) ?_
    exact own_retJ X236 hx Bd.returns hlk (hb hby own_d176) (by decide) (by decide) (by rw [e236]; exact ⟨by simp, N0, rfl⟩)
  · subst q
    obtain ⟨cl245, Ar245, -, S245, -, H245, -⟩ := id Vb
    refine own_to (mkF m 10 #[rv a, rv b, iv ax, iv va] [(.long (if (8 : Int32) = (8 : Int32) then ct else (ff + (8 : Int64))))]) (X236.laload hx (j := (8 : Int32)) (v := (.long (if (8 : Int32) = (8 : Int32) then ct else (ff + (8 : Int64))))) (by rw [e236]; exact Ar245.1) (State.isArrayOf_alike hZ.alike Ar245.2.1) Ar245.2.2 (inb_of S245 ⟨by decide, by decide⟩) (H245.at (inb_of S245 ⟨by decide, by decide⟩) rfl) (g := (mkF m 9 #[rv a, rv b, iv ax, iv va] [(.int (8 : Int32)), (.ref b)])) rfl rfl (hb hby own_d175)) ?_
    exact own_retJ X236 hx Bd.returns hlk (hb hby own_d176) (by decide) (by decide) (by rw [e236]; exact ⟨by simp, N0, rfl⟩)
  · subst q
    obtain ⟨cl246, Ar246, -, S246, -, H246, -⟩ := id Vb
    refine own_to (mkF m 10 #[rv a, rv b, iv ax, iv va] [(.long (if (9 : Int32) = (9 : Int32) then ct else (ff + (9 : Int64))))]) (X236.laload hx (j := (9 : Int32)) (v := (.long (if (9 : Int32) = (9 : Int32) then ct else (ff + (9 : Int64))))) (by rw [e236]; exact Ar246.1) (State.isArrayOf_alike hZ.alike Ar246.2.1) Ar246.2.2 (inb_of S246 ⟨by decide, by decide⟩) (H246.at (inb_of S246 ⟨by decide, by decide⟩) rfl) (g := (mkF m 9 #[rv a, rv b, iv ax, iv va] [(.int (9 : Int32)), (.ref b)])) rfl rfl (hb hby own_d175)) ?_
    exact own_retJ X236 hx Bd.returns hlk (hb hby own_d176) (by decide) (by decide) (by rw [e236]; exact ⟨by simp, N0, rfl⟩)
def own_QE0 (Z : State) (b : Addr) (kb : ClassId) (tg : Int32) (ct ff : Int64) (h0 : Heap) (n0 : Nat) (v : Option Value) (h : Heap) (L : List Loc) : Prop := v = some (.int 1) ∧ Fr n0 L ∧ h = h0
set_option maxRecDepth 65536 in
set_option maxHeartbeats 40000000 in
theorem own_rmE0 (l : Launch) (Z : State) (a0 : Array Value) (hw : ∀ d ∈ tables_1, d.before a0 Z = true) (ws : List Jvm.Cond) (b : Addr) (kb : ClassId) (tg : Int32) (ct ff : Int64) (h0 : Heap) (n0 : Nat) (Z0 : n0 ≤ h0.size) (OL : Old Z n0 h0) (Vb : Arv Z h0 b kb .long (10 : Int32) [(.long (if tg = (0 : Int32) then ct else ff)), (.long (if tg = (1 : Int32) then ct else (ff + (1 : Int64)))), (.long (if tg = (2 : Int32) then ct else (ff + (2 : Int64)))), (.long (if tg = (3 : Int32) then ct else (ff + (3 : Int64)))), (.long (if tg = (4 : Int32) then ct else (ff + (4 : Int64)))), (.long (if tg = (5 : Int32) then ct else (ff + (5 : Int64)))), (.long (if tg = (6 : Int32) then ct else (ff + (6 : Int64)))), (.long (if tg = (7 : Int32) then ct else (ff + (7 : Int64)))), (.long (if tg = (8 : Int32) then ct else (ff + (8 : Int64)))), (.long (if tg = (9 : Int32) then ct else (ff + (9 : Int64))))] (.long (0 : Int64))) :
    own_MF l (⟨"com/example/gramstead/gramstead/estimation/RecordLayoutPutLongPinLaw", "cell", "([JIIJJ)Z"⟩ : MethodName) (Jvm.Cond.code (⟨"com/example/gramstead/gramstead/estimation/RecordLayoutPutLongPinLaw", "cell", "([JIIJJ)Z"⟩ : MethodName) method_2_code 7 (some .boolean) :: ws) ({ frames := 0, cells := 0, slots := 0, locals := 0 } : Room) #[(.ref b), (.int (0 : Int32)), (.int tg), (.long ct), (.long ff)] Z h0 (own_QE0 Z b kb tg ct ff h0 n0) := by
  refine MetFree.of_bodySF (plainFor_of_name own_pn2) hisR ?_
  intro p e s m args below meth c s₁ Bd hml0 hP hK
  obtain ⟨rfl, hZ, hh⟩ := hP
  have hx := Bd.exec
  have hby := Bd.bytes
  have hlk : meth.locks = false := BodyLoose.notSynchronized Bd
  have hml : c.maxLocals = 7 := hml0
  have hown : s.vm.findClass "com/example/gramstead/gramstead/estimation/RecordLayoutPutLongPinLaw" = some m.cls := findClass_of_methodNamed Bd.named
  have hnm := (name_of_methodNamed Bd.named Bd.method).1
  have X0 : Stand p l e ({ frames := 0, cells := 0, slots := 0, locals := 0 } : Room) s m #[(.ref b), (.int (0 : Int32)), (.int tg), (.long ct), (.long ff)] below meth c s₁ [] 0 0 := Stand.of_body Bd
  have e0 : s₁.heap = h0 := by rw [← hh, Bd.state]; rfl
  have N0 := Fr.nil n0
  have KP : Keep h0 h0 [] := Keep.refl _ _
  refine own_start (Fin := (own_Fin s (own_QE0 Z b kb tg ct ff h0 n0) ({ frames := 0, cells := 0, slots := 0, locals := 0 } : Room).cells ({ frames := 0, cells := 0, slots := 0, locals := 0 } : Room).slots)) (own_from (mkF m 0 #[rv b, iv 0, iv tg, .val (.long ct), .second, .val (.long ff), .second] []) (castTop (own_ef_E0 m b (0 : Int32) tg ct ff)) ?_)
  refine own_aln 1 X0 hx (hb hby own_d177) rfl rfl rfl ?_
  refine own_iln 2 X0 hx (hb hby own_d178) rfl rfl ?_
  obtain ⟨cl247, Ar247, -, S247, -, H247, -⟩ := id Vb
  refine own_to (mkF m 3 #[rv b, iv 0, iv tg, .val (.long ct), .second, .val (.long ff), .second] [(.long (if tg = (0 : Int32) then ct else ff))]) (X0.laload hx (j := (0 : Int32)) (v := (.long (if tg = (0 : Int32) then ct else ff))) (by rw [e0]; exact Ar247.1) (State.isArrayOf_alike hZ.alike Ar247.2.1) Ar247.2.2 (inb_of S247 ⟨by decide, by decide⟩) (H247.at (inb_of S247 ⟨by decide, by decide⟩) rfl) (g := (mkF m 2 #[rv b, iv 0, iv tg, .val (.long ct), .second, .val (.long ff), .second] [(.int (0 : Int32)), (.ref b)])) rfl rfl (hb hby own_d179)) ?_
  refine own_iln 4 X0 hx (hb hby own_d180) rfl rfl ?_
  refine own_iln 5 X0 hx (hb hby own_d181) rfl rfl ?_
  by_cases hj : (0 : Int32) = tg
  · refine own_icN 8 X0 hx (hb hby own_d182) (teq hj).2 rfl ?_
    refine own_to (T' := s₁) (mkF m 9 #[rv b, iv 0, iv tg, .val (.long ct), .second, .val (.long ff), .second] [(.long ct), (.long (if tg = (0 : Int32) then ct else ff))]) (fun _ k => XS.lloadN X0.here hx rfl (hb hby own_d183) rfl k) ?_
    refine own_go 17 X0 hx (hb hby own_d184) (by decide) (by decide) ?_
    refine own_to (T' := s₁) (mkF m 18 #[rv b, iv 0, iv tg, .val (.long ct), .second, .val (.long ff), .second] [(.int (lcmpW (if tg = (0 : Int32) then ct else ff) ct))]) (fun _ k => XS.lcmp X0.here hx rfl (hb hby own_d185) rfl k) ?_
    refine own_ifN 21 X0 hx (hb hby own_d186) ((if0 _ _).trans (teq ((lw_eq _ _).mpr (by rw [if_pos hj.symm]))).2) rfl ?_
    refine own_ic 22 1 X0 hx (hb hby own_d191) rfl rfl ?_
    refine own_go 26 X0 hx (hb hby own_d192) (by decide) (by decide) ?_
    exact own_retN X0 hx (t := .boolean) Bd.returns (by simp) hlk (hb hby own_d193) (by decide) (by decide) (by rw [e0]; exact ⟨rfl, N0, rfl⟩)
  · refine own_icY 12 X0 hx (hb hby own_d182) (feq hj).2 (by decide) (by decide) ?_
    refine own_to (T' := s₁) (mkF m 14 #[rv b, iv 0, iv tg, .val (.long ct), .second, .val (.long ff), .second] [(.long ff), (.long (if tg = (0 : Int32) then ct else ff))]) (fun _ k => XS.lload X0.here hx rfl (hb hby own_d187) rfl k) ?_
    refine own_iln 15 X0 hx (hb hby own_d188) rfl rfl ?_
    refine own_to (T' := s₁) (mkF m 16 #[rv b, iv 0, iv tg, .val (.long ct), .second, .val (.long ff), .second] [(.long ((0 : Int32).toInt64)), (.long ff), (.long (if tg = (0 : Int32) then ct else ff))]) (fun _ k => XS.i2l X0.here hx rfl (hb hby own_d189) rfl k) ?_
    refine own_to (T' := s₁) (mkF m 17 #[rv b, iv 0, iv tg, .val (.long ct), .second, .val (.long ff), .second] [(.long (ff + ((0 : Int32).toInt64))), (.long (if tg = (0 : Int32) then ct else ff))]) (fun _ k => XS.ladd X0.here hx rfl (hb hby own_d190) rfl k) ?_
    refine own_to (T' := s₁) (mkF m 18 #[rv b, iv 0, iv tg, .val (.long ct), .second, .val (.long ff), .second] [(.int (lcmpW (if tg = (0 : Int32) then ct else ff) (ff + ((0 : Int32).toInt64))))]) (fun _ k => XS.lcmp X0.here hx rfl (hb hby own_d185) rfl k) ?_
    refine own_ifN 21 X0 hx (hb hby own_d186) ((if0 _ _).trans (teq ((lw_eq _ _).mpr (by rw [if_neg (fun z => hj z.symm)]; exact own_f0 ff))).2) rfl ?_
    refine own_ic 22 1 X0 hx (hb hby own_d191) rfl rfl ?_
    refine own_go 26 X0 hx (hb hby own_d192) (by decide) (by decide) ?_
    exact own_retN X0 hx (t := .boolean) Bd.returns (by simp) hlk (hb hby own_d193) (by decide) (by decide) (by rw [e0]; exact ⟨rfl, N0, rfl⟩)
def own_QE1 (Z : State) (b : Addr) (kb : ClassId) (tg : Int32) (ct ff : Int64) (h0 : Heap) (n0 : Nat) (v : Option Value) (h : Heap) (L : List Loc) : Prop := v = some (.int 1) ∧ Fr n0 L ∧ h = h0
set_option maxRecDepth 65536 in
set_option maxHeartbeats 40000000 in
theorem own_rmE1 (l : Launch) (Z : State) (a0 : Array Value) (hw : ∀ d ∈ tables_1, d.before a0 Z = true) (ws : List Jvm.Cond) (b : Addr) (kb : ClassId) (tg : Int32) (ct ff : Int64) (h0 : Heap) (n0 : Nat) (Z0 : n0 ≤ h0.size) (OL : Old Z n0 h0) (Vb : Arv Z h0 b kb .long (10 : Int32) [(.long (if tg = (0 : Int32) then ct else ff)), (.long (if tg = (1 : Int32) then ct else (ff + (1 : Int64)))), (.long (if tg = (2 : Int32) then ct else (ff + (2 : Int64)))), (.long (if tg = (3 : Int32) then ct else (ff + (3 : Int64)))), (.long (if tg = (4 : Int32) then ct else (ff + (4 : Int64)))), (.long (if tg = (5 : Int32) then ct else (ff + (5 : Int64)))), (.long (if tg = (6 : Int32) then ct else (ff + (6 : Int64)))), (.long (if tg = (7 : Int32) then ct else (ff + (7 : Int64)))), (.long (if tg = (8 : Int32) then ct else (ff + (8 : Int64)))), (.long (if tg = (9 : Int32) then ct else (ff + (9 : Int64))))] (.long (0 : Int64))) :
    own_MF l (⟨"com/example/gramstead/gramstead/estimation/RecordLayoutPutLongPinLaw", "cell", "([JIIJJ)Z"⟩ : MethodName) (Jvm.Cond.code (⟨"com/example/gramstead/gramstead/estimation/RecordLayoutPutLongPinLaw", "cell", "([JIIJJ)Z"⟩ : MethodName) method_2_code 7 (some .boolean) :: ws) ({ frames := 0, cells := 0, slots := 0, locals := 0 } : Room) #[(.ref b), (.int (1 : Int32)), (.int tg), (.long ct), (.long ff)] Z h0 (own_QE1 Z b kb tg ct ff h0 n0) := by
  refine MetFree.of_bodySF (plainFor_of_name own_pn2) hisR ?_
  intro p e s m args below meth c s₁ Bd hml0 hP hK
  obtain ⟨rfl, hZ, hh⟩ := hP
  have hx := Bd.exec
  have hby := Bd.bytes
  have hlk : meth.locks = false := BodyLoose.notSynchronized Bd
  have hml : c.maxLocals = 7 := hml0
  have hown : s.vm.findClass "com/example/gramstead/gramstead/estimation/RecordLayoutPutLongPinLaw" = some m.cls := findClass_of_methodNamed Bd.named
  have hnm := (name_of_methodNamed Bd.named Bd.method).1
  have X0 : Stand p l e ({ frames := 0, cells := 0, slots := 0, locals := 0 } : Room) s m #[(.ref b), (.int (1 : Int32)), (.int tg), (.long ct), (.long ff)] below meth c s₁ [] 0 0 := Stand.of_body Bd
  have e0 : s₁.heap = h0 := by rw [← hh, Bd.state]; rfl
  have N0 := Fr.nil n0
  have KP : Keep h0 h0 [] := Keep.refl _ _
  refine own_start (Fin := (own_Fin s (own_QE1 Z b kb tg ct ff h0 n0) ({ frames := 0, cells := 0, slots := 0, locals := 0 } : Room).cells ({ frames := 0, cells := 0, slots := 0, locals := 0 } : Room).slots)) (own_from (mkF m 0 #[rv b, iv 1, iv tg, .val (.long ct), .second, .val (.long ff), .second] []) (castTop (own_ef_E1 m b (1 : Int32) tg ct ff)) ?_)
  refine own_aln 1 X0 hx (hb hby own_d177) rfl rfl rfl ?_
  refine own_iln 2 X0 hx (hb hby own_d178) rfl rfl ?_
  obtain ⟨cl248, Ar248, -, S248, -, H248, -⟩ := id Vb
  refine own_to (mkF m 3 #[rv b, iv 1, iv tg, .val (.long ct), .second, .val (.long ff), .second] [(.long (if tg = (1 : Int32) then ct else (ff + (1 : Int64))))]) (X0.laload hx (j := (1 : Int32)) (v := (.long (if tg = (1 : Int32) then ct else (ff + (1 : Int64))))) (by rw [e0]; exact Ar248.1) (State.isArrayOf_alike hZ.alike Ar248.2.1) Ar248.2.2 (inb_of S248 ⟨by decide, by decide⟩) (H248.at (inb_of S248 ⟨by decide, by decide⟩) rfl) (g := (mkF m 2 #[rv b, iv 1, iv tg, .val (.long ct), .second, .val (.long ff), .second] [(.int (1 : Int32)), (.ref b)])) rfl rfl (hb hby own_d179)) ?_
  refine own_iln 4 X0 hx (hb hby own_d180) rfl rfl ?_
  refine own_iln 5 X0 hx (hb hby own_d181) rfl rfl ?_
  by_cases hj : (1 : Int32) = tg
  · refine own_icN 8 X0 hx (hb hby own_d182) (teq hj).2 rfl ?_
    refine own_to (T' := s₁) (mkF m 9 #[rv b, iv 1, iv tg, .val (.long ct), .second, .val (.long ff), .second] [(.long ct), (.long (if tg = (1 : Int32) then ct else (ff + (1 : Int64))))]) (fun _ k => XS.lloadN X0.here hx rfl (hb hby own_d183) rfl k) ?_
    refine own_go 17 X0 hx (hb hby own_d184) (by decide) (by decide) ?_
    refine own_to (T' := s₁) (mkF m 18 #[rv b, iv 1, iv tg, .val (.long ct), .second, .val (.long ff), .second] [(.int (lcmpW (if tg = (1 : Int32) then ct else (ff + (1 : Int64))) ct))]) (fun _ k => XS.lcmp X0.here hx rfl (hb hby own_d185) rfl k) ?_
    refine own_ifN 21 X0 hx (hb hby own_d186) ((if0 _ _).trans (teq ((lw_eq _ _).mpr (by rw [if_pos hj.symm]))).2) rfl ?_
    refine own_ic 22 1 X0 hx (hb hby own_d191) rfl rfl ?_
    refine own_go 26 X0 hx (hb hby own_d192) (by decide) (by decide) ?_
    exact own_retN X0 hx (t := .boolean) Bd.returns (by simp) hlk (hb hby own_d193) (by decide) (by decide) (by rw [e0]; exact ⟨rfl, N0, rfl⟩)
  · refine own_icY 12 X0 hx (hb hby own_d182) (feq hj).2 (by decide) (by decide) ?_
    refine own_to (T' := s₁) (mkF m 14 #[rv b, iv 1, iv tg, .val (.long ct), .second, .val (.long ff), .second] [(.long ff), (.long (if tg = (1 : Int32) then ct else (ff + (1 : Int64))))]) (fun _ k => XS.lload X0.here hx rfl (hb hby own_d187) rfl k) ?_
    refine own_iln 15 X0 hx (hb hby own_d188) rfl rfl ?_
    refine own_to (T' := s₁) (mkF m 16 #[rv b, iv 1, iv tg, .val (.long ct), .second, .val (.long ff), .second] [(.long ((1 : Int32).toInt64)), (.long ff), (.long (if tg = (1 : Int32) then ct else (ff + (1 : Int64))))]) (fun _ k => XS.i2l X0.here hx rfl (hb hby own_d189) rfl k) ?_
    refine own_to (T' := s₁) (mkF m 17 #[rv b, iv 1, iv tg, .val (.long ct), .second, .val (.long ff), .second] [(.long (ff + ((1 : Int32).toInt64))), (.long (if tg = (1 : Int32) then ct else (ff + (1 : Int64))))]) (fun _ k => XS.ladd X0.here hx rfl (hb hby own_d190) rfl k) ?_
    refine own_to (T' := s₁) (mkF m 18 #[rv b, iv 1, iv tg, .val (.long ct), .second, .val (.long ff), .second] [(.int (lcmpW (if tg = (1 : Int32) then ct else (ff + (1 : Int64))) (ff + ((1 : Int32).toInt64))))]) (fun _ k => XS.lcmp X0.here hx rfl (hb hby own_d185) rfl k) ?_
    refine own_ifN 21 X0 hx (hb hby own_d186) ((if0 _ _).trans (teq ((lw_eq _ _).mpr (by rw [if_neg (fun z => hj z.symm)]; rfl))).2) rfl ?_
    refine own_ic 22 1 X0 hx (hb hby own_d191) rfl rfl ?_
    refine own_go 26 X0 hx (hb hby own_d192) (by decide) (by decide) ?_
    exact own_retN X0 hx (t := .boolean) Bd.returns (by simp) hlk (hb hby own_d193) (by decide) (by decide) (by rw [e0]; exact ⟨rfl, N0, rfl⟩)
def own_QE2 (Z : State) (b : Addr) (kb : ClassId) (tg : Int32) (ct ff : Int64) (h0 : Heap) (n0 : Nat) (v : Option Value) (h : Heap) (L : List Loc) : Prop := v = some (.int 1) ∧ Fr n0 L ∧ h = h0
set_option maxRecDepth 65536 in
set_option maxHeartbeats 40000000 in
theorem own_rmE2 (l : Launch) (Z : State) (a0 : Array Value) (hw : ∀ d ∈ tables_1, d.before a0 Z = true) (ws : List Jvm.Cond) (b : Addr) (kb : ClassId) (tg : Int32) (ct ff : Int64) (h0 : Heap) (n0 : Nat) (Z0 : n0 ≤ h0.size) (OL : Old Z n0 h0) (Vb : Arv Z h0 b kb .long (10 : Int32) [(.long (if tg = (0 : Int32) then ct else ff)), (.long (if tg = (1 : Int32) then ct else (ff + (1 : Int64)))), (.long (if tg = (2 : Int32) then ct else (ff + (2 : Int64)))), (.long (if tg = (3 : Int32) then ct else (ff + (3 : Int64)))), (.long (if tg = (4 : Int32) then ct else (ff + (4 : Int64)))), (.long (if tg = (5 : Int32) then ct else (ff + (5 : Int64)))), (.long (if tg = (6 : Int32) then ct else (ff + (6 : Int64)))), (.long (if tg = (7 : Int32) then ct else (ff + (7 : Int64)))), (.long (if tg = (8 : Int32) then ct else (ff + (8 : Int64)))), (.long (if tg = (9 : Int32) then ct else (ff + (9 : Int64))))] (.long (0 : Int64))) :
    own_MF l (⟨"com/example/gramstead/gramstead/estimation/RecordLayoutPutLongPinLaw", "cell", "([JIIJJ)Z"⟩ : MethodName) (Jvm.Cond.code (⟨"com/example/gramstead/gramstead/estimation/RecordLayoutPutLongPinLaw", "cell", "([JIIJJ)Z"⟩ : MethodName) method_2_code 7 (some .boolean) :: ws) ({ frames := 0, cells := 0, slots := 0, locals := 0 } : Room) #[(.ref b), (.int (2 : Int32)), (.int tg), (.long ct), (.long ff)] Z h0 (own_QE2 Z b kb tg ct ff h0 n0) := by
  refine MetFree.of_bodySF (plainFor_of_name own_pn2) hisR ?_
  intro p e s m args below meth c s₁ Bd hml0 hP hK
  obtain ⟨rfl, hZ, hh⟩ := hP
  have hx := Bd.exec
  have hby := Bd.bytes
  have hlk : meth.locks = false := BodyLoose.notSynchronized Bd
  have hml : c.maxLocals = 7 := hml0
  have hown : s.vm.findClass "com/example/gramstead/gramstead/estimation/RecordLayoutPutLongPinLaw" = some m.cls := findClass_of_methodNamed Bd.named
  have hnm := (name_of_methodNamed Bd.named Bd.method).1
  have X0 : Stand p l e ({ frames := 0, cells := 0, slots := 0, locals := 0 } : Room) s m #[(.ref b), (.int (2 : Int32)), (.int tg), (.long ct), (.long ff)] below meth c s₁ [] 0 0 := Stand.of_body Bd
  have e0 : s₁.heap = h0 := by rw [← hh, Bd.state]; rfl
  have N0 := Fr.nil n0
  have KP : Keep h0 h0 [] := Keep.refl _ _
  refine own_start (Fin := (own_Fin s (own_QE2 Z b kb tg ct ff h0 n0) ({ frames := 0, cells := 0, slots := 0, locals := 0 } : Room).cells ({ frames := 0, cells := 0, slots := 0, locals := 0 } : Room).slots)) (own_from (mkF m 0 #[rv b, iv 2, iv tg, .val (.long ct), .second, .val (.long ff), .second] []) (castTop (own_ef_E2 m b (2 : Int32) tg ct ff)) ?_)
  refine own_aln 1 X0 hx (hb hby own_d177) rfl rfl rfl ?_
  refine own_iln 2 X0 hx (hb hby own_d178) rfl rfl ?_
  obtain ⟨cl249, Ar249, -, S249, -, H249, -⟩ := id Vb
  refine own_to (mkF m 3 #[rv b, iv 2, iv tg, .val (.long ct), .second, .val (.long ff), .second] [(.long (if tg = (2 : Int32) then ct else (ff + (2 : Int64))))]) (X0.laload hx (j := (2 : Int32)) (v := (.long (if tg = (2 : Int32) then ct else (ff + (2 : Int64))))) (by rw [e0]; exact Ar249.1) (State.isArrayOf_alike hZ.alike Ar249.2.1) Ar249.2.2 (inb_of S249 ⟨by decide, by decide⟩) (H249.at (inb_of S249 ⟨by decide, by decide⟩) rfl) (g := (mkF m 2 #[rv b, iv 2, iv tg, .val (.long ct), .second, .val (.long ff), .second] [(.int (2 : Int32)), (.ref b)])) rfl rfl (hb hby own_d179)) ?_
  refine own_iln 4 X0 hx (hb hby own_d180) rfl rfl ?_
  refine own_iln 5 X0 hx (hb hby own_d181) rfl rfl ?_
  by_cases hj : (2 : Int32) = tg
  · refine own_icN 8 X0 hx (hb hby own_d182) (teq hj).2 rfl ?_
    refine own_to (T' := s₁) (mkF m 9 #[rv b, iv 2, iv tg, .val (.long ct), .second, .val (.long ff), .second] [(.long ct), (.long (if tg = (2 : Int32) then ct else (ff + (2 : Int64))))]) (fun _ k => XS.lloadN X0.here hx rfl (hb hby own_d183) rfl k) ?_
    refine own_go 17 X0 hx (hb hby own_d184) (by decide) (by decide) ?_
    refine own_to (T' := s₁) (mkF m 18 #[rv b, iv 2, iv tg, .val (.long ct), .second, .val (.long ff), .second] [(.int (lcmpW (if tg = (2 : Int32) then ct else (ff + (2 : Int64))) ct))]) (fun _ k => XS.lcmp X0.here hx rfl (hb hby own_d185) rfl k) ?_
    refine own_ifN 21 X0 hx (hb hby own_d186) ((if0 _ _).trans (teq ((lw_eq _ _).mpr (by rw [if_pos hj.symm]))).2) rfl ?_
    refine own_ic 22 1 X0 hx (hb hby own_d191) rfl rfl ?_
    refine own_go 26 X0 hx (hb hby own_d192) (by decide) (by decide) ?_
    exact own_retN X0 hx (t := .boolean) Bd.returns (by simp) hlk (hb hby own_d193) (by decide) (by decide) (by rw [e0]; exact ⟨rfl, N0, rfl⟩)
  · refine own_icY 12 X0 hx (hb hby own_d182) (feq hj).2 (by decide) (by decide) ?_
    refine own_to (T' := s₁) (mkF m 14 #[rv b, iv 2, iv tg, .val (.long ct), .second, .val (.long ff), .second] [(.long ff), (.long (if tg = (2 : Int32) then ct else (ff + (2 : Int64))))]) (fun _ k => XS.lload X0.here hx rfl (hb hby own_d187) rfl k) ?_
    refine own_iln 15 X0 hx (hb hby own_d188) rfl rfl ?_
    refine own_to (T' := s₁) (mkF m 16 #[rv b, iv 2, iv tg, .val (.long ct), .second, .val (.long ff), .second] [(.long ((2 : Int32).toInt64)), (.long ff), (.long (if tg = (2 : Int32) then ct else (ff + (2 : Int64))))]) (fun _ k => XS.i2l X0.here hx rfl (hb hby own_d189) rfl k) ?_
    refine own_to (T' := s₁) (mkF m 17 #[rv b, iv 2, iv tg, .val (.long ct), .second, .val (.long ff), .second] [(.long (ff + ((2 : Int32).toInt64))), (.long (if tg = (2 : Int32) then ct else (ff + (2 : Int64))))]) (fun _ k => XS.ladd X0.here hx rfl (hb hby own_d190) rfl k) ?_
    refine own_to (T' := s₁) (mkF m 18 #[rv b, iv 2, iv tg, .val (.long ct), .second, .val (.long ff), .second] [(.int (lcmpW (if tg = (2 : Int32) then ct else (ff + (2 : Int64))) (ff + ((2 : Int32).toInt64))))]) (fun _ k => XS.lcmp X0.here hx rfl (hb hby own_d185) rfl k) ?_
    refine own_ifN 21 X0 hx (hb hby own_d186) ((if0 _ _).trans (teq ((lw_eq _ _).mpr (by rw [if_neg (fun z => hj z.symm)]; rfl))).2) rfl ?_
    refine own_ic 22 1 X0 hx (hb hby own_d191) rfl rfl ?_
    refine own_go 26 X0 hx (hb hby own_d192) (by decide) (by decide) ?_
    exact own_retN X0 hx (t := .boolean) Bd.returns (by simp) hlk (hb hby own_d193) (by decide) (by decide) (by rw [e0]; exact ⟨rfl, N0, rfl⟩)
def own_QE3 (Z : State) (b : Addr) (kb : ClassId) (tg : Int32) (ct ff : Int64) (h0 : Heap) (n0 : Nat) (v : Option Value) (h : Heap) (L : List Loc) : Prop := v = some (.int 1) ∧ Fr n0 L ∧ h = h0
set_option maxRecDepth 65536 in
set_option maxHeartbeats 40000000 in
theorem own_rmE3 (l : Launch) (Z : State) (a0 : Array Value) (hw : ∀ d ∈ tables_1, d.before a0 Z = true) (ws : List Jvm.Cond) (b : Addr) (kb : ClassId) (tg : Int32) (ct ff : Int64) (h0 : Heap) (n0 : Nat) (Z0 : n0 ≤ h0.size) (OL : Old Z n0 h0) (Vb : Arv Z h0 b kb .long (10 : Int32) [(.long (if tg = (0 : Int32) then ct else ff)), (.long (if tg = (1 : Int32) then ct else (ff + (1 : Int64)))), (.long (if tg = (2 : Int32) then ct else (ff + (2 : Int64)))), (.long (if tg = (3 : Int32) then ct else (ff + (3 : Int64)))), (.long (if tg = (4 : Int32) then ct else (ff + (4 : Int64)))), (.long (if tg = (5 : Int32) then ct else (ff + (5 : Int64)))), (.long (if tg = (6 : Int32) then ct else (ff + (6 : Int64)))), (.long (if tg = (7 : Int32) then ct else (ff + (7 : Int64)))), (.long (if tg = (8 : Int32) then ct else (ff + (8 : Int64)))), (.long (if tg = (9 : Int32) then ct else (ff + (9 : Int64))))] (.long (0 : Int64))) :
    own_MF l (⟨"com/example/gramstead/gramstead/estimation/RecordLayoutPutLongPinLaw", "cell", "([JIIJJ)Z"⟩ : MethodName) (Jvm.Cond.code (⟨"com/example/gramstead/gramstead/estimation/RecordLayoutPutLongPinLaw", "cell", "([JIIJJ)Z"⟩ : MethodName) method_2_code 7 (some .boolean) :: ws) ({ frames := 0, cells := 0, slots := 0, locals := 0 } : Room) #[(.ref b), (.int (3 : Int32)), (.int tg), (.long ct), (.long ff)] Z h0 (own_QE3 Z b kb tg ct ff h0 n0) := by
  refine MetFree.of_bodySF (plainFor_of_name own_pn2) hisR ?_
  intro p e s m args below meth c s₁ Bd hml0 hP hK
  obtain ⟨rfl, hZ, hh⟩ := hP
  have hx := Bd.exec
  have hby := Bd.bytes
  have hlk : meth.locks = false := BodyLoose.notSynchronized Bd
  have hml : c.maxLocals = 7 := hml0
  have hown : s.vm.findClass "com/example/gramstead/gramstead/estimation/RecordLayoutPutLongPinLaw" = some m.cls := findClass_of_methodNamed Bd.named
  have hnm := (name_of_methodNamed Bd.named Bd.method).1
  have X0 : Stand p l e ({ frames := 0, cells := 0, slots := 0, locals := 0 } : Room) s m #[(.ref b), (.int (3 : Int32)), (.int tg), (.long ct), (.long ff)] below meth c s₁ [] 0 0 := Stand.of_body Bd
  have e0 : s₁.heap = h0 := by rw [← hh, Bd.state]; rfl
  have N0 := Fr.nil n0
  have KP : Keep h0 h0 [] := Keep.refl _ _
  refine own_start (Fin := (own_Fin s (own_QE3 Z b kb tg ct ff h0 n0) ({ frames := 0, cells := 0, slots := 0, locals := 0 } : Room).cells ({ frames := 0, cells := 0, slots := 0, locals := 0 } : Room).slots)) (own_from (mkF m 0 #[rv b, iv 3, iv tg, .val (.long ct), .second, .val (.long ff), .second] []) (castTop (own_ef_E3 m b (3 : Int32) tg ct ff)) ?_)
  refine own_aln 1 X0 hx (hb hby own_d177) rfl rfl rfl ?_
  refine own_iln 2 X0 hx (hb hby own_d178) rfl rfl ?_
  obtain ⟨cl250, Ar250, -, S250, -, H250, -⟩ := id Vb
  refine own_to (mkF m 3 #[rv b, iv 3, iv tg, .val (.long ct), .second, .val (.long ff), .second] [(.long (if tg = (3 : Int32) then ct else (ff + (3 : Int64))))]) (X0.laload hx (j := (3 : Int32)) (v := (.long (if tg = (3 : Int32) then ct else (ff + (3 : Int64))))) (by rw [e0]; exact Ar250.1) (State.isArrayOf_alike hZ.alike Ar250.2.1) Ar250.2.2 (inb_of S250 ⟨by decide, by decide⟩) (H250.at (inb_of S250 ⟨by decide, by decide⟩) rfl) (g := (mkF m 2 #[rv b, iv 3, iv tg, .val (.long ct), .second, .val (.long ff), .second] [(.int (3 : Int32)), (.ref b)])) rfl rfl (hb hby own_d179)) ?_
  refine own_iln 4 X0 hx (hb hby own_d180) rfl rfl ?_
  refine own_iln 5 X0 hx (hb hby own_d181) rfl rfl ?_
  by_cases hj : (3 : Int32) = tg
  · refine own_icN 8 X0 hx (hb hby own_d182) (teq hj).2 rfl ?_
    refine own_to (T' := s₁) (mkF m 9 #[rv b, iv 3, iv tg, .val (.long ct), .second, .val (.long ff), .second] [(.long ct), (.long (if tg = (3 : Int32) then ct else (ff + (3 : Int64))))]) (fun _ k => XS.lloadN X0.here hx rfl (hb hby own_d183) rfl k) ?_
    refine own_go 17 X0 hx (hb hby own_d184) (by decide) (by decide) ?_
    refine own_to (T' := s₁) (mkF m 18 #[rv b, iv 3, iv tg, .val (.long ct), .second, .val (.long ff), .second] [(.int (lcmpW (if tg = (3 : Int32) then ct else (ff + (3 : Int64))) ct))]) (fun _ k => XS.lcmp X0.here hx rfl (hb hby own_d185) rfl k) ?_
    refine own_ifN 21 X0 hx (hb hby own_d186) ((if0 _ _).trans (teq ((lw_eq _ _).mpr (by rw [if_pos hj.symm]))).2) rfl ?_
    refine own_ic 22 1 X0 hx (hb hby own_d191) rfl rfl ?_
    refine own_go 26 X0 hx (hb hby own_d192) (by decide) (by decide) ?_
    exact own_retN X0 hx (t := .boolean) Bd.returns (by simp) hlk (hb hby own_d193) (by decide) (by decide) (by rw [e0]; exact ⟨rfl, N0, rfl⟩)
  · refine own_icY 12 X0 hx (hb hby own_d182) (feq hj).2 (by decide) (by decide) ?_
    refine own_to (T' := s₁) (mkF m 14 #[rv b, iv 3, iv tg, .val (.long ct), .second, .val (.long ff), .second] [(.long ff), (.long (if tg = (3 : Int32) then ct else (ff + (3 : Int64))))]) (fun _ k => XS.lload X0.here hx rfl (hb hby own_d187) rfl k) ?_
    refine own_iln 15 X0 hx (hb hby own_d188) rfl rfl ?_
    refine own_to (T' := s₁) (mkF m 16 #[rv b, iv 3, iv tg, .val (.long ct), .second, .val (.long ff), .second] [(.long ((3 : Int32).toInt64)), (.long ff), (.long (if tg = (3 : Int32) then ct else (ff + (3 : Int64))))]) (fun _ k => XS.i2l X0.here hx rfl (hb hby own_d189) rfl k) ?_
    refine own_to (T' := s₁) (mkF m 17 #[rv b, iv 3, iv tg, .val (.long ct), .second, .val (.long ff), .second] [(.long (ff + ((3 : Int32).toInt64))), (.long (if tg = (3 : Int32) then ct else (ff + (3 : Int64))))]) (fun _ k => XS.ladd X0.here hx rfl (hb hby own_d190) rfl k) ?_
    refine own_to (T' := s₁) (mkF m 18 #[rv b, iv 3, iv tg, .val (.long ct), .second, .val (.long ff), .second] [(.int (lcmpW (if tg = (3 : Int32) then ct else (ff + (3 : Int64))) (ff + ((3 : Int32).toInt64))))]) (fun _ k => XS.lcmp X0.here hx rfl (hb hby own_d185) rfl k) ?_
    refine own_ifN 21 X0 hx (hb hby own_d186) ((if0 _ _).trans (teq ((lw_eq _ _).mpr (by rw [if_neg (fun z => hj z.symm)]; rfl))).2) rfl ?_
    refine own_ic 22 1 X0 hx (hb hby own_d191) rfl rfl ?_
    refine own_go 26 X0 hx (hb hby own_d192) (by decide) (by decide) ?_
    exact own_retN X0 hx (t := .boolean) Bd.returns (by simp) hlk (hb hby own_d193) (by decide) (by decide) (by rw [e0]; exact ⟨rfl, N0, rfl⟩)
def own_QE4 (Z : State) (b : Addr) (kb : ClassId) (tg : Int32) (ct ff : Int64) (h0 : Heap) (n0 : Nat) (v : Option Value) (h : Heap) (L : List Loc) : Prop := v = some (.int 1) ∧ Fr n0 L ∧ h = h0
set_option maxRecDepth 65536 in
set_option maxHeartbeats 40000000 in
theorem own_rmE4 (l : Launch) (Z : State) (a0 : Array Value) (hw : ∀ d ∈ tables_1, d.before a0 Z = true) (ws : List Jvm.Cond) (b : Addr) (kb : ClassId) (tg : Int32) (ct ff : Int64) (h0 : Heap) (n0 : Nat) (Z0 : n0 ≤ h0.size) (OL : Old Z n0 h0) (Vb : Arv Z h0 b kb .long (10 : Int32) [(.long (if tg = (0 : Int32) then ct else ff)), (.long (if tg = (1 : Int32) then ct else (ff + (1 : Int64)))), (.long (if tg = (2 : Int32) then ct else (ff + (2 : Int64)))), (.long (if tg = (3 : Int32) then ct else (ff + (3 : Int64)))), (.long (if tg = (4 : Int32) then ct else (ff + (4 : Int64)))), (.long (if tg = (5 : Int32) then ct else (ff + (5 : Int64)))), (.long (if tg = (6 : Int32) then ct else (ff + (6 : Int64)))), (.long (if tg = (7 : Int32) then ct else (ff + (7 : Int64)))), (.long (if tg = (8 : Int32) then ct else (ff + (8 : Int64)))), (.long (if tg = (9 : Int32) then ct else (ff + (9 : Int64))))] (.long (0 : Int64))) :
    own_MF l (⟨"com/example/gramstead/gramstead/estimation/RecordLayoutPutLongPinLaw", "cell", "([JIIJJ)Z"⟩ : MethodName) (Jvm.Cond.code (⟨"com/example/gramstead/gramstead/estimation/RecordLayoutPutLongPinLaw", "cell", "([JIIJJ)Z"⟩ : MethodName) method_2_code 7 (some .boolean) :: ws) ({ frames := 0, cells := 0, slots := 0, locals := 0 } : Room) #[(.ref b), (.int (4 : Int32)), (.int tg), (.long ct), (.long ff)] Z h0 (own_QE4 Z b kb tg ct ff h0 n0) := by
  refine MetFree.of_bodySF (plainFor_of_name own_pn2) hisR ?_
  intro p e s m args below meth c s₁ Bd hml0 hP hK
  obtain ⟨rfl, hZ, hh⟩ := hP
  have hx := Bd.exec
  have hby := Bd.bytes
  have hlk : meth.locks = false := BodyLoose.notSynchronized Bd
  have hml : c.maxLocals = 7 := hml0
  have hown : s.vm.findClass "com/example/gramstead/gramstead/estimation/RecordLayoutPutLongPinLaw" = some m.cls := findClass_of_methodNamed Bd.named
  have hnm := (name_of_methodNamed Bd.named Bd.method).1
  have X0 : Stand p l e ({ frames := 0, cells := 0, slots := 0, locals := 0 } : Room) s m #[(.ref b), (.int (4 : Int32)), (.int tg), (.long ct), (.long ff)] below meth c s₁ [] 0 0 := Stand.of_body Bd
  have e0 : s₁.heap = h0 := by rw [← hh, Bd.state]; rfl
  have N0 := Fr.nil n0
  have KP : Keep h0 h0 [] := Keep.refl _ _
  refine own_start (Fin := (own_Fin s (own_QE4 Z b kb tg ct ff h0 n0) ({ frames := 0, cells := 0, slots := 0, locals := 0 } : Room).cells ({ frames := 0, cells := 0, slots := 0, locals := 0 } : Room).slots)) (own_from (mkF m 0 #[rv b, iv 4, iv tg, .val (.long ct), .second, .val (.long ff), .second] []) (castTop (own_ef_E4 m b (4 : Int32) tg ct ff)) ?_)
  refine own_aln 1 X0 hx (hb hby own_d177) rfl rfl rfl ?_
  refine own_iln 2 X0 hx (hb hby own_d178) rfl rfl ?_
  obtain ⟨cl251, Ar251, -, S251, -, H251, -⟩ := id Vb
  refine own_to (mkF m 3 #[rv b, iv 4, iv tg, .val (.long ct), .second, .val (.long ff), .second] [(.long (if tg = (4 : Int32) then ct else (ff + (4 : Int64))))]) (X0.laload hx (j := (4 : Int32)) (v := (.long (if tg = (4 : Int32) then ct else (ff + (4 : Int64))))) (by rw [e0]; exact Ar251.1) (State.isArrayOf_alike hZ.alike Ar251.2.1) Ar251.2.2 (inb_of S251 ⟨by decide, by decide⟩) (H251.at (inb_of S251 ⟨by decide, by decide⟩) rfl) (g := (mkF m 2 #[rv b, iv 4, iv tg, .val (.long ct), .second, .val (.long ff), .second] [(.int (4 : Int32)), (.ref b)])) rfl rfl (hb hby own_d179)) ?_
  refine own_iln 4 X0 hx (hb hby own_d180) rfl rfl ?_
  refine own_iln 5 X0 hx (hb hby own_d181) rfl rfl ?_
  by_cases hj : (4 : Int32) = tg
  · refine own_icN 8 X0 hx (hb hby own_d182) (teq hj).2 rfl ?_
    refine own_to (T' := s₁) (mkF m 9 #[rv b, iv 4, iv tg, .val (.long ct), .second, .val (.long ff), .second] [(.long ct), (.long (if tg = (4 : Int32) then ct else (ff + (4 : Int64))))]) (fun _ k => XS.lloadN X0.here hx rfl (hb hby own_d183) rfl k) ?_
    refine own_go 17 X0 hx (hb hby own_d184) (by decide) (by decide) ?_
    refine own_to (T' := s₁) (mkF m 18 #[rv b, iv 4, iv tg, .val (.long ct), .second, .val (.long ff), .second] [(.int (lcmpW (if tg = (4 : Int32) then ct else (ff + (4 : Int64))) ct))]) (fun _ k => XS.lcmp X0.here hx rfl (hb hby own_d185) rfl k) ?_
    refine own_ifN 21 X0 hx (hb hby own_d186) ((if0 _ _).trans (teq ((lw_eq _ _).mpr (by rw [if_pos hj.symm]))).2) rfl ?_
    refine own_ic 22 1 X0 hx (hb hby own_d191) rfl rfl ?_
    refine own_go 26 X0 hx (hb hby own_d192) (by decide) (by decide) ?_
    exact own_retN X0 hx (t := .boolean) Bd.returns (by simp) hlk (hb hby own_d193) (by decide) (by decide) (by rw [e0]; exact ⟨rfl, N0, rfl⟩)
  · refine own_icY 12 X0 hx (hb hby own_d182) (feq hj).2 (by decide) (by decide) ?_
    refine own_to (T' := s₁) (mkF m 14 #[rv b, iv 4, iv tg, .val (.long ct), .second, .val (.long ff), .second] [(.long ff), (.long (if tg = (4 : Int32) then ct else (ff + (4 : Int64))))]) (fun _ k => XS.lload X0.here hx rfl (hb hby own_d187) rfl k) ?_
    refine own_iln 15 X0 hx (hb hby own_d188) rfl rfl ?_
    refine own_to (T' := s₁) (mkF m 16 #[rv b, iv 4, iv tg, .val (.long ct), .second, .val (.long ff), .second] [(.long ((4 : Int32).toInt64)), (.long ff), (.long (if tg = (4 : Int32) then ct else (ff + (4 : Int64))))]) (fun _ k => XS.i2l X0.here hx rfl (hb hby own_d189) rfl k) ?_
    refine own_to (T' := s₁) (mkF m 17 #[rv b, iv 4, iv tg, .val (.long ct), .second, .val (.long ff), .second] [(.long (ff + ((4 : Int32).toInt64))), (.long (if tg = (4 : Int32) then ct else (ff + (4 : Int64))))]) (fun _ k => XS.ladd X0.here hx rfl (hb hby own_d190) rfl k) ?_
    refine own_to (T' := s₁) (mkF m 18 #[rv b, iv 4, iv tg, .val (.long ct), .second, .val (.long ff), .second] [(.int (lcmpW (if tg = (4 : Int32) then ct else (ff + (4 : Int64))) (ff + ((4 : Int32).toInt64))))]) (fun _ k => XS.lcmp X0.here hx rfl (hb hby own_d185) rfl k) ?_
    refine own_ifN 21 X0 hx (hb hby own_d186) ((if0 _ _).trans (teq ((lw_eq _ _).mpr (by rw [if_neg (fun z => hj z.symm)]; rfl))).2) rfl ?_
    refine own_ic 22 1 X0 hx (hb hby own_d191) rfl rfl ?_
    refine own_go 26 X0 hx (hb hby own_d192) (by decide) (by decide) ?_
    exact own_retN X0 hx (t := .boolean) Bd.returns (by simp) hlk (hb hby own_d193) (by decide) (by decide) (by rw [e0]; exact ⟨rfl, N0, rfl⟩)
def own_QE5 (Z : State) (b : Addr) (kb : ClassId) (tg : Int32) (ct ff : Int64) (h0 : Heap) (n0 : Nat) (v : Option Value) (h : Heap) (L : List Loc) : Prop := v = some (.int 1) ∧ Fr n0 L ∧ h = h0
set_option maxRecDepth 65536 in
set_option maxHeartbeats 40000000 in
theorem own_rmE5 (l : Launch) (Z : State) (a0 : Array Value) (hw : ∀ d ∈ tables_1, d.before a0 Z = true) (ws : List Jvm.Cond) (b : Addr) (kb : ClassId) (tg : Int32) (ct ff : Int64) (h0 : Heap) (n0 : Nat) (Z0 : n0 ≤ h0.size) (OL : Old Z n0 h0) (Vb : Arv Z h0 b kb .long (10 : Int32) [(.long (if tg = (0 : Int32) then ct else ff)), (.long (if tg = (1 : Int32) then ct else (ff + (1 : Int64)))), (.long (if tg = (2 : Int32) then ct else (ff + (2 : Int64)))), (.long (if tg = (3 : Int32) then ct else (ff + (3 : Int64)))), (.long (if tg = (4 : Int32) then ct else (ff + (4 : Int64)))), (.long (if tg = (5 : Int32) then ct else (ff + (5 : Int64)))), (.long (if tg = (6 : Int32) then ct else (ff + (6 : Int64)))), (.long (if tg = (7 : Int32) then ct else (ff + (7 : Int64)))), (.long (if tg = (8 : Int32) then ct else (ff + (8 : Int64)))), (.long (if tg = (9 : Int32) then ct else (ff + (9 : Int64))))] (.long (0 : Int64))) :
    own_MF l (⟨"com/example/gramstead/gramstead/estimation/RecordLayoutPutLongPinLaw", "cell", "([JIIJJ)Z"⟩ : MethodName) (Jvm.Cond.code (⟨"com/example/gramstead/gramstead/estimation/RecordLayoutPutLongPinLaw", "cell", "([JIIJJ)Z"⟩ : MethodName) method_2_code 7 (some .boolean) :: ws) ({ frames := 0, cells := 0, slots := 0, locals := 0 } : Room) #[(.ref b), (.int (5 : Int32)), (.int tg), (.long ct), (.long ff)] Z h0 (own_QE5 Z b kb tg ct ff h0 n0) := by
  refine MetFree.of_bodySF (plainFor_of_name own_pn2) hisR ?_
  intro p e s m args below meth c s₁ Bd hml0 hP hK
  obtain ⟨rfl, hZ, hh⟩ := hP
  have hx := Bd.exec
  have hby := Bd.bytes
  have hlk : meth.locks = false := BodyLoose.notSynchronized Bd
  have hml : c.maxLocals = 7 := hml0
  have hown : s.vm.findClass "com/example/gramstead/gramstead/estimation/RecordLayoutPutLongPinLaw" = some m.cls := findClass_of_methodNamed Bd.named
  have hnm := (name_of_methodNamed Bd.named Bd.method).1
  have X0 : Stand p l e ({ frames := 0, cells := 0, slots := 0, locals := 0 } : Room) s m #[(.ref b), (.int (5 : Int32)), (.int tg), (.long ct), (.long ff)] below meth c s₁ [] 0 0 := Stand.of_body Bd
  have e0 : s₁.heap = h0 := by rw [← hh, Bd.state]; rfl
  have N0 := Fr.nil n0
  have KP : Keep h0 h0 [] := Keep.refl _ _
  refine own_start (Fin := (own_Fin s (own_QE5 Z b kb tg ct ff h0 n0) ({ frames := 0, cells := 0, slots := 0, locals := 0 } : Room).cells ({ frames := 0, cells := 0, slots := 0, locals := 0 } : Room).slots)) (own_from (mkF m 0 #[rv b, iv 5, iv tg, .val (.long ct), .second, .val (.long ff), .second] []) (castTop (own_ef_E5 m b (5 : Int32) tg ct ff)) ?_)
  refine own_aln 1 X0 hx (hb hby own_d177) rfl rfl rfl ?_
  refine own_iln 2 X0 hx (hb hby own_d178) rfl rfl ?_
  obtain ⟨cl252, Ar252, -, S252, -, H252, -⟩ := id Vb
  refine own_to (mkF m 3 #[rv b, iv 5, iv tg, .val (.long ct), .second, .val (.long ff), .second] [(.long (if tg = (5 : Int32) then ct else (ff + (5 : Int64))))]) (X0.laload hx (j := (5 : Int32)) (v := (.long (if tg = (5 : Int32) then ct else (ff + (5 : Int64))))) (by rw [e0]; exact Ar252.1) (State.isArrayOf_alike hZ.alike Ar252.2.1) Ar252.2.2 (inb_of S252 ⟨by decide, by decide⟩) (H252.at (inb_of S252 ⟨by decide, by decide⟩) rfl) (g := (mkF m 2 #[rv b, iv 5, iv tg, .val (.long ct), .second, .val (.long ff), .second] [(.int (5 : Int32)), (.ref b)])) rfl rfl (hb hby own_d179)) ?_
  refine own_iln 4 X0 hx (hb hby own_d180) rfl rfl ?_
  refine own_iln 5 X0 hx (hb hby own_d181) rfl rfl ?_
  by_cases hj : (5 : Int32) = tg
  · refine own_icN 8 X0 hx (hb hby own_d182) (teq hj).2 rfl ?_
    refine own_to (T' := s₁) (mkF m 9 #[rv b, iv 5, iv tg, .val (.long ct), .second, .val (.long ff), .second] [(.long ct), (.long (if tg = (5 : Int32) then ct else (ff + (5 : Int64))))]) (fun _ k => XS.lloadN X0.here hx rfl (hb hby own_d183) rfl k) ?_
    refine own_go 17 X0 hx (hb hby own_d184) (by decide) (by decide) ?_
    refine own_to (T' := s₁) (mkF m 18 #[rv b, iv 5, iv tg, .val (.long ct), .second, .val (.long ff), .second] [(.int (lcmpW (if tg = (5 : Int32) then ct else (ff + (5 : Int64))) ct))]) (fun _ k => XS.lcmp X0.here hx rfl (hb hby own_d185) rfl k) ?_
    refine own_ifN 21 X0 hx (hb hby own_d186) ((if0 _ _).trans (teq ((lw_eq _ _).mpr (by rw [if_pos hj.symm]))).2) rfl ?_
    refine own_ic 22 1 X0 hx (hb hby own_d191) rfl rfl ?_
    refine own_go 26 X0 hx (hb hby own_d192) (by decide) (by decide) ?_
    exact own_retN X0 hx (t := .boolean) Bd.returns (by simp) hlk (hb hby own_d193) (by decide) (by decide) (by rw [e0]; exact ⟨rfl, N0, rfl⟩)
  · refine own_icY 12 X0 hx (hb hby own_d182) (feq hj).2 (by decide) (by decide) ?_
    refine own_to (T' := s₁) (mkF m 14 #[rv b, iv 5, iv tg, .val (.long ct), .second, .val (.long ff), .second] [(.long ff), (.long (if tg = (5 : Int32) then ct else (ff + (5 : Int64))))]) (fun _ k => XS.lload X0.here hx rfl (hb hby own_d187) rfl k) ?_
    refine own_iln 15 X0 hx (hb hby own_d188) rfl rfl ?_
    refine own_to (T' := s₁) (mkF m 16 #[rv b, iv 5, iv tg, .val (.long ct), .second, .val (.long ff), .second] [(.long ((5 : Int32).toInt64)), (.long ff), (.long (if tg = (5 : Int32) then ct else (ff + (5 : Int64))))]) (fun _ k => XS.i2l X0.here hx rfl (hb hby own_d189) rfl k) ?_
    refine own_to (T' := s₁) (mkF m 17 #[rv b, iv 5, iv tg, .val (.long ct), .second, .val (.long ff), .second] [(.long (ff + ((5 : Int32).toInt64))), (.long (if tg = (5 : Int32) then ct else (ff + (5 : Int64))))]) (fun _ k => XS.ladd X0.here hx rfl (hb hby own_d190) rfl k) ?_
    refine own_to (T' := s₁) (mkF m 18 #[rv b, iv 5, iv tg, .val (.long ct), .second, .val (.long ff), .second] [(.int (lcmpW (if tg = (5 : Int32) then ct else (ff + (5 : Int64))) (ff + ((5 : Int32).toInt64))))]) (fun _ k => XS.lcmp X0.here hx rfl (hb hby own_d185) rfl k) ?_
    refine own_ifN 21 X0 hx (hb hby own_d186) ((if0 _ _).trans (teq ((lw_eq _ _).mpr (by rw [if_neg (fun z => hj z.symm)]; rfl))).2) rfl ?_
    refine own_ic 22 1 X0 hx (hb hby own_d191) rfl rfl ?_
    refine own_go 26 X0 hx (hb hby own_d192) (by decide) (by decide) ?_
    exact own_retN X0 hx (t := .boolean) Bd.returns (by simp) hlk (hb hby own_d193) (by decide) (by decide) (by rw [e0]; exact ⟨rfl, N0, rfl⟩)
def own_QE6 (Z : State) (b : Addr) (kb : ClassId) (tg : Int32) (ct ff : Int64) (h0 : Heap) (n0 : Nat) (v : Option Value) (h : Heap) (L : List Loc) : Prop := v = some (.int 1) ∧ Fr n0 L ∧ h = h0
set_option maxRecDepth 65536 in
set_option maxHeartbeats 40000000 in
theorem own_rmE6 (l : Launch) (Z : State) (a0 : Array Value) (hw : ∀ d ∈ tables_1, d.before a0 Z = true) (ws : List Jvm.Cond) (b : Addr) (kb : ClassId) (tg : Int32) (ct ff : Int64) (h0 : Heap) (n0 : Nat) (Z0 : n0 ≤ h0.size) (OL : Old Z n0 h0) (Vb : Arv Z h0 b kb .long (10 : Int32) [(.long (if tg = (0 : Int32) then ct else ff)), (.long (if tg = (1 : Int32) then ct else (ff + (1 : Int64)))), (.long (if tg = (2 : Int32) then ct else (ff + (2 : Int64)))), (.long (if tg = (3 : Int32) then ct else (ff + (3 : Int64)))), (.long (if tg = (4 : Int32) then ct else (ff + (4 : Int64)))), (.long (if tg = (5 : Int32) then ct else (ff + (5 : Int64)))), (.long (if tg = (6 : Int32) then ct else (ff + (6 : Int64)))), (.long (if tg = (7 : Int32) then ct else (ff + (7 : Int64)))), (.long (if tg = (8 : Int32) then ct else (ff + (8 : Int64)))), (.long (if tg = (9 : Int32) then ct else (ff + (9 : Int64))))] (.long (0 : Int64))) :
    own_MF l (⟨"com/example/gramstead/gramstead/estimation/RecordLayoutPutLongPinLaw", "cell", "([JIIJJ)Z"⟩ : MethodName) (Jvm.Cond.code (⟨"com/example/gramstead/gramstead/estimation/RecordLayoutPutLongPinLaw", "cell", "([JIIJJ)Z"⟩ : MethodName) method_2_code 7 (some .boolean) :: ws) ({ frames := 0, cells := 0, slots := 0, locals := 0 } : Room) #[(.ref b), (.int (6 : Int32)), (.int tg), (.long ct), (.long ff)] Z h0 (own_QE6 Z b kb tg ct ff h0 n0) := by
  refine MetFree.of_bodySF (plainFor_of_name own_pn2) hisR ?_
  intro p e s m args below meth c s₁ Bd hml0 hP hK
  obtain ⟨rfl, hZ, hh⟩ := hP
  have hx := Bd.exec
  have hby := Bd.bytes
  have hlk : meth.locks = false := BodyLoose.notSynchronized Bd
  have hml : c.maxLocals = 7 := hml0
  have hown : s.vm.findClass "com/example/gramstead/gramstead/estimation/RecordLayoutPutLongPinLaw" = some m.cls := findClass_of_methodNamed Bd.named
  have hnm := (name_of_methodNamed Bd.named Bd.method).1
  have X0 : Stand p l e ({ frames := 0, cells := 0, slots := 0, locals := 0 } : Room) s m #[(.ref b), (.int (6 : Int32)), (.int tg), (.long ct), (.long ff)] below meth c s₁ [] 0 0 := Stand.of_body Bd
  have e0 : s₁.heap = h0 := by rw [← hh, Bd.state]; rfl
  have N0 := Fr.nil n0
  have KP : Keep h0 h0 [] := Keep.refl _ _
  refine own_start (Fin := (own_Fin s (own_QE6 Z b kb tg ct ff h0 n0) ({ frames := 0, cells := 0, slots := 0, locals := 0 } : Room).cells ({ frames := 0, cells := 0, slots := 0, locals := 0 } : Room).slots)) (own_from (mkF m 0 #[rv b, iv 6, iv tg, .val (.long ct), .second, .val (.long ff), .second] []) (castTop (own_ef_E6 m b (6 : Int32) tg ct ff)) ?_)
  refine own_aln 1 X0 hx (hb hby own_d177) rfl rfl rfl ?_
  refine own_iln 2 X0 hx (hb hby own_d178) rfl rfl ?_
  obtain ⟨cl253, Ar253, -, S253, -, H253, -⟩ := id Vb
  refine own_to (mkF m 3 #[rv b, iv 6, iv tg, .val (.long ct), .second, .val (.long ff), .second] [(.long (if tg = (6 : Int32) then ct else (ff + (6 : Int64))))]) (X0.laload hx (j := (6 : Int32)) (v := (.long (if tg = (6 : Int32) then ct else (ff + (6 : Int64))))) (by rw [e0]; exact Ar253.1) (State.isArrayOf_alike hZ.alike Ar253.2.1) Ar253.2.2 (inb_of S253 ⟨by decide, by decide⟩) (H253.at (inb_of S253 ⟨by decide, by decide⟩) rfl) (g := (mkF m 2 #[rv b, iv 6, iv tg, .val (.long ct), .second, .val (.long ff), .second] [(.int (6 : Int32)), (.ref b)])) rfl rfl (hb hby own_d179)) ?_
  refine own_iln 4 X0 hx (hb hby own_d180) rfl rfl ?_
  refine own_iln 5 X0 hx (hb hby own_d181) rfl rfl ?_
  by_cases hj : (6 : Int32) = tg
  · refine own_icN 8 X0 hx (hb hby own_d182) (teq hj).2 rfl ?_
    refine own_to (T' := s₁) (mkF m 9 #[rv b, iv 6, iv tg, .val (.long ct), .second, .val (.long ff), .second] [(.long ct), (.long (if tg = (6 : Int32) then ct else (ff + (6 : Int64))))]) (fun _ k => XS.lloadN X0.here hx rfl (hb hby own_d183) rfl k) ?_
    refine own_go 17 X0 hx (hb hby own_d184) (by decide) (by decide) ?_
    refine own_to (T' := s₁) (mkF m 18 #[rv b, iv 6, iv tg, .val (.long ct), .second, .val (.long ff), .second] [(.int (lcmpW (if tg = (6 : Int32) then ct else (ff + (6 : Int64))) ct))]) (fun _ k => XS.lcmp X0.here hx rfl (hb hby own_d185) rfl k) ?_
    refine own_ifN 21 X0 hx (hb hby own_d186) ((if0 _ _).trans (teq ((lw_eq _ _).mpr (by rw [if_pos hj.symm]))).2) rfl ?_
    refine own_ic 22 1 X0 hx (hb hby own_d191) rfl rfl ?_
    refine own_go 26 X0 hx (hb hby own_d192) (by decide) (by decide) ?_
    exact own_retN X0 hx (t := .boolean) Bd.returns (by simp) hlk (hb hby own_d193) (by decide) (by decide) (by rw [e0]; exact ⟨rfl, N0, rfl⟩)
  · refine own_icY 12 X0 hx (hb hby own_d182) (feq hj).2 (by decide) (by decide) ?_
    refine own_to (T' := s₁) (mkF m 14 #[rv b, iv 6, iv tg, .val (.long ct), .second, .val (.long ff), .second] [(.long ff), (.long (if tg = (6 : Int32) then ct else (ff + (6 : Int64))))]) (fun _ k => XS.lload X0.here hx rfl (hb hby own_d187) rfl k) ?_
    refine own_iln 15 X0 hx (hb hby own_d188) rfl rfl ?_
    refine own_to (T' := s₁) (mkF m 16 #[rv b, iv 6, iv tg, .val (.long ct), .second, .val (.long ff), .second] [(.long ((6 : Int32).toInt64)), (.long ff), (.long (if tg = (6 : Int32) then ct else (ff + (6 : Int64))))]) (fun _ k => XS.i2l X0.here hx rfl (hb hby own_d189) rfl k) ?_
    refine own_to (T' := s₁) (mkF m 17 #[rv b, iv 6, iv tg, .val (.long ct), .second, .val (.long ff), .second] [(.long (ff + ((6 : Int32).toInt64))), (.long (if tg = (6 : Int32) then ct else (ff + (6 : Int64))))]) (fun _ k => XS.ladd X0.here hx rfl (hb hby own_d190) rfl k) ?_
    refine own_to (T' := s₁) (mkF m 18 #[rv b, iv 6, iv tg, .val (.long ct), .second, .val (.long ff), .second] [(.int (lcmpW (if tg = (6 : Int32) then ct else (ff + (6 : Int64))) (ff + ((6 : Int32).toInt64))))]) (fun _ k => XS.lcmp X0.here hx rfl (hb hby own_d185) rfl k) ?_
    refine own_ifN 21 X0 hx (hb hby own_d186) ((if0 _ _).trans (teq ((lw_eq _ _).mpr (by rw [if_neg (fun z => hj z.symm)]; rfl))).2) rfl ?_
    refine own_ic 22 1 X0 hx (hb hby own_d191) rfl rfl ?_
    refine own_go 26 X0 hx (hb hby own_d192) (by decide) (by decide) ?_
    exact own_retN X0 hx (t := .boolean) Bd.returns (by simp) hlk (hb hby own_d193) (by decide) (by decide) (by rw [e0]; exact ⟨rfl, N0, rfl⟩)
def own_QE7 (Z : State) (b : Addr) (kb : ClassId) (tg : Int32) (ct ff : Int64) (h0 : Heap) (n0 : Nat) (v : Option Value) (h : Heap) (L : List Loc) : Prop := v = some (.int 1) ∧ Fr n0 L ∧ h = h0
set_option maxRecDepth 65536 in
set_option maxHeartbeats 40000000 in
theorem own_rmE7 (l : Launch) (Z : State) (a0 : Array Value) (hw : ∀ d ∈ tables_1, d.before a0 Z = true) (ws : List Jvm.Cond) (b : Addr) (kb : ClassId) (tg : Int32) (ct ff : Int64) (h0 : Heap) (n0 : Nat) (Z0 : n0 ≤ h0.size) (OL : Old Z n0 h0) (Vb : Arv Z h0 b kb .long (10 : Int32) [(.long (if tg = (0 : Int32) then ct else ff)), (.long (if tg = (1 : Int32) then ct else (ff + (1 : Int64)))), (.long (if tg = (2 : Int32) then ct else (ff + (2 : Int64)))), (.long (if tg = (3 : Int32) then ct else (ff + (3 : Int64)))), (.long (if tg = (4 : Int32) then ct else (ff + (4 : Int64)))), (.long (if tg = (5 : Int32) then ct else (ff + (5 : Int64)))), (.long (if tg = (6 : Int32) then ct else (ff + (6 : Int64)))), (.long (if tg = (7 : Int32) then ct else (ff + (7 : Int64)))), (.long (if tg = (8 : Int32) then ct else (ff + (8 : Int64)))), (.long (if tg = (9 : Int32) then ct else (ff + (9 : Int64))))] (.long (0 : Int64))) :
    own_MF l (⟨"com/example/gramstead/gramstead/estimation/RecordLayoutPutLongPinLaw", "cell", "([JIIJJ)Z"⟩ : MethodName) (Jvm.Cond.code (⟨"com/example/gramstead/gramstead/estimation/RecordLayoutPutLongPinLaw", "cell", "([JIIJJ)Z"⟩ : MethodName) method_2_code 7 (some .boolean) :: ws) ({ frames := 0, cells := 0, slots := 0, locals := 0 } : Room) #[(.ref b), (.int (7 : Int32)), (.int tg), (.long ct), (.long ff)] Z h0 (own_QE7 Z b kb tg ct ff h0 n0) := by
  refine MetFree.of_bodySF (plainFor_of_name own_pn2) hisR ?_
  intro p e s m args below meth c s₁ Bd hml0 hP hK
  obtain ⟨rfl, hZ, hh⟩ := hP
  have hx := Bd.exec
  have hby := Bd.bytes
  have hlk : meth.locks = false := BodyLoose.notSynchronized Bd
  have hml : c.maxLocals = 7 := hml0
  have hown : s.vm.findClass "com/example/gramstead/gramstead/estimation/RecordLayoutPutLongPinLaw" = some m.cls := findClass_of_methodNamed Bd.named
  have hnm := (name_of_methodNamed Bd.named Bd.method).1
  have X0 : Stand p l e ({ frames := 0, cells := 0, slots := 0, locals := 0 } : Room) s m #[(.ref b), (.int (7 : Int32)), (.int tg), (.long ct), (.long ff)] below meth c s₁ [] 0 0 := Stand.of_body Bd
  have e0 : s₁.heap = h0 := by rw [← hh, Bd.state]; rfl
  have N0 := Fr.nil n0
  have KP : Keep h0 h0 [] := Keep.refl _ _
  refine own_start (Fin := (own_Fin s (own_QE7 Z b kb tg ct ff h0 n0) ({ frames := 0, cells := 0, slots := 0, locals := 0 } : Room).cells ({ frames := 0, cells := 0, slots := 0, locals := 0 } : Room).slots)) (own_from (mkF m 0 #[rv b, iv 7, iv tg, .val (.long ct), .second, .val (.long ff), .second] []) (castTop (own_ef_E7 m b (7 : Int32) tg ct ff)) ?_)
  refine own_aln 1 X0 hx (hb hby own_d177) rfl rfl rfl ?_
  refine own_iln 2 X0 hx (hb hby own_d178) rfl rfl ?_
  obtain ⟨cl254, Ar254, -, S254, -, H254, -⟩ := id Vb
  refine own_to (mkF m 3 #[rv b, iv 7, iv tg, .val (.long ct), .second, .val (.long ff), .second] [(.long (if tg = (7 : Int32) then ct else (ff + (7 : Int64))))]) (X0.laload hx (j := (7 : Int32)) (v := (.long (if tg = (7 : Int32) then ct else (ff + (7 : Int64))))) (by rw [e0]; exact Ar254.1) (State.isArrayOf_alike hZ.alike Ar254.2.1) Ar254.2.2 (inb_of S254 ⟨by decide, by decide⟩) (H254.at (inb_of S254 ⟨by decide, by decide⟩) rfl) (g := (mkF m 2 #[rv b, iv 7, iv tg, .val (.long ct), .second, .val (.long ff), .second] [(.int (7 : Int32)), (.ref b)])) rfl rfl (hb hby own_d179)) ?_
  refine own_iln 4 X0 hx (hb hby own_d180) rfl rfl ?_
  refine own_iln 5 X0 hx (hb hby own_d181) rfl rfl ?_
  by_cases hj : (7 : Int32) = tg
  · refine own_icN 8 X0 hx (hb hby own_d182) (teq hj).2 rfl ?_
    refine own_to (T' := s₁) (mkF m 9 #[rv b, iv 7, iv tg, .val (.long ct), .second, .val (.long ff), .second] [(.long ct), (.long (if tg = (7 : Int32) then ct else (ff + (7 : Int64))))]) (fun _ k => XS.lloadN X0.here hx rfl (hb hby own_d183) rfl k) ?_
    refine own_go 17 X0 hx (hb hby own_d184) (by decide) (by decide) ?_
    refine own_to (T' := s₁) (mkF m 18 #[rv b, iv 7, iv tg, .val (.long ct), .second, .val (.long ff), .second] [(.int (lcmpW (if tg = (7 : Int32) then ct else (ff + (7 : Int64))) ct))]) (fun _ k => XS.lcmp X0.here hx rfl (hb hby own_d185) rfl k) ?_
    refine own_ifN 21 X0 hx (hb hby own_d186) ((if0 _ _).trans (teq ((lw_eq _ _).mpr (by rw [if_pos hj.symm]))).2) rfl ?_
    refine own_ic 22 1 X0 hx (hb hby own_d191) rfl rfl ?_
    refine own_go 26 X0 hx (hb hby own_d192) (by decide) (by decide) ?_
    exact own_retN X0 hx (t := .boolean) Bd.returns (by simp) hlk (hb hby own_d193) (by decide) (by decide) (by rw [e0]; exact ⟨rfl, N0, rfl⟩)
  · refine own_icY 12 X0 hx (hb hby own_d182) (feq hj).2 (by decide) (by decide) ?_
    refine own_to (T' := s₁) (mkF m 14 #[rv b, iv 7, iv tg, .val (.long ct), .second, .val (.long ff), .second] [(.long ff), (.long (if tg = (7 : Int32) then ct else (ff + (7 : Int64))))]) (fun _ k => XS.lload X0.here hx rfl (hb hby own_d187) rfl k) ?_
    refine own_iln 15 X0 hx (hb hby own_d188) rfl rfl ?_
    refine own_to (T' := s₁) (mkF m 16 #[rv b, iv 7, iv tg, .val (.long ct), .second, .val (.long ff), .second] [(.long ((7 : Int32).toInt64)), (.long ff), (.long (if tg = (7 : Int32) then ct else (ff + (7 : Int64))))]) (fun _ k => XS.i2l X0.here hx rfl (hb hby own_d189) rfl k) ?_
    refine own_to (T' := s₁) (mkF m 17 #[rv b, iv 7, iv tg, .val (.long ct), .second, .val (.long ff), .second] [(.long (ff + ((7 : Int32).toInt64))), (.long (if tg = (7 : Int32) then ct else (ff + (7 : Int64))))]) (fun _ k => XS.ladd X0.here hx rfl (hb hby own_d190) rfl k) ?_
    refine own_to (T' := s₁) (mkF m 18 #[rv b, iv 7, iv tg, .val (.long ct), .second, .val (.long ff), .second] [(.int (lcmpW (if tg = (7 : Int32) then ct else (ff + (7 : Int64))) (ff + ((7 : Int32).toInt64))))]) (fun _ k => XS.lcmp X0.here hx rfl (hb hby own_d185) rfl k) ?_
    refine own_ifN 21 X0 hx (hb hby own_d186) ((if0 _ _).trans (teq ((lw_eq _ _).mpr (by rw [if_neg (fun z => hj z.symm)]; rfl))).2) rfl ?_
    refine own_ic 22 1 X0 hx (hb hby own_d191) rfl rfl ?_
    refine own_go 26 X0 hx (hb hby own_d192) (by decide) (by decide) ?_
    exact own_retN X0 hx (t := .boolean) Bd.returns (by simp) hlk (hb hby own_d193) (by decide) (by decide) (by rw [e0]; exact ⟨rfl, N0, rfl⟩)
def own_QE8 (Z : State) (b : Addr) (kb : ClassId) (tg : Int32) (ct ff : Int64) (h0 : Heap) (n0 : Nat) (v : Option Value) (h : Heap) (L : List Loc) : Prop := v = some (.int 1) ∧ Fr n0 L ∧ h = h0
set_option maxRecDepth 65536 in
set_option maxHeartbeats 40000000 in
theorem own_rmE8 (l : Launch) (Z : State) (a0 : Array Value) (hw : ∀ d ∈ tables_1, d.before a0 Z = true) (ws : List Jvm.Cond) (b : Addr) (kb : ClassId) (tg : Int32) (ct ff : Int64) (h0 : Heap) (n0 : Nat) (Z0 : n0 ≤ h0.size) (OL : Old Z n0 h0) (Vb : Arv Z h0 b kb .long (10 : Int32) [(.long (if tg = (0 : Int32) then ct else ff)), (.long (if tg = (1 : Int32) then ct else (ff + (1 : Int64)))), (.long (if tg = (2 : Int32) then ct else (ff + (2 : Int64)))), (.long (if tg = (3 : Int32) then ct else (ff + (3 : Int64)))), (.long (if tg = (4 : Int32) then ct else (ff + (4 : Int64)))), (.long (if tg = (5 : Int32) then ct else (ff + (5 : Int64)))), (.long (if tg = (6 : Int32) then ct else (ff + (6 : Int64)))), (.long (if tg = (7 : Int32) then ct else (ff + (7 : Int64)))), (.long (if tg = (8 : Int32) then ct else (ff + (8 : Int64)))), (.long (if tg = (9 : Int32) then ct else (ff + (9 : Int64))))] (.long (0 : Int64))) :
    own_MF l (⟨"com/example/gramstead/gramstead/estimation/RecordLayoutPutLongPinLaw", "cell", "([JIIJJ)Z"⟩ : MethodName) (Jvm.Cond.code (⟨"com/example/gramstead/gramstead/estimation/RecordLayoutPutLongPinLaw", "cell", "([JIIJJ)Z"⟩ : MethodName) method_2_code 7 (some .boolean) :: ws) ({ frames := 0, cells := 0, slots := 0, locals := 0 } : Room) #[(.ref b), (.int (8 : Int32)), (.int tg), (.long ct), (.long ff)] Z h0 (own_QE8 Z b kb tg ct ff h0 n0) := by
  refine MetFree.of_bodySF (plainFor_of_name own_pn2) hisR ?_
  intro p e s m args below meth c s₁ Bd hml0 hP hK
  obtain ⟨rfl, hZ, hh⟩ := hP
  have hx := Bd.exec
  have hby := Bd.bytes
  have hlk : meth.locks = false := BodyLoose.notSynchronized Bd
  have hml : c.maxLocals = 7 := hml0
  have hown : s.vm.findClass "com/example/gramstead/gramstead/estimation/RecordLayoutPutLongPinLaw" = some m.cls := findClass_of_methodNamed Bd.named
  have hnm := (name_of_methodNamed Bd.named Bd.method).1
  have X0 : Stand p l e ({ frames := 0, cells := 0, slots := 0, locals := 0 } : Room) s m #[(.ref b), (.int (8 : Int32)), (.int tg), (.long ct), (.long ff)] below meth c s₁ [] 0 0 := Stand.of_body Bd
  have e0 : s₁.heap = h0 := by rw [← hh, Bd.state]; rfl
  have N0 := Fr.nil n0
  have KP : Keep h0 h0 [] := Keep.refl _ _
  refine own_start (Fin := (own_Fin s (own_QE8 Z b kb tg ct ff h0 n0) ({ frames := 0, cells := 0, slots := 0, locals := 0 } : Room).cells ({ frames := 0, cells := 0, slots := 0, locals := 0 } : Room).slots)) (own_from (mkF m 0 #[rv b, iv 8, iv tg, .val (.long ct), .second, .val (.long ff), .second] []) (castTop (own_ef_E8 m b (8 : Int32) tg ct ff)) ?_)
  refine own_aln 1 X0 hx (hb hby own_d177) rfl rfl rfl ?_
  refine own_iln 2 X0 hx (hb hby own_d178) rfl rfl ?_
  obtain ⟨cl255, Ar255, -, S255, -, H255, -⟩ := id Vb
  refine own_to (mkF m 3 #[rv b, iv 8, iv tg, .val (.long ct), .second, .val (.long ff), .second] [(.long (if tg = (8 : Int32) then ct else (ff + (8 : Int64))))]) (X0.laload hx (j := (8 : Int32)) (v := (.long (if tg = (8 : Int32) then ct else (ff + (8 : Int64))))) (by rw [e0]; exact Ar255.1) (State.isArrayOf_alike hZ.alike Ar255.2.1) Ar255.2.2 (inb_of S255 ⟨by decide, by decide⟩) (H255.at (inb_of S255 ⟨by decide, by decide⟩) rfl) (g := (mkF m 2 #[rv b, iv 8, iv tg, .val (.long ct), .second, .val (.long ff), .second] [(.int (8 : Int32)), (.ref b)])) rfl rfl (hb hby own_d179)) ?_
  refine own_iln 4 X0 hx (hb hby own_d180) rfl rfl ?_
  refine own_iln 5 X0 hx (hb hby own_d181) rfl rfl ?_
  by_cases hj : (8 : Int32) = tg
  · refine own_icN 8 X0 hx (hb hby own_d182) (teq hj).2 rfl ?_
    refine own_to (T' := s₁) (mkF m 9 #[rv b, iv 8, iv tg, .val (.long ct), .second, .val (.long ff), .second] [(.long ct), (.long (if tg = (8 : Int32) then ct else (ff + (8 : Int64))))]) (fun _ k => XS.lloadN X0.here hx rfl (hb hby own_d183) rfl k) ?_
    refine own_go 17 X0 hx (hb hby own_d184) (by decide) (by decide) ?_
    refine own_to (T' := s₁) (mkF m 18 #[rv b, iv 8, iv tg, .val (.long ct), .second, .val (.long ff), .second] [(.int (lcmpW (if tg = (8 : Int32) then ct else (ff + (8 : Int64))) ct))]) (fun _ k => XS.lcmp X0.here hx rfl (hb hby own_d185) rfl k) ?_
    refine own_ifN 21 X0 hx (hb hby own_d186) ((if0 _ _).trans (teq ((lw_eq _ _).mpr (by rw [if_pos hj.symm]))).2) rfl ?_
    refine own_ic 22 1 X0 hx (hb hby own_d191) rfl rfl ?_
    refine own_go 26 X0 hx (hb hby own_d192) (by decide) (by decide) ?_
    exact own_retN X0 hx (t := .boolean) Bd.returns (by simp) hlk (hb hby own_d193) (by decide) (by decide) (by rw [e0]; exact ⟨rfl, N0, rfl⟩)
  · refine own_icY 12 X0 hx (hb hby own_d182) (feq hj).2 (by decide) (by decide) ?_
    refine own_to (T' := s₁) (mkF m 14 #[rv b, iv 8, iv tg, .val (.long ct), .second, .val (.long ff), .second] [(.long ff), (.long (if tg = (8 : Int32) then ct else (ff + (8 : Int64))))]) (fun _ k => XS.lload X0.here hx rfl (hb hby own_d187) rfl k) ?_
    refine own_iln 15 X0 hx (hb hby own_d188) rfl rfl ?_
    refine own_to (T' := s₁) (mkF m 16 #[rv b, iv 8, iv tg, .val (.long ct), .second, .val (.long ff), .second] [(.long ((8 : Int32).toInt64)), (.long ff), (.long (if tg = (8 : Int32) then ct else (ff + (8 : Int64))))]) (fun _ k => XS.i2l X0.here hx rfl (hb hby own_d189) rfl k) ?_
    refine own_to (T' := s₁) (mkF m 17 #[rv b, iv 8, iv tg, .val (.long ct), .second, .val (.long ff), .second] [(.long (ff + ((8 : Int32).toInt64))), (.long (if tg = (8 : Int32) then ct else (ff + (8 : Int64))))]) (fun _ k => XS.ladd X0.here hx rfl (hb hby own_d190) rfl k) ?_
    refine own_to (T' := s₁) (mkF m 18 #[rv b, iv 8, iv tg, .val (.long ct), .second, .val (.long ff), .second] [(.int (lcmpW (if tg = (8 : Int32) then ct else (ff + (8 : Int64))) (ff + ((8 : Int32).toInt64))))]) (fun _ k => XS.lcmp X0.here hx rfl (hb hby own_d185) rfl k) ?_
    refine own_ifN 21 X0 hx (hb hby own_d186) ((if0 _ _).trans (teq ((lw_eq _ _).mpr (by rw [if_neg (fun z => hj z.symm)]; rfl))).2) rfl ?_
    refine own_ic 22 1 X0 hx (hb hby own_d191) rfl rfl ?_
    refine own_go 26 X0 hx (hb hby own_d192) (by decide) (by decide) ?_
    exact own_retN X0 hx (t := .boolean) Bd.returns (by simp) hlk (hb hby own_d193) (by decide) (by decide) (by rw [e0]; exact ⟨rfl, N0, rfl⟩)
def own_QE9 (Z : State) (b : Addr) (kb : ClassId) (tg : Int32) (ct ff : Int64) (h0 : Heap) (n0 : Nat) (v : Option Value) (h : Heap) (L : List Loc) : Prop := v = some (.int 1) ∧ Fr n0 L ∧ h = h0
set_option maxRecDepth 65536 in
set_option maxHeartbeats 40000000 in
theorem own_rmE9 (l : Launch) (Z : State) (a0 : Array Value) (hw : ∀ d ∈ tables_1, d.before a0 Z = true) (ws : List Jvm.Cond) (b : Addr) (kb : ClassId) (tg : Int32) (ct ff : Int64) (h0 : Heap) (n0 : Nat) (Z0 : n0 ≤ h0.size) (OL : Old Z n0 h0) (Vb : Arv Z h0 b kb .long (10 : Int32) [(.long (if tg = (0 : Int32) then ct else ff)), (.long (if tg = (1 : Int32) then ct else (ff + (1 : Int64)))), (.long (if tg = (2 : Int32) then ct else (ff + (2 : Int64)))), (.long (if tg = (3 : Int32) then ct else (ff + (3 : Int64)))), (.long (if tg = (4 : Int32) then ct else (ff + (4 : Int64)))), (.long (if tg = (5 : Int32) then ct else (ff + (5 : Int64)))), (.long (if tg = (6 : Int32) then ct else (ff + (6 : Int64)))), (.long (if tg = (7 : Int32) then ct else (ff + (7 : Int64)))), (.long (if tg = (8 : Int32) then ct else (ff + (8 : Int64)))), (.long (if tg = (9 : Int32) then ct else (ff + (9 : Int64))))] (.long (0 : Int64))) :
    own_MF l (⟨"com/example/gramstead/gramstead/estimation/RecordLayoutPutLongPinLaw", "cell", "([JIIJJ)Z"⟩ : MethodName) (Jvm.Cond.code (⟨"com/example/gramstead/gramstead/estimation/RecordLayoutPutLongPinLaw", "cell", "([JIIJJ)Z"⟩ : MethodName) method_2_code 7 (some .boolean) :: ws) ({ frames := 0, cells := 0, slots := 0, locals := 0 } : Room) #[(.ref b), (.int (9 : Int32)), (.int tg), (.long ct), (.long ff)] Z h0 (own_QE9 Z b kb tg ct ff h0 n0) := by
  refine MetFree.of_bodySF (plainFor_of_name own_pn2) hisR ?_
  intro p e s m args below meth c s₁ Bd hml0 hP hK
  obtain ⟨rfl, hZ, hh⟩ := hP
  have hx := Bd.exec
  have hby := Bd.bytes
  have hlk : meth.locks = false := BodyLoose.notSynchronized Bd
  have hml : c.maxLocals = 7 := hml0
  have hown : s.vm.findClass "com/example/gramstead/gramstead/estimation/RecordLayoutPutLongPinLaw" = some m.cls := findClass_of_methodNamed Bd.named
  have hnm := (name_of_methodNamed Bd.named Bd.method).1
  have X0 : Stand p l e ({ frames := 0, cells := 0, slots := 0, locals := 0 } : Room) s m #[(.ref b), (.int (9 : Int32)), (.int tg), (.long ct), (.long ff)] below meth c s₁ [] 0 0 := Stand.of_body Bd
  have e0 : s₁.heap = h0 := by rw [← hh, Bd.state]; rfl
  have N0 := Fr.nil n0
  have KP : Keep h0 h0 [] := Keep.refl _ _
  refine own_start (Fin := (own_Fin s (own_QE9 Z b kb tg ct ff h0 n0) ({ frames := 0, cells := 0, slots := 0, locals := 0 } : Room).cells ({ frames := 0, cells := 0, slots := 0, locals := 0 } : Room).slots)) (own_from (mkF m 0 #[rv b, iv 9, iv tg, .val (.long ct), .second, .val (.long ff), .second] []) (castTop (own_ef_E9 m b (9 : Int32) tg ct ff)) ?_)
  refine own_aln 1 X0 hx (hb hby own_d177) rfl rfl rfl ?_
  refine own_iln 2 X0 hx (hb hby own_d178) rfl rfl ?_
  obtain ⟨cl256, Ar256, -, S256, -, H256, -⟩ := id Vb
  refine own_to (mkF m 3 #[rv b, iv 9, iv tg, .val (.long ct), .second, .val (.long ff), .second] [(.long (if tg = (9 : Int32) then ct else (ff + (9 : Int64))))]) (X0.laload hx (j := (9 : Int32)) (v := (.long (if tg = (9 : Int32) then ct else (ff + (9 : Int64))))) (by rw [e0]; exact Ar256.1) (State.isArrayOf_alike hZ.alike Ar256.2.1) Ar256.2.2 (inb_of S256 ⟨by decide, by decide⟩) (H256.at (inb_of S256 ⟨by decide, by decide⟩) rfl) (g := (mkF m 2 #[rv b, iv 9, iv tg, .val (.long ct), .second, .val (.long ff), .second] [(.int (9 : Int32)), (.ref b)])) rfl rfl (hb hby own_d179)) ?_
  refine own_iln 4 X0 hx (hb hby own_d180) rfl rfl ?_
  refine own_iln 5 X0 hx (hb hby own_d181) rfl rfl ?_
  by_cases hj : (9 : Int32) = tg
  · refine own_icN 8 X0 hx (hb hby own_d182) (teq hj).2 rfl ?_
    refine own_to (T' := s₁) (mkF m 9 #[rv b, iv 9, iv tg, .val (.long ct), .second, .val (.long ff), .second] [(.long ct), (.long (if tg = (9 : Int32) then ct else (ff + (9 : Int64))))]) (fun _ k => XS.lloadN X0.here hx rfl (hb hby own_d183) rfl k) ?_
    refine own_go 17 X0 hx (hb hby own_d184) (by decide) (by decide) ?_
    refine own_to (T' := s₁) (mkF m 18 #[rv b, iv 9, iv tg, .val (.long ct), .second, .val (.long ff), .second] [(.int (lcmpW (if tg = (9 : Int32) then ct else (ff + (9 : Int64))) ct))]) (fun _ k => XS.lcmp X0.here hx rfl (hb hby own_d185) rfl k) ?_
    refine own_ifN 21 X0 hx (hb hby own_d186) ((if0 _ _).trans (teq ((lw_eq _ _).mpr (by rw [if_pos hj.symm]))).2) rfl ?_
    refine own_ic 22 1 X0 hx (hb hby own_d191) rfl rfl ?_
    refine own_go 26 X0 hx (hb hby own_d192) (by decide) (by decide) ?_
    exact own_retN X0 hx (t := .boolean) Bd.returns (by simp) hlk (hb hby own_d193) (by decide) (by decide) (by rw [e0]; exact ⟨rfl, N0, rfl⟩)
  · refine own_icY 12 X0 hx (hb hby own_d182) (feq hj).2 (by decide) (by decide) ?_
    refine own_to (T' := s₁) (mkF m 14 #[rv b, iv 9, iv tg, .val (.long ct), .second, .val (.long ff), .second] [(.long ff), (.long (if tg = (9 : Int32) then ct else (ff + (9 : Int64))))]) (fun _ k => XS.lload X0.here hx rfl (hb hby own_d187) rfl k) ?_
    refine own_iln 15 X0 hx (hb hby own_d188) rfl rfl ?_
    refine own_to (T' := s₁) (mkF m 16 #[rv b, iv 9, iv tg, .val (.long ct), .second, .val (.long ff), .second] [(.long ((9 : Int32).toInt64)), (.long ff), (.long (if tg = (9 : Int32) then ct else (ff + (9 : Int64))))]) (fun _ k => XS.i2l X0.here hx rfl (hb hby own_d189) rfl k) ?_
    refine own_to (T' := s₁) (mkF m 17 #[rv b, iv 9, iv tg, .val (.long ct), .second, .val (.long ff), .second] [(.long (ff + ((9 : Int32).toInt64))), (.long (if tg = (9 : Int32) then ct else (ff + (9 : Int64))))]) (fun _ k => XS.ladd X0.here hx rfl (hb hby own_d190) rfl k) ?_
    refine own_to (T' := s₁) (mkF m 18 #[rv b, iv 9, iv tg, .val (.long ct), .second, .val (.long ff), .second] [(.int (lcmpW (if tg = (9 : Int32) then ct else (ff + (9 : Int64))) (ff + ((9 : Int32).toInt64))))]) (fun _ k => XS.lcmp X0.here hx rfl (hb hby own_d185) rfl k) ?_
    refine own_ifN 21 X0 hx (hb hby own_d186) ((if0 _ _).trans (teq ((lw_eq _ _).mpr (by rw [if_neg (fun z => hj z.symm)]; rfl))).2) rfl ?_
    refine own_ic 22 1 X0 hx (hb hby own_d191) rfl rfl ?_
    refine own_go 26 X0 hx (hb hby own_d192) (by decide) (by decide) ?_
    exact own_retN X0 hx (t := .boolean) Bd.returns (by simp) hlk (hb hby own_d193) (by decide) (by decide) (by rw [e0]; exact ⟨rfl, N0, rfl⟩)
def own_Q0 (Z : State) (p0 p1 p2 p3 : Int32) (ct ff : Int64) (aC aS : Addr) (h0 : Heap) (n0 : Nat) (v : Option Value) (h : Heap) (L : List Loc) : Prop := v = some (.int 1) ∧ Fr n0 L
set_option maxRecDepth 65536 in
set_option maxHeartbeats 40000000 in
theorem own_rm0 (l : Launch) (Z : State) (a0 : Array Value) (hw : ∀ d ∈ tables_1, d.before a0 Z = true) (ws : List Jvm.Cond) (p0 p1 p2 p3 : Int32) (ct ff : Int64) (aC aS : Addr) (h0 : Heap) (n0 : Nat) (Z0 : n0 ≤ h0.size) (OL : Old Z n0 h0) (SC : Sta Z Z.heap "com/example/gramstead/gramstead/estimation/RecordOrder" "CONTEXT" "Lcom/example/gramstead/gramstead/estimation/RecordOrder;" (.ref aC)) (SS : Sta Z Z.heap "com/example/gramstead/gramstead/estimation/RecordOrder" "SUFFIX" "Lcom/example/gramstead/gramstead/estimation/RecordOrder;" (.ref aS)) (ne_aS_aC : aS ≠ aC) :
    own_MF l x (Jvm.Cond.code x code maxLocals ret :: ws) room_1 #[(.int p0), (.int p1), (.int p2), (.int p3), (.long ct), (.long ff)] Z h0 (own_Q0 Z p0 p1 p2 p3 ct ff aC aS h0 n0) := by
  refine MetFree.of_bodySF (plainFor_of_name own_pn2) hisR ?_
  intro p e s m args below meth c s₁ Bd hml0 hP hK
  obtain ⟨rfl, hZ, hh⟩ := hP
  have hx := Bd.exec
  have hby := Bd.bytes
  have hlk : meth.locks = false := BodyLoose.notSynchronized Bd
  have hml : c.maxLocals = 19 := hml0
  have hown : s.vm.findClass "com/example/gramstead/gramstead/estimation/RecordLayoutPutLongPinLaw" = some m.cls := findClass_of_methodNamed Bd.named
  have hnm := (name_of_methodNamed Bd.named Bd.method).1
  have X0 : Stand p l e room_1 s m #[(.int p0), (.int p1), (.int p2), (.int p3), (.long ct), (.long ff)] below meth c s₁ [] 0 0 := Stand.of_body Bd
  have e0 : s₁.heap = h0 := by rw [← hh, Bd.state]; rfl
  have N0 := Fr.nil n0
  have KP : Keep h0 h0 [] := Keep.refl _ _
  refine own_start (Fin := (own_Fin s (own_Q0 Z p0 p1 p2 p3 ct ff aC aS h0 n0) room_1.cells room_1.slots)) (own_from (mkF m 0 #[iv p0, iv p1, iv p2, iv p3, .val (.long ct), .second, .val (.long ff), .second, .unset, .unset, .unset, .unset, .unset, .unset, .unset, .unset, .unset, .unset, .unset] []) (castTop (own_ef_0 m p0 p1 p2 p3 ct ff)) ?_)
  refine own_iln 1 X0 hx (hb hby at_0) rfl rfl ?_
  refine own_ic 2 1 X0 hx (hb hby at_1) rfl rfl ?_
  refine own_iand 3 X0 hx (hb hby at_2) rfl rfl ?_
  suffices jn259 : ∀ (T260 : State) (X260 : Stand p l e room_1 s m #[(.int p0), (.int p1), (.int p2), (.int p3), (.long ct), (.long ff)] below meth c T260 [] 0 0) (e260 : T260.heap = h0), ∀ ord : Addr, ((p0 &&& (1 : Int32)) = (0 : Int32) → ord = aS) → (¬ (p0 &&& (1 : Int32)) = (0 : Int32) → ord = aC) → own_E p e below (own_Fin s (own_Q0 Z p0 p1 p2 p3 ct ff aC aS h0 n0) room_1.cells room_1.slots) T260 (mkF m 15 #[iv p0, iv p1, iv p2, iv p3, .val (.long ct), .second, .val (.long ff), .second, .unset, .unset, .unset, .unset, .unset, .unset, .unset, .unset, .unset, .unset, .unset] [(.ref ord)]) from by
    by_cases hord : (p0 &&& (1 : Int32)) = (0 : Int32)
    · refine own_ifY 12 X0 hx (hb hby at_3) ((if0 _ _).trans (teq hord).1) (by decide) (by decide) ?_
      obtain ⟨T257, X257, e257, st257⟩ := getS2 X0 hx hZ hown (host := "") (Or.inl (own_w hw 0 rfl)) Via.refl e0 (SS.ext OL.2) (g := (mkF m 12 #[iv p0, iv p1, iv p2, iv p3, .val (.long ct), .second, .val (.long ff), .second, .unset, .unset, .unset, .unset, .unset, .unset, .unset, .unset, .unset, .unset, .unset] [])) rfl (hb hby at_12)
      refine own_to (mkF m 15 #[iv p0, iv p1, iv p2, iv p3, .val (.long ct), .second, .val (.long ff), .second, .unset, .unset, .unset, .unset, .unset, .unset, .unset, .unset, .unset, .unset, .unset] [(.ref aS)]) st257 ?_
      exact jn259 T257 X257 e257 aS (fun _ => rfl) (fun q => absurd hord q)
    · refine own_ifN 6 X0 hx (hb hby at_3) ((if0 _ _).trans (feq hord).1) rfl ?_
      obtain ⟨T258, X258, e258, st258⟩ := getS2 X0 hx hZ hown (host := "") (Or.inl (own_w hw 77 rfl)) Via.refl e0 (SC.ext OL.2) (g := (mkF m 6 #[iv p0, iv p1, iv p2, iv p3, .val (.long ct), .second, .val (.long ff), .second, .unset, .unset, .unset, .unset, .unset, .unset, .unset, .unset, .unset, .unset, .unset] [])) rfl (hb hby at_6)
      refine own_to (mkF m 9 #[iv p0, iv p1, iv p2, iv p3, .val (.long ct), .second, .val (.long ff), .second, .unset, .unset, .unset, .unset, .unset, .unset, .unset, .unset, .unset, .unset, .unset] [(.ref aC)]) st258 ?_
      refine own_go 15 X258 hx (hb hby at_9) (by decide) (by decide) ?_
      exact jn259 T258 X258 e258 aC (fun q => absurd q hord) (fun _ => rfl)
  intro T260 X260 e260 ord hordt hordf
  have hO : ord = aC ∨ ord = aS := (Classical.em _).elim (fun q => Or.inr (hordt q)) (fun q => Or.inl (hordf q))
  refine own_as 17 #[iv p0, iv p1, iv p2, iv p3, .val (.long ct), .second, .val (.long ff), .second, rv ord, .unset, .unset, .unset, .unset, .unset, .unset, .unset, .unset, .unset, .unset] X260 hx (hb hby at_15) rfl rfl rfl ?_
  refine own_ic 18 1 X260 hx (hb hby at_17) rfl rfl ?_
  refine own_iln 19 X260 hx (hb hby at_18) rfl rfl ?_
  refine own_ic 20 1 X260 hx (hb hby at_19) rfl rfl ?_
  refine own_iushr 21 X260 hx (hb hby at_20) rfl rfl ?_
  refine own_ic 22 3 X260 hx (hb hby at_21) rfl rfl ?_
  refine own_iand 23 X260 hx (hb hby at_22) rfl rfl ?_
  refine own_iadd 24 X260 hx (hb hby at_23) rfl rfl ?_
  generalize hmo : ((1 : Int32) + (((p0.toUInt32 >>> ((1 : Int32) &&& 31).toUInt32).toInt32) &&& (3 : Int32))) = mo
  have hmo4 := own_mo p0 hmo
  refine own_is 26 #[iv p0, iv p1, iv p2, iv p3, .val (.long ct), .second, .val (.long ff), .second, rv ord, iv mo, .unset, .unset, .unset, .unset, .unset, .unset, .unset, .unset, .unset] X260 hx (hb hby at_24) rfl rfl ?_
  refine own_ic 27 1 X260 hx (hb hby at_26) rfl rfl ?_
  refine own_iln 28 X260 hx (hb hby at_27) rfl rfl ?_
  refine own_ic 29 3 X260 hx (hb hby at_28) rfl rfl ?_
  refine own_iushr 30 X260 hx (hb hby at_29) rfl rfl ?_
  refine own_ic 31 3 X260 hx (hb hby at_30) rfl rfl ?_
  refine own_iand 32 X260 hx (hb hby at_31) rfl rfl ?_
  refine own_ic 33 3 X260 hx (hb hby at_32) rfl rfl ?_
  refine own_to (T' := T260) (mkF m 34 #[iv p0, iv p1, iv p2, iv p3, .val (.long ct), .second, .val (.long ff), .second, rv ord, iv mo, .unset, .unset, .unset, .unset, .unset, .unset, .unset, .unset, .unset] [(.int ((((p0.toUInt32 >>> ((3 : Int32) &&& 31).toUInt32).toInt32) &&& (3 : Int32)) % (3 : Int32))), (.int (1 : Int32))]) (fun _ k => iremM X260 hx rfl (hb hby at_33) rfl (by decide) k) ?_
  refine own_iadd 35 X260 hx (hb hby at_34) rfl rfl ?_
  generalize hpl : ((1 : Int32) + ((((p0.toUInt32 >>> ((3 : Int32) &&& 31).toUInt32).toInt32) &&& (3 : Int32)) % (3 : Int32))) = pl
  have hpl3 := own_pl p0 hpl
  refine own_is 37 #[iv p0, iv p1, iv p2, iv p3, .val (.long ct), .second, .val (.long ff), .second, rv ord, iv mo, iv pl, .unset, .unset, .unset, .unset, .unset, .unset, .unset, .unset] X260 hx (hb hby at_35) rfl rfl ?_
  obtain ⟨T261, h261, X261, e261, E261, A261, D261, -, st261⟩ := newO X260 hx hZ hown (own_w hw 3 rfl) (own_w hw 4 rfl) (own_w hw 5 rfl) e260 (g := (mkF m 37 #[iv p0, iv p1, iv p2, iv p3, .val (.long ct), .second, .val (.long ff), .second, rv ord, iv mo, iv pl, .unset, .unset, .unset, .unset, .unset, .unset, .unset, .unset] [])) rfl (hb hby at_37) (by decide) (by decide)
  obtain ⟨b261, g261⟩ : ∃ z, z = h0.size := ⟨_, rfl⟩
  rw [← g261] at A261 D261 st261
  have sz_b261 : h0.size ≤ b261 := Nat.le_trans KP.1 (Nat.le_of_eq g261.symm)
  have ge_b261 : n0 ≤ b261 := Nat.le_trans Z0 sz_b261
  have OL := OL.ext E261
  have KP := KP.ext E261
  have E_b261 : Exa Z h261 b261 "com/example/gramstead/gramstead/estimation/RecordLayout" := A261
  have F_order_b261 : Fld Z h261 b261 "com/example/gramstead/gramstead/estimation/RecordLayout" "order" "Lcom/example/gramstead/gramstead/estimation/RecordOrder;" .null := D261 (Or.inr (own_w hw 14 rfl)) (ty := (.object "com/example/gramstead/gramstead/estimation/RecordOrder")) (by decide)
  have F_wordMask_b261 : Fld Z h261 b261 "com/example/gramstead/gramstead/estimation/RecordLayout" "wordMask" "J" (.long (0 : Int64)) := D261 (Or.inr (own_w hw 28 rfl)) (ty := .long) (by decide)
  have F_slotLongs_b261 : Fld Z h261 b261 "com/example/gramstead/gramstead/estimation/RecordLayout" "slotLongs" "[I" .null := D261 (Or.inr (own_w hw 31 rfl)) (ty := (.array .int)) (by decide)
  have F_slotShifts_b261 : Fld Z h261 b261 "com/example/gramstead/gramstead/estimation/RecordLayout" "slotShifts" "[I" .null := D261 (Or.inr (own_w hw 33 rfl)) (ty := (.array .int)) (by decide)
  have F_orderMask_b261 : Fld Z h261 b261 "com/example/gramstead/gramstead/estimation/RecordLayout" "orderMask" "J" (.long (0 : Int64)) := D261 (Or.inr (own_w hw 37 rfl)) (ty := .long) (by decide)
  have F_orderShift_b261 : Fld Z h261 b261 "com/example/gramstead/gramstead/estimation/RecordLayout" "orderShift" "I" (.int (0 : Int32)) := D261 (Or.inr (own_w hw 39 rfl)) (ty := .int) (by decide)
  have F_keyLongs_b261 : Fld Z h261 b261 "com/example/gramstead/gramstead/estimation/RecordLayout" "keyLongs" "I" (.int (0 : Int32)) := D261 (Or.inr (own_w hw 41 rfl)) (ty := .int) (by decide)
  have F_width_b261 : Fld Z h261 b261 "com/example/gramstead/gramstead/estimation/RecordLayout" "width" "I" (.int (0 : Int32)) := D261 (Or.inr (own_w hw 43 rfl)) (ty := .int) (by decide)
  refine own_to (mkF m 40 #[iv p0, iv p1, iv p2, iv p3, .val (.long ct), .second, .val (.long ff), .second, rv ord, iv mo, iv pl, .unset, .unset, .unset, .unset, .unset, .unset, .unset, .unset] [(.ref b261)]) st261 ?_
  refine own_dup 41 X261 hx (hb hby at_40) rfl rfl ?_
  refine own_al 43 X261 hx (hb hby at_41) rfl rfl rfl ?_
  refine own_il 45 X261 hx (hb hby at_43) rfl rfl ?_
  refine own_iln 46 X261 hx (hb hby at_45) rfl rfl ?_
  refine own_to (mkF m 48 #[iv p0, iv p1, iv p2, iv p3, .val (.long ct), .second, .val (.long ff), .second, rv ord, iv mo, iv pl, .unset, .unset, .unset, .unset, .unset, .unset, .unset, .unset] [(.int (2147483647 : Int32)), (.int p1), (.int mo), (.ref ord), (.ref b261), (.ref b261)]) (X261.ldcInt hx hown (mvT hZ (own_w hw 6 rfl)) (g := (mkF m 46 #[iv p0, iv p1, iv p2, iv p3, .val (.long ct), .second, .val (.long ff), .second, rv ord, iv mo, iv pl, .unset, .unset, .unset, .unset, .unset, .unset, .unset, .unset] [(.int p1), (.int mo), (.ref ord), (.ref b261), (.ref b261)])) rfl (hb hby at_46)) ?_
  refine own_iand 49 X261 hx (hb hby at_48) rfl rfl ?_
  generalize hwd : (p1 &&& (2147483647 : Int32)) = wd
  have hwd0 := own_wd p1 hwd
  refine own_il 51 X261 hx (hb hby at_49) rfl rfl ?_
  obtain ⟨_, T262, Lc262, X262, hQ262, st262⟩ := own_special X261 hx (y := (⟨"com/example/gramstead/gramstead/estimation/RecordLayout", "<init>", "(Lcom/example/gramstead/gramstead/estimation/RecordOrder;III)V"⟩ : MethodName)) rfl hown (mvT hZ (own_w hw 7 rfl)) (mvT hZ (own_w hw 8 rfl)) (mvT hZ (own_w hw 9 rfl)) (by decide) (backOf (W := 1) (own_rmCT l Z a0 hw [] ord b261 aC aS mo wd pl h261 n0 (Nat.le_trans Z0 KP.1) OL hO SC ne_aS_aC hmo4 hwd0 ge_b261 E_b261 F_order_b261 F_wordMask_b261 F_slotLongs_b261 F_slotShifts_b261 F_orderMask_b261 F_orderShift_b261 F_keyLongs_b261 F_width_b261) hZ (own_w hw 9 rfl) (own_w hw 5 rfl) (by decide) (by decide)) (g := (mkF m 51 #[iv p0, iv p1, iv p2, iv p3, .val (.long ct), .second, .val (.long ff), .second, rv ord, iv mo, iv pl, .unset, .unset, .unset, .unset, .unset, .unset, .unset, .unset] [(.int pl), (.int wd), (.int mo), (.ref ord), (.ref b261), (.ref b261)])) rfl (by rw [hml]; rfl) (a := b261) (argsL := [(.ref ord), (.int mo), (.int wd), (.int pl)]) (rest := [(.ref b261)]) (lenOf own_pd2 rfl) rfl (by show 2 * 0 + _ ≤ _; exact Nat.le_of_eq rfl) (hb hby at_51) rfl e261 (kc := 3) (ks := 16) rfl rfl (by decide) (by decide)
  obtain ⟨rfl, N262q, K262, Ea262, kl, hk1_, hk2_, Fk262, Fw262⟩ := hQ262
  have N262 := Fr.app N0 N262q
  have OL := OL.keep K262 (allS ge_b261 all0)
  have KP := KP.trans K262 (allS (Or.inr sz_b261) all0)
  have E_b261 := E_b261.keep K262
  refine own_via (mkF m 54 #[iv p0, iv p1, iv p2, iv p3, .val (.long ct), .second, .val (.long ff), .second, rv ord, iv mo, iv pl, .unset, .unset, .unset, .unset, .unset, .unset, .unset, .unset] [(.ref b261)]) st262 ?_
  have EC : Exa Z T262.heap b261 "com/example/gramstead/gramstead/estimation/RecordLayout" := Ea262
  have Fk : Fld Z T262.heap b261 "com/example/gramstead/gramstead/estimation/RecordLayout" "keyLongs" "I" (.int kl) := Fk262
  have Fw : Fld Z T262.heap b261 "com/example/gramstead/gramstead/estimation/RecordLayout" "width" "I" (.int (kl + pl)) := Fw262
  clear X261 e261 E261 A261 D261 st261 g261 st262 N262q K262
  refine own_as 56 #[iv p0, iv p1, iv p2, iv p3, .val (.long ct), .second, .val (.long ff), .second, rv ord, iv mo, iv pl, rv b261, .unset, .unset, .unset, .unset, .unset, .unset, .unset] X262 hx (hb hby at_54) rfl rfl rfl ?_
  refine own_iln 57 X262 hx (hb hby at_56) rfl rfl ?_
  refine own_to (mkF m 59 #[iv p0, iv p1, iv p2, iv p3, .val (.long ct), .second, .val (.long ff), .second, rv ord, iv mo, iv pl, rv b261, .unset, .unset, .unset, .unset, .unset, .unset, .unset] [(.int (2147483647 : Int32)), (.int p2)]) (X262.ldcInt hx hown (mvT hZ (own_w hw 6 rfl)) (g := (mkF m 57 #[iv p0, iv p1, iv p2, iv p3, .val (.long ct), .second, .val (.long ff), .second, rv ord, iv mo, iv pl, rv b261, .unset, .unset, .unset, .unset, .unset, .unset, .unset] [(.int p2)])) rfl (hb hby at_57)) ?_
  refine own_iand 60 X262 hx (hb hby at_59) rfl rfl ?_
  refine own_ic 61 4 X262 hx (hb hby at_60) rfl rfl ?_
  refine own_to (T' := T262) (mkF m 62 #[iv p0, iv p1, iv p2, iv p3, .val (.long ct), .second, .val (.long ff), .second, rv ord, iv mo, iv pl, rv b261, .unset, .unset, .unset, .unset, .unset, .unset, .unset] [(.int ((p2 &&& (2147483647 : Int32)) % (4 : Int32)))]) (fun _ k => iremM X262 hx rfl (hb hby at_61) rfl (by decide) k) ?_
  generalize hax : ((p2 &&& (2147483647 : Int32)) % (4 : Int32)) = ax
  have hax3 := own_ax p2 hax
  have hpl0 : pl ≠ 0 := own_pl0 hpl3
  refine own_is 64 #[iv p0, iv p1, iv p2, iv p3, .val (.long ct), .second, .val (.long ff), .second, rv ord, iv mo, iv pl, rv b261, iv ax, .unset, .unset, .unset, .unset, .unset, .unset] X262 hx (hb hby at_62) rfl rfl ?_
  refine own_iln 65 X262 hx (hb hby at_64) rfl rfl ?_
  refine own_to (mkF m 67 #[iv p0, iv p1, iv p2, iv p3, .val (.long ct), .second, .val (.long ff), .second, rv ord, iv mo, iv pl, rv b261, iv ax, .unset, .unset, .unset, .unset, .unset, .unset] [(.int (2147483647 : Int32)), (.int p3)]) (X262.ldcInt hx hown (mvT hZ (own_w hw 6 rfl)) (g := (mkF m 65 #[iv p0, iv p1, iv p2, iv p3, .val (.long ct), .second, .val (.long ff), .second, rv ord, iv mo, iv pl, rv b261, iv ax, .unset, .unset, .unset, .unset, .unset, .unset] [(.int p3)])) rfl (hb hby at_65)) ?_
  refine own_iand 68 X262 hx (hb hby at_67) rfl rfl ?_
  refine own_il 70 X262 hx (hb hby at_68) rfl rfl ?_
  refine own_to (T' := T262) (mkF m 71 #[iv p0, iv p1, iv p2, iv p3, .val (.long ct), .second, .val (.long ff), .second, rv ord, iv mo, iv pl, rv b261, iv ax, .unset, .unset, .unset, .unset, .unset, .unset] [(.int ((p3 &&& (2147483647 : Int32)) % pl))]) (fun _ k => iremM X262 hx rfl (hb hby at_70) rfl hpl0 k) ?_
  generalize hva : ((p3 &&& (2147483647 : Int32)) % pl) = va
  have hva2 := own_va p3 hpl3 hva
  refine own_is 73 #[iv p0, iv p1, iv p2, iv p3, .val (.long ct), .second, .val (.long ff), .second, rv ord, iv mo, iv pl, rv b261, iv ax, iv va, .unset, .unset, .unset, .unset, .unset] X262 hx (hb hby at_71) rfl rfl ?_
  refine own_bi 75 10 X262 hx (hb hby at_73) rfl rfl ?_
  obtain ⟨T263, h263, k263, X263, e263, E263, A263, B263, st263⟩ := newPE X262 hx hZ (own_w hw 44 rfl) rfl (g := (mkF m 75 #[iv p0, iv p1, iv p2, iv p3, .val (.long ct), .second, .val (.long ff), .second, rv ord, iv mo, iv pl, rv b261, iv ax, iv va, .unset, .unset, .unset, .unset, .unset] [(.int (10 : Int32))])) rfl (hb hby at_75) rfl (by decide) (cap := 10) (by decide) (by decide) (by decide) (by decide) (ad := "[J") (by decide)
  obtain ⟨b263, g263⟩ : ∃ z, z = T262.heap.size := ⟨_, rfl⟩
  rw [← g263] at A263 B263 st263
  have sz_b263 : h0.size ≤ b263 := Nat.le_trans KP.1 (Nat.le_of_eq g263.symm)
  have ge_b263 : n0 ≤ b263 := Nat.le_trans Z0 sz_b263
  have ne_b261_b263 : b261 ≠ b263 := Nat.ne_of_lt (Nat.lt_of_lt_of_le EC.lt (Nat.le_of_eq g263.symm))
  have OL := OL.ext E263
  have KP := KP.ext E263
  have EC := EC.ext E263
  have Fk := Fk.ext E263
  have Fw := Fw.ext E263
  have V_b263 : Arv Z h263 b263 k263 .long (10 : Int32) [(.long (0 : Int64)), (.long (0 : Int64)), (.long (0 : Int64)), (.long (0 : Int64)), (.long (0 : Int64)), (.long (0 : Int64)), (.long (0 : Int64)), (.long (0 : Int64)), (.long (0 : Int64)), (.long (0 : Int64))] (.long (0 : Int64)) := (Arv.new A263 (by decide)).pad (pad_rep [] (.long (0 : Int64)) 10)
  refine own_to (mkF m 77 #[iv p0, iv p1, iv p2, iv p3, .val (.long ct), .second, .val (.long ff), .second, rv ord, iv mo, iv pl, rv b261, iv ax, iv va, .unset, .unset, .unset, .unset, .unset] [(.ref b263)]) st263 ?_
  refine own_as 79 #[iv p0, iv p1, iv p2, iv p3, .val (.long ct), .second, .val (.long ff), .second, rv ord, iv mo, iv pl, rv b261, iv ax, iv va, rv b263, .unset, .unset, .unset, .unset] X263 hx (hb hby at_77) rfl rfl rfl ?_
  refine own_al 81 X263 hx (hb hby at_79) rfl rfl rfl ?_
  refine own_ic 82 0 X263 hx (hb hby at_81) rfl rfl ?_
  refine own_to (T' := T263) (mkF m 84 #[iv p0, iv p1, iv p2, iv p3, .val (.long ct), .second, .val (.long ff), .second, rv ord, iv mo, iv pl, rv b261, iv ax, iv va, rv b263, .unset, .unset, .unset, .unset] [(.long ff), (.int (0 : Int32)), (.ref b263)]) (fun _ k => XS.lload X263.here hx rfl (hb hby at_82) rfl k) ?_
  obtain ⟨cl264, Ar264, q264, S264, M264, H264, G264⟩ := id V_b263
  obtain ⟨T264, h264, X264, e264, W264, st264⟩ := stJ X263 hx hZ e263 Ar264 (j := (0 : Int32)) (inb_of S264 ⟨by decide, by decide⟩) (g := (mkF m 84 #[iv p0, iv p1, iv p2, iv p3, .val (.long ct), .second, .val (.long ff), .second, rv ord, iv mo, iv pl, rv b261, iv ax, iv va, rv b263, .unset, .unset, .unset, .unset] [(.long ff), (.int (0 : Int32)), (.ref b263)])) rfl rfl (hb hby at_84)
  refine own_to (mkF m 85 #[iv p0, iv p1, iv p2, iv p3, .val (.long ct), .second, .val (.long ff), .second, rv ord, iv mo, iv pl, rv b261, iv ax, iv va, rv b263, .unset, .unset, .unset, .unset] []) st264 ?_
  have N264 := Fr.snoc X264 N262 ge_b263
  have tmp264 : Arv Z h264 b263 k263 .long (10 : Int32) [(.long ff), (.long (0 : Int64)), (.long (0 : Int64)), (.long (0 : Int64)), (.long (0 : Int64)), (.long (0 : Int64)), (.long (0 : Int64)), (.long (0 : Int64)), (.long (0 : Int64)), (.long (0 : Int64))] (.long (0 : Int64)) := Arv.set Ar264 q264 S264 M264 H264 G264 rfl W264 0 rfl (Nat.le_of_ble_eq_true rfl)
  have OL := OL.wr W264 ge_b263
  have KP := KP.wr W264 (Or.inr sz_b263)
  have EC := EC.wr W264
  have Fk := Fk.other W264 (Or.inl ne_b261_b263)
  have Fw := Fw.other W264 (Or.inl ne_b261_b263)
  have V_b263 := tmp264
  refine own_al 87 X264 hx (hb hby at_85) rfl rfl rfl ?_
  refine own_ic 88 1 X264 hx (hb hby at_87) rfl rfl ?_
  refine own_to (T' := T264) (mkF m 90 #[iv p0, iv p1, iv p2, iv p3, .val (.long ct), .second, .val (.long ff), .second, rv ord, iv mo, iv pl, rv b261, iv ax, iv va, rv b263, .unset, .unset, .unset, .unset] [(.long ff), (.int (1 : Int32)), (.ref b263)]) (fun _ k => XS.lload X264.here hx rfl (hb hby at_88) rfl k) ?_
  refine own_to (T' := T264) (mkF m 91 #[iv p0, iv p1, iv p2, iv p3, .val (.long ct), .second, .val (.long ff), .second, rv ord, iv mo, iv pl, rv b261, iv ax, iv va, rv b263, .unset, .unset, .unset, .unset] [(.long (1 : Int64)), (.long ff), (.int (1 : Int32)), (.ref b263)]) (fun _ k => XS.lconst X264.here hx rfl (hb hby at_90) k) ?_
  refine own_to (T' := T264) (mkF m 92 #[iv p0, iv p1, iv p2, iv p3, .val (.long ct), .second, .val (.long ff), .second, rv ord, iv mo, iv pl, rv b261, iv ax, iv va, rv b263, .unset, .unset, .unset, .unset] [(.long (ff + (1 : Int64))), (.int (1 : Int32)), (.ref b263)]) (fun _ k => XS.ladd X264.here hx rfl (hb hby at_91) rfl k) ?_
  obtain ⟨cl265, Ar265, q265, S265, M265, H265, G265⟩ := id V_b263
  obtain ⟨T265, h265, X265, e265, W265, st265⟩ := stJ X264 hx hZ e264 Ar265 (j := (1 : Int32)) (inb_of S265 ⟨by decide, by decide⟩) (g := (mkF m 92 #[iv p0, iv p1, iv p2, iv p3, .val (.long ct), .second, .val (.long ff), .second, rv ord, iv mo, iv pl, rv b261, iv ax, iv va, rv b263, .unset, .unset, .unset, .unset] [(.long (ff + (1 : Int64))), (.int (1 : Int32)), (.ref b263)])) rfl rfl (hb hby at_92)
  refine own_to (mkF m 93 #[iv p0, iv p1, iv p2, iv p3, .val (.long ct), .second, .val (.long ff), .second, rv ord, iv mo, iv pl, rv b261, iv ax, iv va, rv b263, .unset, .unset, .unset, .unset] []) st265 ?_
  have N265 := Fr.snoc X265 N264 ge_b263
  have tmp265 : Arv Z h265 b263 k263 .long (10 : Int32) [(.long ff), (.long (ff + (1 : Int64))), (.long (0 : Int64)), (.long (0 : Int64)), (.long (0 : Int64)), (.long (0 : Int64)), (.long (0 : Int64)), (.long (0 : Int64)), (.long (0 : Int64)), (.long (0 : Int64))] (.long (0 : Int64)) := Arv.set Ar265 q265 S265 M265 H265 G265 rfl W265 1 rfl (Nat.le_of_ble_eq_true rfl)
  have OL := OL.wr W265 ge_b263
  have KP := KP.wr W265 (Or.inr sz_b263)
  have EC := EC.wr W265
  have Fk := Fk.other W265 (Or.inl ne_b261_b263)
  have Fw := Fw.other W265 (Or.inl ne_b261_b263)
  have V_b263 := tmp265
  refine own_al 95 X265 hx (hb hby at_93) rfl rfl rfl ?_
  refine own_ic 96 2 X265 hx (hb hby at_95) rfl rfl ?_
  refine own_to (T' := T265) (mkF m 98 #[iv p0, iv p1, iv p2, iv p3, .val (.long ct), .second, .val (.long ff), .second, rv ord, iv mo, iv pl, rv b261, iv ax, iv va, rv b263, .unset, .unset, .unset, .unset] [(.long ff), (.int (2 : Int32)), (.ref b263)]) (fun _ k => XS.lload X265.here hx rfl (hb hby at_96) rfl k) ?_
  refine own_to (mkF m 101 #[iv p0, iv p1, iv p2, iv p3, .val (.long ct), .second, .val (.long ff), .second, rv ord, iv mo, iv pl, rv b261, iv ax, iv va, rv b263, .unset, .unset, .unset, .unset] [(.long (2 : Int64)), (.long ff), (.int (2 : Int32)), (.ref b263)]) (X265.ldc2Long hx hown (mvT hZ (own_w hw 45 rfl)) (g := (mkF m 98 #[iv p0, iv p1, iv p2, iv p3, .val (.long ct), .second, .val (.long ff), .second, rv ord, iv mo, iv pl, rv b261, iv ax, iv va, rv b263, .unset, .unset, .unset, .unset] [(.long ff), (.int (2 : Int32)), (.ref b263)])) rfl (hb hby at_98)) ?_
  refine own_to (T' := T265) (mkF m 102 #[iv p0, iv p1, iv p2, iv p3, .val (.long ct), .second, .val (.long ff), .second, rv ord, iv mo, iv pl, rv b261, iv ax, iv va, rv b263, .unset, .unset, .unset, .unset] [(.long (ff + (2 : Int64))), (.int (2 : Int32)), (.ref b263)]) (fun _ k => XS.ladd X265.here hx rfl (hb hby at_101) rfl k) ?_
  obtain ⟨cl266, Ar266, q266, S266, M266, H266, G266⟩ := id V_b263
  obtain ⟨T266, h266, X266, e266, W266, st266⟩ := stJ X265 hx hZ e265 Ar266 (j := (2 : Int32)) (inb_of S266 ⟨by decide, by decide⟩) (g := (mkF m 102 #[iv p0, iv p1, iv p2, iv p3, .val (.long ct), .second, .val (.long ff), .second, rv ord, iv mo, iv pl, rv b261, iv ax, iv va, rv b263, .unset, .unset, .unset, .unset] [(.long (ff + (2 : Int64))), (.int (2 : Int32)), (.ref b263)])) rfl rfl (hb hby at_102)
  refine own_to (mkF m 103 #[iv p0, iv p1, iv p2, iv p3, .val (.long ct), .second, .val (.long ff), .second, rv ord, iv mo, iv pl, rv b261, iv ax, iv va, rv b263, .unset, .unset, .unset, .unset] []) st266 ?_
  have N266 := Fr.snoc X266 N265 ge_b263
  have tmp266 : Arv Z h266 b263 k263 .long (10 : Int32) [(.long ff), (.long (ff + (1 : Int64))), (.long (ff + (2 : Int64))), (.long (0 : Int64)), (.long (0 : Int64)), (.long (0 : Int64)), (.long (0 : Int64)), (.long (0 : Int64)), (.long (0 : Int64)), (.long (0 : Int64))] (.long (0 : Int64)) := Arv.set Ar266 q266 S266 M266 H266 G266 rfl W266 2 rfl (Nat.le_of_ble_eq_true rfl)
  have OL := OL.wr W266 ge_b263
  have KP := KP.wr W266 (Or.inr sz_b263)
  have EC := EC.wr W266
  have Fk := Fk.other W266 (Or.inl ne_b261_b263)
  have Fw := Fw.other W266 (Or.inl ne_b261_b263)
  have V_b263 := tmp266
  refine own_al 105 X266 hx (hb hby at_103) rfl rfl rfl ?_
  refine own_ic 106 3 X266 hx (hb hby at_105) rfl rfl ?_
  refine own_to (T' := T266) (mkF m 108 #[iv p0, iv p1, iv p2, iv p3, .val (.long ct), .second, .val (.long ff), .second, rv ord, iv mo, iv pl, rv b261, iv ax, iv va, rv b263, .unset, .unset, .unset, .unset] [(.long ff), (.int (3 : Int32)), (.ref b263)]) (fun _ k => XS.lload X266.here hx rfl (hb hby at_106) rfl k) ?_
  refine own_to (mkF m 111 #[iv p0, iv p1, iv p2, iv p3, .val (.long ct), .second, .val (.long ff), .second, rv ord, iv mo, iv pl, rv b261, iv ax, iv va, rv b263, .unset, .unset, .unset, .unset] [(.long (3 : Int64)), (.long ff), (.int (3 : Int32)), (.ref b263)]) (X266.ldc2Long hx hown (mvT hZ (own_w hw 46 rfl)) (g := (mkF m 108 #[iv p0, iv p1, iv p2, iv p3, .val (.long ct), .second, .val (.long ff), .second, rv ord, iv mo, iv pl, rv b261, iv ax, iv va, rv b263, .unset, .unset, .unset, .unset] [(.long ff), (.int (3 : Int32)), (.ref b263)])) rfl (hb hby at_108)) ?_
  refine own_to (T' := T266) (mkF m 112 #[iv p0, iv p1, iv p2, iv p3, .val (.long ct), .second, .val (.long ff), .second, rv ord, iv mo, iv pl, rv b261, iv ax, iv va, rv b263, .unset, .unset, .unset, .unset] [(.long (ff + (3 : Int64))), (.int (3 : Int32)), (.ref b263)]) (fun _ k => XS.ladd X266.here hx rfl (hb hby at_111) rfl k) ?_
  obtain ⟨cl267, Ar267, q267, S267, M267, H267, G267⟩ := id V_b263
  obtain ⟨T267, h267, X267, e267, W267, st267⟩ := stJ X266 hx hZ e266 Ar267 (j := (3 : Int32)) (inb_of S267 ⟨by decide, by decide⟩) (g := (mkF m 112 #[iv p0, iv p1, iv p2, iv p3, .val (.long ct), .second, .val (.long ff), .second, rv ord, iv mo, iv pl, rv b261, iv ax, iv va, rv b263, .unset, .unset, .unset, .unset] [(.long (ff + (3 : Int64))), (.int (3 : Int32)), (.ref b263)])) rfl rfl (hb hby at_112)
  refine own_to (mkF m 113 #[iv p0, iv p1, iv p2, iv p3, .val (.long ct), .second, .val (.long ff), .second, rv ord, iv mo, iv pl, rv b261, iv ax, iv va, rv b263, .unset, .unset, .unset, .unset] []) st267 ?_
  have N267 := Fr.snoc X267 N266 ge_b263
  have tmp267 : Arv Z h267 b263 k263 .long (10 : Int32) [(.long ff), (.long (ff + (1 : Int64))), (.long (ff + (2 : Int64))), (.long (ff + (3 : Int64))), (.long (0 : Int64)), (.long (0 : Int64)), (.long (0 : Int64)), (.long (0 : Int64)), (.long (0 : Int64)), (.long (0 : Int64))] (.long (0 : Int64)) := Arv.set Ar267 q267 S267 M267 H267 G267 rfl W267 3 rfl (Nat.le_of_ble_eq_true rfl)
  have OL := OL.wr W267 ge_b263
  have KP := KP.wr W267 (Or.inr sz_b263)
  have EC := EC.wr W267
  have Fk := Fk.other W267 (Or.inl ne_b261_b263)
  have Fw := Fw.other W267 (Or.inl ne_b261_b263)
  have V_b263 := tmp267
  refine own_al 115 X267 hx (hb hby at_113) rfl rfl rfl ?_
  refine own_ic 116 4 X267 hx (hb hby at_115) rfl rfl ?_
  refine own_to (T' := T267) (mkF m 118 #[iv p0, iv p1, iv p2, iv p3, .val (.long ct), .second, .val (.long ff), .second, rv ord, iv mo, iv pl, rv b261, iv ax, iv va, rv b263, .unset, .unset, .unset, .unset] [(.long ff), (.int (4 : Int32)), (.ref b263)]) (fun _ k => XS.lload X267.here hx rfl (hb hby at_116) rfl k) ?_
  refine own_to (mkF m 121 #[iv p0, iv p1, iv p2, iv p3, .val (.long ct), .second, .val (.long ff), .second, rv ord, iv mo, iv pl, rv b261, iv ax, iv va, rv b263, .unset, .unset, .unset, .unset] [(.long (4 : Int64)), (.long ff), (.int (4 : Int32)), (.ref b263)]) (X267.ldc2Long hx hown (mvT hZ (own_w hw 47 rfl)) (g := (mkF m 118 #[iv p0, iv p1, iv p2, iv p3, .val (.long ct), .second, .val (.long ff), .second, rv ord, iv mo, iv pl, rv b261, iv ax, iv va, rv b263, .unset, .unset, .unset, .unset] [(.long ff), (.int (4 : Int32)), (.ref b263)])) rfl (hb hby at_118)) ?_
  refine own_to (T' := T267) (mkF m 122 #[iv p0, iv p1, iv p2, iv p3, .val (.long ct), .second, .val (.long ff), .second, rv ord, iv mo, iv pl, rv b261, iv ax, iv va, rv b263, .unset, .unset, .unset, .unset] [(.long (ff + (4 : Int64))), (.int (4 : Int32)), (.ref b263)]) (fun _ k => XS.ladd X267.here hx rfl (hb hby at_121) rfl k) ?_
  obtain ⟨cl268, Ar268, q268, S268, M268, H268, G268⟩ := id V_b263
  obtain ⟨T268, h268, X268, e268, W268, st268⟩ := stJ X267 hx hZ e267 Ar268 (j := (4 : Int32)) (inb_of S268 ⟨by decide, by decide⟩) (g := (mkF m 122 #[iv p0, iv p1, iv p2, iv p3, .val (.long ct), .second, .val (.long ff), .second, rv ord, iv mo, iv pl, rv b261, iv ax, iv va, rv b263, .unset, .unset, .unset, .unset] [(.long (ff + (4 : Int64))), (.int (4 : Int32)), (.ref b263)])) rfl rfl (hb hby at_122)
  refine own_to (mkF m 123 #[iv p0, iv p1, iv p2, iv p3, .val (.long ct), .second, .val (.long ff), .second, rv ord, iv mo, iv pl, rv b261, iv ax, iv va, rv b263, .unset, .unset, .unset, .unset] []) st268 ?_
  have N268 := Fr.snoc X268 N267 ge_b263
  have tmp268 : Arv Z h268 b263 k263 .long (10 : Int32) [(.long ff), (.long (ff + (1 : Int64))), (.long (ff + (2 : Int64))), (.long (ff + (3 : Int64))), (.long (ff + (4 : Int64))), (.long (0 : Int64)), (.long (0 : Int64)), (.long (0 : Int64)), (.long (0 : Int64)), (.long (0 : Int64))] (.long (0 : Int64)) := Arv.set Ar268 q268 S268 M268 H268 G268 rfl W268 4 rfl (Nat.le_of_ble_eq_true rfl)
  have OL := OL.wr W268 ge_b263
  have KP := KP.wr W268 (Or.inr sz_b263)
  have EC := EC.wr W268
  have Fk := Fk.other W268 (Or.inl ne_b261_b263)
  have Fw := Fw.other W268 (Or.inl ne_b261_b263)
  have V_b263 := tmp268
  refine own_al 125 X268 hx (hb hby at_123) rfl rfl rfl ?_
  refine own_ic 126 5 X268 hx (hb hby at_125) rfl rfl ?_
  refine own_to (T' := T268) (mkF m 128 #[iv p0, iv p1, iv p2, iv p3, .val (.long ct), .second, .val (.long ff), .second, rv ord, iv mo, iv pl, rv b261, iv ax, iv va, rv b263, .unset, .unset, .unset, .unset] [(.long ff), (.int (5 : Int32)), (.ref b263)]) (fun _ k => XS.lload X268.here hx rfl (hb hby at_126) rfl k) ?_
  refine own_to (mkF m 131 #[iv p0, iv p1, iv p2, iv p3, .val (.long ct), .second, .val (.long ff), .second, rv ord, iv mo, iv pl, rv b261, iv ax, iv va, rv b263, .unset, .unset, .unset, .unset] [(.long (5 : Int64)), (.long ff), (.int (5 : Int32)), (.ref b263)]) (X268.ldc2Long hx hown (mvT hZ (own_w hw 48 rfl)) (g := (mkF m 128 #[iv p0, iv p1, iv p2, iv p3, .val (.long ct), .second, .val (.long ff), .second, rv ord, iv mo, iv pl, rv b261, iv ax, iv va, rv b263, .unset, .unset, .unset, .unset] [(.long ff), (.int (5 : Int32)), (.ref b263)])) rfl (hb hby at_128)) ?_
  refine own_to (T' := T268) (mkF m 132 #[iv p0, iv p1, iv p2, iv p3, .val (.long ct), .second, .val (.long ff), .second, rv ord, iv mo, iv pl, rv b261, iv ax, iv va, rv b263, .unset, .unset, .unset, .unset] [(.long (ff + (5 : Int64))), (.int (5 : Int32)), (.ref b263)]) (fun _ k => XS.ladd X268.here hx rfl (hb hby at_131) rfl k) ?_
  obtain ⟨cl269, Ar269, q269, S269, M269, H269, G269⟩ := id V_b263
  obtain ⟨T269, h269, X269, e269, W269, st269⟩ := stJ X268 hx hZ e268 Ar269 (j := (5 : Int32)) (inb_of S269 ⟨by decide, by decide⟩) (g := (mkF m 132 #[iv p0, iv p1, iv p2, iv p3, .val (.long ct), .second, .val (.long ff), .second, rv ord, iv mo, iv pl, rv b261, iv ax, iv va, rv b263, .unset, .unset, .unset, .unset] [(.long (ff + (5 : Int64))), (.int (5 : Int32)), (.ref b263)])) rfl rfl (hb hby at_132)
  refine own_to (mkF m 133 #[iv p0, iv p1, iv p2, iv p3, .val (.long ct), .second, .val (.long ff), .second, rv ord, iv mo, iv pl, rv b261, iv ax, iv va, rv b263, .unset, .unset, .unset, .unset] []) st269 ?_
  have N269 := Fr.snoc X269 N268 ge_b263
  have tmp269 : Arv Z h269 b263 k263 .long (10 : Int32) [(.long ff), (.long (ff + (1 : Int64))), (.long (ff + (2 : Int64))), (.long (ff + (3 : Int64))), (.long (ff + (4 : Int64))), (.long (ff + (5 : Int64))), (.long (0 : Int64)), (.long (0 : Int64)), (.long (0 : Int64)), (.long (0 : Int64))] (.long (0 : Int64)) := Arv.set Ar269 q269 S269 M269 H269 G269 rfl W269 5 rfl (Nat.le_of_ble_eq_true rfl)
  have OL := OL.wr W269 ge_b263
  have KP := KP.wr W269 (Or.inr sz_b263)
  have EC := EC.wr W269
  have Fk := Fk.other W269 (Or.inl ne_b261_b263)
  have Fw := Fw.other W269 (Or.inl ne_b261_b263)
  have V_b263 := tmp269
  refine own_al 135 X269 hx (hb hby at_133) rfl rfl rfl ?_
  refine own_bi 137 6 X269 hx (hb hby at_135) rfl rfl ?_
  refine own_to (T' := T269) (mkF m 139 #[iv p0, iv p1, iv p2, iv p3, .val (.long ct), .second, .val (.long ff), .second, rv ord, iv mo, iv pl, rv b261, iv ax, iv va, rv b263, .unset, .unset, .unset, .unset] [(.long ff), (.int (6 : Int32)), (.ref b263)]) (fun _ k => XS.lload X269.here hx rfl (hb hby at_137) rfl k) ?_
  refine own_to (mkF m 142 #[iv p0, iv p1, iv p2, iv p3, .val (.long ct), .second, .val (.long ff), .second, rv ord, iv mo, iv pl, rv b261, iv ax, iv va, rv b263, .unset, .unset, .unset, .unset] [(.long (6 : Int64)), (.long ff), (.int (6 : Int32)), (.ref b263)]) (X269.ldc2Long hx hown (mvT hZ (own_w hw 49 rfl)) (g := (mkF m 139 #[iv p0, iv p1, iv p2, iv p3, .val (.long ct), .second, .val (.long ff), .second, rv ord, iv mo, iv pl, rv b261, iv ax, iv va, rv b263, .unset, .unset, .unset, .unset] [(.long ff), (.int (6 : Int32)), (.ref b263)])) rfl (hb hby at_139)) ?_
  refine own_to (T' := T269) (mkF m 143 #[iv p0, iv p1, iv p2, iv p3, .val (.long ct), .second, .val (.long ff), .second, rv ord, iv mo, iv pl, rv b261, iv ax, iv va, rv b263, .unset, .unset, .unset, .unset] [(.long (ff + (6 : Int64))), (.int (6 : Int32)), (.ref b263)]) (fun _ k => XS.ladd X269.here hx rfl (hb hby at_142) rfl k) ?_
  obtain ⟨cl270, Ar270, q270, S270, M270, H270, G270⟩ := id V_b263
  obtain ⟨T270, h270, X270, e270, W270, st270⟩ := stJ X269 hx hZ e269 Ar270 (j := (6 : Int32)) (inb_of S270 ⟨by decide, by decide⟩) (g := (mkF m 143 #[iv p0, iv p1, iv p2, iv p3, .val (.long ct), .second, .val (.long ff), .second, rv ord, iv mo, iv pl, rv b261, iv ax, iv va, rv b263, .unset, .unset, .unset, .unset] [(.long (ff + (6 : Int64))), (.int (6 : Int32)), (.ref b263)])) rfl rfl (hb hby at_143)
  refine own_to (mkF m 144 #[iv p0, iv p1, iv p2, iv p3, .val (.long ct), .second, .val (.long ff), .second, rv ord, iv mo, iv pl, rv b261, iv ax, iv va, rv b263, .unset, .unset, .unset, .unset] []) st270 ?_
  have N270 := Fr.snoc X270 N269 ge_b263
  have tmp270 : Arv Z h270 b263 k263 .long (10 : Int32) [(.long ff), (.long (ff + (1 : Int64))), (.long (ff + (2 : Int64))), (.long (ff + (3 : Int64))), (.long (ff + (4 : Int64))), (.long (ff + (5 : Int64))), (.long (ff + (6 : Int64))), (.long (0 : Int64)), (.long (0 : Int64)), (.long (0 : Int64))] (.long (0 : Int64)) := Arv.set Ar270 q270 S270 M270 H270 G270 rfl W270 6 rfl (Nat.le_of_ble_eq_true rfl)
  have OL := OL.wr W270 ge_b263
  have KP := KP.wr W270 (Or.inr sz_b263)
  have EC := EC.wr W270
  have Fk := Fk.other W270 (Or.inl ne_b261_b263)
  have Fw := Fw.other W270 (Or.inl ne_b261_b263)
  have V_b263 := tmp270
  refine own_al 146 X270 hx (hb hby at_144) rfl rfl rfl ?_
  refine own_bi 148 7 X270 hx (hb hby at_146) rfl rfl ?_
  refine own_to (T' := T270) (mkF m 150 #[iv p0, iv p1, iv p2, iv p3, .val (.long ct), .second, .val (.long ff), .second, rv ord, iv mo, iv pl, rv b261, iv ax, iv va, rv b263, .unset, .unset, .unset, .unset] [(.long ff), (.int (7 : Int32)), (.ref b263)]) (fun _ k => XS.lload X270.here hx rfl (hb hby at_148) rfl k) ?_
  refine own_to (mkF m 153 #[iv p0, iv p1, iv p2, iv p3, .val (.long ct), .second, .val (.long ff), .second, rv ord, iv mo, iv pl, rv b261, iv ax, iv va, rv b263, .unset, .unset, .unset, .unset] [(.long (7 : Int64)), (.long ff), (.int (7 : Int32)), (.ref b263)]) (X270.ldc2Long hx hown (mvT hZ (own_w hw 50 rfl)) (g := (mkF m 150 #[iv p0, iv p1, iv p2, iv p3, .val (.long ct), .second, .val (.long ff), .second, rv ord, iv mo, iv pl, rv b261, iv ax, iv va, rv b263, .unset, .unset, .unset, .unset] [(.long ff), (.int (7 : Int32)), (.ref b263)])) rfl (hb hby at_150)) ?_
  refine own_to (T' := T270) (mkF m 154 #[iv p0, iv p1, iv p2, iv p3, .val (.long ct), .second, .val (.long ff), .second, rv ord, iv mo, iv pl, rv b261, iv ax, iv va, rv b263, .unset, .unset, .unset, .unset] [(.long (ff + (7 : Int64))), (.int (7 : Int32)), (.ref b263)]) (fun _ k => XS.ladd X270.here hx rfl (hb hby at_153) rfl k) ?_
  obtain ⟨cl271, Ar271, q271, S271, M271, H271, G271⟩ := id V_b263
  obtain ⟨T271, h271, X271, e271, W271, st271⟩ := stJ X270 hx hZ e270 Ar271 (j := (7 : Int32)) (inb_of S271 ⟨by decide, by decide⟩) (g := (mkF m 154 #[iv p0, iv p1, iv p2, iv p3, .val (.long ct), .second, .val (.long ff), .second, rv ord, iv mo, iv pl, rv b261, iv ax, iv va, rv b263, .unset, .unset, .unset, .unset] [(.long (ff + (7 : Int64))), (.int (7 : Int32)), (.ref b263)])) rfl rfl (hb hby at_154)
  refine own_to (mkF m 155 #[iv p0, iv p1, iv p2, iv p3, .val (.long ct), .second, .val (.long ff), .second, rv ord, iv mo, iv pl, rv b261, iv ax, iv va, rv b263, .unset, .unset, .unset, .unset] []) st271 ?_
  have N271 := Fr.snoc X271 N270 ge_b263
  have tmp271 : Arv Z h271 b263 k263 .long (10 : Int32) [(.long ff), (.long (ff + (1 : Int64))), (.long (ff + (2 : Int64))), (.long (ff + (3 : Int64))), (.long (ff + (4 : Int64))), (.long (ff + (5 : Int64))), (.long (ff + (6 : Int64))), (.long (ff + (7 : Int64))), (.long (0 : Int64)), (.long (0 : Int64))] (.long (0 : Int64)) := Arv.set Ar271 q271 S271 M271 H271 G271 rfl W271 7 rfl (Nat.le_of_ble_eq_true rfl)
  have OL := OL.wr W271 ge_b263
  have KP := KP.wr W271 (Or.inr sz_b263)
  have EC := EC.wr W271
  have Fk := Fk.other W271 (Or.inl ne_b261_b263)
  have Fw := Fw.other W271 (Or.inl ne_b261_b263)
  have V_b263 := tmp271
  refine own_al 157 X271 hx (hb hby at_155) rfl rfl rfl ?_
  refine own_bi 159 8 X271 hx (hb hby at_157) rfl rfl ?_
  refine own_to (T' := T271) (mkF m 161 #[iv p0, iv p1, iv p2, iv p3, .val (.long ct), .second, .val (.long ff), .second, rv ord, iv mo, iv pl, rv b261, iv ax, iv va, rv b263, .unset, .unset, .unset, .unset] [(.long ff), (.int (8 : Int32)), (.ref b263)]) (fun _ k => XS.lload X271.here hx rfl (hb hby at_159) rfl k) ?_
  refine own_to (mkF m 164 #[iv p0, iv p1, iv p2, iv p3, .val (.long ct), .second, .val (.long ff), .second, rv ord, iv mo, iv pl, rv b261, iv ax, iv va, rv b263, .unset, .unset, .unset, .unset] [(.long (8 : Int64)), (.long ff), (.int (8 : Int32)), (.ref b263)]) (X271.ldc2Long hx hown (mvT hZ (own_w hw 51 rfl)) (g := (mkF m 161 #[iv p0, iv p1, iv p2, iv p3, .val (.long ct), .second, .val (.long ff), .second, rv ord, iv mo, iv pl, rv b261, iv ax, iv va, rv b263, .unset, .unset, .unset, .unset] [(.long ff), (.int (8 : Int32)), (.ref b263)])) rfl (hb hby at_161)) ?_
  refine own_to (T' := T271) (mkF m 165 #[iv p0, iv p1, iv p2, iv p3, .val (.long ct), .second, .val (.long ff), .second, rv ord, iv mo, iv pl, rv b261, iv ax, iv va, rv b263, .unset, .unset, .unset, .unset] [(.long (ff + (8 : Int64))), (.int (8 : Int32)), (.ref b263)]) (fun _ k => XS.ladd X271.here hx rfl (hb hby at_164) rfl k) ?_
  obtain ⟨cl272, Ar272, q272, S272, M272, H272, G272⟩ := id V_b263
  obtain ⟨T272, h272, X272, e272, W272, st272⟩ := stJ X271 hx hZ e271 Ar272 (j := (8 : Int32)) (inb_of S272 ⟨by decide, by decide⟩) (g := (mkF m 165 #[iv p0, iv p1, iv p2, iv p3, .val (.long ct), .second, .val (.long ff), .second, rv ord, iv mo, iv pl, rv b261, iv ax, iv va, rv b263, .unset, .unset, .unset, .unset] [(.long (ff + (8 : Int64))), (.int (8 : Int32)), (.ref b263)])) rfl rfl (hb hby at_165)
  refine own_to (mkF m 166 #[iv p0, iv p1, iv p2, iv p3, .val (.long ct), .second, .val (.long ff), .second, rv ord, iv mo, iv pl, rv b261, iv ax, iv va, rv b263, .unset, .unset, .unset, .unset] []) st272 ?_
  have N272 := Fr.snoc X272 N271 ge_b263
  have tmp272 : Arv Z h272 b263 k263 .long (10 : Int32) [(.long ff), (.long (ff + (1 : Int64))), (.long (ff + (2 : Int64))), (.long (ff + (3 : Int64))), (.long (ff + (4 : Int64))), (.long (ff + (5 : Int64))), (.long (ff + (6 : Int64))), (.long (ff + (7 : Int64))), (.long (ff + (8 : Int64))), (.long (0 : Int64))] (.long (0 : Int64)) := Arv.set Ar272 q272 S272 M272 H272 G272 rfl W272 8 rfl (Nat.le_of_ble_eq_true rfl)
  have OL := OL.wr W272 ge_b263
  have KP := KP.wr W272 (Or.inr sz_b263)
  have EC := EC.wr W272
  have Fk := Fk.other W272 (Or.inl ne_b261_b263)
  have Fw := Fw.other W272 (Or.inl ne_b261_b263)
  have V_b263 := tmp272
  refine own_al 168 X272 hx (hb hby at_166) rfl rfl rfl ?_
  refine own_bi 170 9 X272 hx (hb hby at_168) rfl rfl ?_
  refine own_to (T' := T272) (mkF m 172 #[iv p0, iv p1, iv p2, iv p3, .val (.long ct), .second, .val (.long ff), .second, rv ord, iv mo, iv pl, rv b261, iv ax, iv va, rv b263, .unset, .unset, .unset, .unset] [(.long ff), (.int (9 : Int32)), (.ref b263)]) (fun _ k => XS.lload X272.here hx rfl (hb hby at_170) rfl k) ?_
  refine own_to (mkF m 175 #[iv p0, iv p1, iv p2, iv p3, .val (.long ct), .second, .val (.long ff), .second, rv ord, iv mo, iv pl, rv b261, iv ax, iv va, rv b263, .unset, .unset, .unset, .unset] [(.long (9 : Int64)), (.long ff), (.int (9 : Int32)), (.ref b263)]) (X272.ldc2Long hx hown (mvT hZ (own_w hw 52 rfl)) (g := (mkF m 172 #[iv p0, iv p1, iv p2, iv p3, .val (.long ct), .second, .val (.long ff), .second, rv ord, iv mo, iv pl, rv b261, iv ax, iv va, rv b263, .unset, .unset, .unset, .unset] [(.long ff), (.int (9 : Int32)), (.ref b263)])) rfl (hb hby at_172)) ?_
  refine own_to (T' := T272) (mkF m 176 #[iv p0, iv p1, iv p2, iv p3, .val (.long ct), .second, .val (.long ff), .second, rv ord, iv mo, iv pl, rv b261, iv ax, iv va, rv b263, .unset, .unset, .unset, .unset] [(.long (ff + (9 : Int64))), (.int (9 : Int32)), (.ref b263)]) (fun _ k => XS.ladd X272.here hx rfl (hb hby at_175) rfl k) ?_
  obtain ⟨cl273, Ar273, q273, S273, M273, H273, G273⟩ := id V_b263
  obtain ⟨T273, h273, X273, e273, W273, st273⟩ := stJ X272 hx hZ e272 Ar273 (j := (9 : Int32)) (inb_of S273 ⟨by decide, by decide⟩) (g := (mkF m 176 #[iv p0, iv p1, iv p2, iv p3, .val (.long ct), .second, .val (.long ff), .second, rv ord, iv mo, iv pl, rv b261, iv ax, iv va, rv b263, .unset, .unset, .unset, .unset] [(.long (ff + (9 : Int64))), (.int (9 : Int32)), (.ref b263)])) rfl rfl (hb hby at_176)
  refine own_to (mkF m 177 #[iv p0, iv p1, iv p2, iv p3, .val (.long ct), .second, .val (.long ff), .second, rv ord, iv mo, iv pl, rv b261, iv ax, iv va, rv b263, .unset, .unset, .unset, .unset] []) st273 ?_
  have N273 := Fr.snoc X273 N272 ge_b263
  have tmp273 : Arv Z h273 b263 k263 .long (10 : Int32) [(.long ff), (.long (ff + (1 : Int64))), (.long (ff + (2 : Int64))), (.long (ff + (3 : Int64))), (.long (ff + (4 : Int64))), (.long (ff + (5 : Int64))), (.long (ff + (6 : Int64))), (.long (ff + (7 : Int64))), (.long (ff + (8 : Int64))), (.long (ff + (9 : Int64)))] (.long (0 : Int64)) := Arv.set Ar273 q273 S273 M273 H273 G273 rfl W273 9 rfl (Nat.le_of_ble_eq_true rfl)
  have OL := OL.wr W273 ge_b263
  have KP := KP.wr W273 (Or.inr sz_b263)
  have EC := EC.wr W273
  have Fk := Fk.other W273 (Or.inl ne_b261_b263)
  have Fw := Fw.other W273 (Or.inl ne_b261_b263)
  have V_b263 := tmp273
  refine own_al 179 X273 hx (hb hby at_177) rfl rfl rfl ?_
  clear X262 N262 X263 e263 E263 A263 B263 st263 g263 Ar264 q264 S264 M264 H264 G264 X264 e264 W264 st264 N264 tmp264 Ar265 q265 S265 M265 H265 G265 X265 e265 W265 st265 N265 tmp265 Ar266 q266 S266 M266 H266 G266 X266 e266 W266 st266 N266 tmp266 Ar267 q267 S267 M267 H267 G267 X267 e267 W267 st267 N267 tmp267 Ar268 q268 S268 M268 H268 G268 X268 e268 W268 st268 N268 tmp268 Ar269 q269 S269 M269 H269 G269 X269 e269 W269 st269 N269 tmp269 Ar270 q270 S270 M270 H270 G270 X270 e270 W270 st270 N270 tmp270 Ar271 q271 S271 M271 H271 G271 X271 e271 W271 st271 N271 tmp271 Ar272 q272 S272 M272 H272 G272 X272 e272 W272 st272 N272 tmp272 Ar273 q273 S273 M273 H273 G273 W273 st273 tmp273
  obtain ⟨cq274, kq274, q274a, q274b, q274c⟩ := isOf hZ e273 EC
  obtain ⟨_, T274, Lc274, X274, hQ274, st274⟩ := own_virtual X273 hx (y := (⟨"com/example/gramstead/gramstead/estimation/RecordLayout", "keyLongs", "()I"⟩ : MethodName)) (z := (⟨"com/example/gramstead/gramstead/estimation/RecordLayout", "keyLongs", "()I"⟩ : MethodName)) hown (mvT hZ (own_w hw 53 rfl)) (mvT hZ (own_w hw 54 rfl)) (notFace_of_selects (args := #[]) (mvT hZ (own_w hw 56 rfl))) (mvT hZ (own_w hw 56 rfl)) (mvT hZ (own_w hw 55 rfl)) (by decide) (backOf (W := 0) (own_rmK l Z a0 hw [] b261 kl h273 n0 (Nat.le_trans Z0 KP.1) OL Fk) hZ (own_w hw 57 rfl) (own_w hw 5 rfl) (by decide) (by decide)) q274a q274c (g := (mkF m 179 #[iv p0, iv p1, iv p2, iv p3, .val (.long ct), .second, .val (.long ff), .second, rv ord, iv mo, iv pl, rv b261, iv ax, iv va, rv b263, .unset, .unset, .unset, .unset] [(.ref b261)])) rfl (by rw [hml]; rfl) (argsL := []) (rest := []) (lenOf own_pd3 rfl) rfl (by show 2 * 0 + _ ≤ _; exact Nat.le_of_eq rfl) (hb hby at_179) rfl e273 (kc := 4) (ks := 26) rfl rfl (by decide) (by decide)
  obtain ⟨rfl, N274q, e274⟩ := hQ274
  have N274 := Fr.app N273 N274q
  refine own_via (mkF m 182 #[iv p0, iv p1, iv p2, iv p3, .val (.long ct), .second, .val (.long ff), .second, rv ord, iv mo, iv pl, rv b261, iv ax, iv va, rv b263, .unset, .unset, .unset, .unset] [(.int kl)]) st274 ?_
  refine own_is 184 #[iv p0, iv p1, iv p2, iv p3, .val (.long ct), .second, .val (.long ff), .second, rv ord, iv mo, iv pl, rv b261, iv ax, iv va, rv b263, iv kl, .unset, .unset, .unset] X274 hx (hb hby at_182) rfl rfl ?_
  refine own_al 186 X274 hx (hb hby at_184) rfl rfl rfl ?_
  obtain ⟨cq275, kq275, q275a, q275b, q275c⟩ := isOf hZ e274 EC
  obtain ⟨_, T275, Lc275, X275, hQ275, st275⟩ := own_virtual X274 hx (y := (⟨"com/example/gramstead/gramstead/estimation/RecordLayout", "width", "()I"⟩ : MethodName)) (z := (⟨"com/example/gramstead/gramstead/estimation/RecordLayout", "width", "()I"⟩ : MethodName)) hown (mvT hZ (own_w hw 58 rfl)) (mvT hZ (own_w hw 59 rfl)) (notFace_of_selects (args := #[]) (mvT hZ (own_w hw 61 rfl))) (mvT hZ (own_w hw 61 rfl)) (mvT hZ (own_w hw 60 rfl)) (by decide) (backOf (W := 0) (own_rmW l Z a0 hw [] b261 (kl + pl) h273 n0 (Nat.le_trans Z0 KP.1) OL Fw) hZ (own_w hw 62 rfl) (own_w hw 5 rfl) (by decide) (by decide)) q275a q275c (g := (mkF m 186 #[iv p0, iv p1, iv p2, iv p3, .val (.long ct), .second, .val (.long ff), .second, rv ord, iv mo, iv pl, rv b261, iv ax, iv va, rv b263, iv kl, .unset, .unset, .unset] [(.ref b261)])) rfl (by rw [hml]; rfl) (argsL := []) (rest := []) (lenOf own_pd3 rfl) rfl (by show 2 * 0 + _ ≤ _; exact Nat.le_of_eq rfl) (hb hby at_186) rfl e274 (kc := 4) (ks := 26) rfl rfl (by decide) (by decide)
  obtain ⟨rfl, N275q, e275⟩ := hQ275
  have N275 := Fr.app N274 N275q
  refine own_via (mkF m 189 #[iv p0, iv p1, iv p2, iv p3, .val (.long ct), .second, .val (.long ff), .second, rv ord, iv mo, iv pl, rv b261, iv ax, iv va, rv b263, iv kl, .unset, .unset, .unset] [(.int (kl + pl))]) st275 ?_
  refine own_is 191 #[iv p0, iv p1, iv p2, iv p3, .val (.long ct), .second, .val (.long ff), .second, rv ord, iv mo, iv pl, rv b261, iv ax, iv va, rv b263, iv kl, iv (kl + pl), .unset, .unset] X275 hx (hb hby at_189) rfl rfl ?_
  refine own_il 193 X275 hx (hb hby at_191) rfl rfl ?_
  refine own_ic 194 1 X275 hx (hb hby at_193) rfl rfl ?_
  refine own_icN 197 X275 hx (hb hby at_194) (flt (own_ge1 hk1_)).1 rfl ?_
  refine own_il 199 X275 hx (hb hby at_197) rfl rfl ?_
  refine own_ic 200 4 X275 hx (hb hby at_199) rfl rfl ?_
  refine own_icN 203 X275 hx (hb hby at_200) (flt (own_le4 hk2_)).2.2.1 rfl ?_
  refine own_il 205 X275 hx (hb hby at_203) rfl rfl ?_
  refine own_il 207 X275 hx (hb hby at_205) rfl rfl ?_
  refine own_il 209 X275 hx (hb hby at_207) rfl rfl ?_
  refine own_iadd 210 X275 hx (hb hby at_209) rfl rfl ?_
  refine own_icY 215 X275 hx (hb hby at_210) (teq (rfl : (kl + pl) = (kl + pl))).1 (by decide) (by decide) ?_
  refine own_il 217 X275 hx (hb hby at_215) rfl rfl ?_
  refine own_il 219 X275 hx (hb hby at_217) rfl rfl ?_
  refine own_iadd 220 X275 hx (hb hby at_219) rfl rfl ?_
  refine own_il 222 X275 hx (hb hby at_220) rfl rfl ?_
  refine own_iadd 223 X275 hx (hb hby at_222) rfl rfl ?_
  generalize htg : ((ax + kl) + va) = tg
  refine own_is 225 #[iv p0, iv p1, iv p2, iv p3, .val (.long ct), .second, .val (.long ff), .second, rv ord, iv mo, iv pl, rv b261, iv ax, iv va, rv b263, iv kl, iv (kl + pl), iv tg, .unset] X275 hx (hb hby at_223) rfl rfl ?_
  refine own_il 227 X275 hx (hb hby at_225) rfl rfl ?_
  refine own_il 229 X275 hx (hb hby at_227) rfl rfl ?_
  refine own_il 231 X275 hx (hb hby at_229) rfl rfl ?_
  refine own_iadd 232 X275 hx (hb hby at_231) rfl rfl ?_
  refine own_icY 237 X275 hx (hb hby at_232) (tlt (own_tgw hk1_ hk2_ hax3 hpl3 hva2 htg)).1 (by decide) (by decide) ?_
  have h10 := own_tg10 hk1_ hk2_ hax3 hpl3 hva2 htg
  refine own_al 239 X275 hx (hb hby at_237) rfl rfl rfl ?_
  refine own_al 241 X275 hx (hb hby at_239) rfl rfl rfl ?_
  refine own_il 243 X275 hx (hb hby at_241) rfl rfl ?_
  refine own_il 245 X275 hx (hb hby at_243) rfl rfl ?_
  refine own_to (T' := T275) (mkF m 247 #[iv p0, iv p1, iv p2, iv p3, .val (.long ct), .second, .val (.long ff), .second, rv ord, iv mo, iv pl, rv b261, iv ax, iv va, rv b263, iv kl, iv (kl + pl), iv tg, .unset] [(.long ct), (.int va), (.int ax), (.ref b263), (.ref b261)]) (fun _ k => XS.lload X275.here hx rfl (hb hby at_245) rfl k) ?_
  obtain ⟨cq276, kq276, q276a, q276b, q276c⟩ := isOf hZ e275 EC
  obtain ⟨_, T276, Lc276, X276, hQ276, st276⟩ := own_virtual X275 hx (y := (⟨"com/example/gramstead/gramstead/estimation/RecordLayout", "putLong", "([JIIJ)V"⟩ : MethodName)) (z := (⟨"com/example/gramstead/gramstead/estimation/RecordLayout", "putLong", "([JIIJ)V"⟩ : MethodName)) hown (mvT hZ (own_w hw 63 rfl)) (mvT hZ (own_w hw 64 rfl)) (notFace_of_selects (args := #[]) (mvT hZ (own_w hw 66 rfl))) (mvT hZ (own_w hw 66 rfl)) (mvT hZ (own_w hw 65 rfl)) (by decide) (backOf (W := 0) (own_rmP l Z a0 hw [] b261 b263 k263 ax va kl tg ct ff h273 n0 (Nat.le_trans Z0 KP.1) OL Fk V_b263 ne_b261_b263 ge_b263 htg h10) hZ (own_w hw 67 rfl) (own_w hw 5 rfl) (by decide) (by decide)) q276a q276c (g := (mkF m 247 #[iv p0, iv p1, iv p2, iv p3, .val (.long ct), .second, .val (.long ff), .second, rv ord, iv mo, iv pl, rv b261, iv ax, iv va, rv b263, iv kl, iv (kl + pl), iv tg, .unset] [(.long ct), (.int va), (.int ax), (.ref b263), (.ref b261)])) rfl (by rw [hml]; rfl) (argsL := [(.ref b263), (.int ax), (.int va), (.long ct)]) (rest := []) (lenOf own_pd4 rfl) rfl (by show 2 * 0 + _ ≤ _; exact Nat.le_of_eq rfl) (hb hby at_247) rfl e275 (kc := 4) (ks := 26) rfl rfl (by decide) (by decide)
  obtain ⟨rfl, N276q, K276, Vb276⟩ := hQ276
  have N276 := Fr.app N275 N276q
  have OL := OL.keep K276 (allS ge_b263 all0)
  have KP := KP.trans K276 (allS (Or.inr sz_b263) all0)
  have EC := EC.keep K276
  have Fk := Fk.keep K276 (ninS ne_b261_b263 nin0)
  have Fw := Fw.keep K276 (ninS ne_b261_b263 nin0)
  refine own_via (mkF m 250 #[iv p0, iv p1, iv p2, iv p3, .val (.long ct), .second, .val (.long ff), .second, rv ord, iv mo, iv pl, rv b261, iv ax, iv va, rv b263, iv kl, iv (kl + pl), iv tg, .unset] []) st276 ?_
  have VB : Arv Z T276.heap b263 k263 .long (10 : Int32) [(.long (if tg = (0 : Int32) then ct else ff)), (.long (if tg = (1 : Int32) then ct else (ff + (1 : Int64)))), (.long (if tg = (2 : Int32) then ct else (ff + (2 : Int64)))), (.long (if tg = (3 : Int32) then ct else (ff + (3 : Int64)))), (.long (if tg = (4 : Int32) then ct else (ff + (4 : Int64)))), (.long (if tg = (5 : Int32) then ct else (ff + (5 : Int64)))), (.long (if tg = (6 : Int32) then ct else (ff + (6 : Int64)))), (.long (if tg = (7 : Int32) then ct else (ff + (7 : Int64)))), (.long (if tg = (8 : Int32) then ct else (ff + (8 : Int64)))), (.long (if tg = (9 : Int32) then ct else (ff + (9 : Int64))))] (.long (0 : Int64)) := Vb276
  refine own_al 252 X276 hx (hb hby at_250) rfl rfl rfl ?_
  refine own_al 254 X276 hx (hb hby at_252) rfl rfl rfl ?_
  refine own_il 256 X276 hx (hb hby at_254) rfl rfl ?_
  refine own_il 258 X276 hx (hb hby at_256) rfl rfl ?_
  obtain ⟨cq277, kq277, q277a, q277b, q277c⟩ := isOf hZ rfl EC
  obtain ⟨_, T277, Lc277, X277, hQ277, st277⟩ := own_virtual X276 hx (y := (⟨"com/example/gramstead/gramstead/estimation/RecordLayout", "getLong", "([JII)J"⟩ : MethodName)) (z := (⟨"com/example/gramstead/gramstead/estimation/RecordLayout", "getLong", "([JII)J"⟩ : MethodName)) hown (mvT hZ (own_w hw 68 rfl)) (mvT hZ (own_w hw 69 rfl)) (notFace_of_selects (args := #[]) (mvT hZ (own_w hw 71 rfl))) (mvT hZ (own_w hw 71 rfl)) (mvT hZ (own_w hw 70 rfl)) (by decide) (backOf (W := 0) (own_rmG l Z a0 hw [] b261 b263 k263 ax va kl tg ct ff T276.heap n0 (Nat.le_trans Z0 KP.1) OL Fk VB htg h10) hZ (own_w hw 72 rfl) (own_w hw 5 rfl) (by decide) (by decide)) q277a q277c (g := (mkF m 258 #[iv p0, iv p1, iv p2, iv p3, .val (.long ct), .second, .val (.long ff), .second, rv ord, iv mo, iv pl, rv b261, iv ax, iv va, rv b263, iv kl, iv (kl + pl), iv tg, .unset] [(.int va), (.int ax), (.ref b263), (.ref b261)])) rfl (by rw [hml]; rfl) (argsL := [(.ref b263), (.int ax), (.int va)]) (rest := []) (lenOf own_pd5 rfl) rfl (by show 2 * 0 + _ ≤ _; exact Nat.le_of_eq rfl) (hb hby at_258) rfl rfl (kc := 4) (ks := 26) rfl rfl (by decide) (by decide)
  obtain ⟨rfl, N277q, e277⟩ := hQ277
  have N277 := Fr.app N276 N277q
  refine own_via (mkF m 261 #[iv p0, iv p1, iv p2, iv p3, .val (.long ct), .second, .val (.long ff), .second, rv ord, iv mo, iv pl, rv b261, iv ax, iv va, rv b263, iv kl, iv (kl + pl), iv tg, .unset] [(.long ct)]) st277 ?_
  refine own_to (T' := T277) (mkF m 263 #[iv p0, iv p1, iv p2, iv p3, .val (.long ct), .second, .val (.long ff), .second, rv ord, iv mo, iv pl, rv b261, iv ax, iv va, rv b263, iv kl, iv (kl + pl), iv tg, .unset] [(.long ct), (.long ct)]) (fun _ k => XS.lload X277.here hx rfl (hb hby at_261) rfl k) ?_
  refine own_to (T' := T277) (mkF m 264 #[iv p0, iv p1, iv p2, iv p3, .val (.long ct), .second, .val (.long ff), .second, rv ord, iv mo, iv pl, rv b261, iv ax, iv va, rv b263, iv kl, iv (kl + pl), iv tg, .unset] [(.int (lcmpW ct ct))]) (fun _ k => XS.lcmp X277.here hx rfl (hb hby at_263) rfl k) ?_
  refine own_ifN 267 X277 hx (hb hby at_264) ((if0 _ _).trans (teq ((lw_eq _ _).mpr rfl)).2) rfl ?_
  refine own_ic 268 1 X277 hx (hb hby at_267) rfl rfl ?_
  refine own_go 272 X277 hx (hb hby at_268) (by decide) (by decide) ?_
  refine own_is 274 #[iv p0, iv p1, iv p2, iv p3, .val (.long ct), .second, .val (.long ff), .second, rv ord, iv mo, iv pl, rv b261, iv ax, iv va, rv b263, iv kl, iv (kl + pl), iv tg, iv 1] X277 hx (hb hby at_272) rfl rfl ?_
  refine own_il 276 X277 hx (hb hby at_274) rfl rfl ?_
  refine own_al 278 X277 hx (hb hby at_276) rfl rfl rfl ?_
  refine own_ic 279 0 X277 hx (hb hby at_278) rfl rfl ?_
  refine own_il 281 X277 hx (hb hby at_279) rfl rfl ?_
  refine own_to (T' := T277) (mkF m 283 #[iv p0, iv p1, iv p2, iv p3, .val (.long ct), .second, .val (.long ff), .second, rv ord, iv mo, iv pl, rv b261, iv ax, iv va, rv b263, iv kl, iv (kl + pl), iv tg, iv 1] [(.long ct), (.int tg), (.int (0 : Int32)), (.ref b263), (.int (1 : Int32))]) (fun _ k => XS.lload X277.here hx rfl (hb hby at_281) rfl k) ?_
  refine own_to (T' := T277) (mkF m 285 #[iv p0, iv p1, iv p2, iv p3, .val (.long ct), .second, .val (.long ff), .second, rv ord, iv mo, iv pl, rv b261, iv ax, iv va, rv b263, iv kl, iv (kl + pl), iv tg, iv 1] [(.long ff), (.long ct), (.int tg), (.int (0 : Int32)), (.ref b263), (.int (1 : Int32))]) (fun _ k => XS.lload X277.here hx rfl (hb hby at_283) rfl k) ?_
  clear X273 e273 N273 X274 st274 N274q e274 N274 X275 st275 N275q e275 N275 X276 st276 N276q K276 N276 st277 N277q
  obtain ⟨_, T278, Lc278, X278, hQ278, st278⟩ := own_callS X277 hx (y := (⟨"com/example/gramstead/gramstead/estimation/RecordLayoutPutLongPinLaw", "cell", "([JIIJJ)Z"⟩ : MethodName)) hown (mvT hZ (own_w hw 73 rfl)) (mvT hZ (own_w hw 74 rfl)) (mvT hZ (own_w hw 75 rfl)) (mvT hZ (own_w hw 76 rfl)) (by decide) (backOf (W := 1) (own_rmE0 l Z a0 hw [] b263 k263 tg ct ff T276.heap n0 (Nat.le_trans Z0 KP.1) OL VB) hZ (own_w hw 76 rfl) (own_w hw 75 rfl) (by decide) (by decide)) (g := (mkF m 285 #[iv p0, iv p1, iv p2, iv p3, .val (.long ct), .second, .val (.long ff), .second, rv ord, iv mo, iv pl, rv b261, iv ax, iv va, rv b263, iv kl, iv (kl + pl), iv tg, iv 1] [(.long ff), (.long ct), (.int tg), (.int (0 : Int32)), (.ref b263), (.int (1 : Int32))])) rfl (by rw [hml]; rfl) (argsL := [(.ref b263), (.int (0 : Int32)), (.int tg), (.long ct), (.long ff)]) (rest := [(.int (1 : Int32))]) (lenOf own_pd6 rfl) rfl (by show 2 * 0 + _ ≤ _; exact Nat.le_of_eq rfl) (hb hby at_285) rfl e277 (kc := 4) (ks := 26) rfl rfl (by decide) (by decide)
  obtain ⟨rfl, N278q, e278⟩ := hQ278
  have N278 := Fr.app N277 N278q
  refine own_to (mkF m 288 #[iv p0, iv p1, iv p2, iv p3, .val (.long ct), .second, .val (.long ff), .second, rv ord, iv mo, iv pl, rv b261, iv ax, iv va, rv b263, iv kl, iv (kl + pl), iv tg, iv 1] [(.int (1 : Int32)), (.int (1 : Int32))]) st278 ?_
  refine own_iand 289 X278 hx (hb hby at_288) (z := (1 : Int32)) rfl rfl ?_
  refine own_is 291 #[iv p0, iv p1, iv p2, iv p3, .val (.long ct), .second, .val (.long ff), .second, rv ord, iv mo, iv pl, rv b261, iv ax, iv va, rv b263, iv kl, iv (kl + pl), iv tg, iv 1] X278 hx (hb hby at_289) rfl rfl ?_
  refine own_il 293 X278 hx (hb hby at_291) rfl rfl ?_
  refine own_al 295 X278 hx (hb hby at_293) rfl rfl rfl ?_
  refine own_ic 296 1 X278 hx (hb hby at_295) rfl rfl ?_
  refine own_il 298 X278 hx (hb hby at_296) rfl rfl ?_
  refine own_to (T' := T278) (mkF m 300 #[iv p0, iv p1, iv p2, iv p3, .val (.long ct), .second, .val (.long ff), .second, rv ord, iv mo, iv pl, rv b261, iv ax, iv va, rv b263, iv kl, iv (kl + pl), iv tg, iv 1] [(.long ct), (.int tg), (.int (1 : Int32)), (.ref b263), (.int (1 : Int32))]) (fun _ k => XS.lload X278.here hx rfl (hb hby at_298) rfl k) ?_
  refine own_to (T' := T278) (mkF m 302 #[iv p0, iv p1, iv p2, iv p3, .val (.long ct), .second, .val (.long ff), .second, rv ord, iv mo, iv pl, rv b261, iv ax, iv va, rv b263, iv kl, iv (kl + pl), iv tg, iv 1] [(.long ff), (.long ct), (.int tg), (.int (1 : Int32)), (.ref b263), (.int (1 : Int32))]) (fun _ k => XS.lload X278.here hx rfl (hb hby at_300) rfl k) ?_
  clear X277 e277 N277 st278 N278q
  obtain ⟨_, T279, Lc279, X279, hQ279, st279⟩ := own_callS X278 hx (y := (⟨"com/example/gramstead/gramstead/estimation/RecordLayoutPutLongPinLaw", "cell", "([JIIJJ)Z"⟩ : MethodName)) hown (mvT hZ (own_w hw 73 rfl)) (mvT hZ (own_w hw 74 rfl)) (mvT hZ (own_w hw 75 rfl)) (mvT hZ (own_w hw 76 rfl)) (by decide) (backOf (W := 1) (own_rmE1 l Z a0 hw [] b263 k263 tg ct ff T276.heap n0 (Nat.le_trans Z0 KP.1) OL VB) hZ (own_w hw 76 rfl) (own_w hw 75 rfl) (by decide) (by decide)) (g := (mkF m 302 #[iv p0, iv p1, iv p2, iv p3, .val (.long ct), .second, .val (.long ff), .second, rv ord, iv mo, iv pl, rv b261, iv ax, iv va, rv b263, iv kl, iv (kl + pl), iv tg, iv 1] [(.long ff), (.long ct), (.int tg), (.int (1 : Int32)), (.ref b263), (.int (1 : Int32))])) rfl (by rw [hml]; rfl) (argsL := [(.ref b263), (.int (1 : Int32)), (.int tg), (.long ct), (.long ff)]) (rest := [(.int (1 : Int32))]) (lenOf own_pd6 rfl) rfl (by show 2 * 0 + _ ≤ _; exact Nat.le_of_eq rfl) (hb hby at_302) rfl e278 (kc := 4) (ks := 26) rfl rfl (by decide) (by decide)
  obtain ⟨rfl, N279q, e279⟩ := hQ279
  have N279 := Fr.app N278 N279q
  refine own_to (mkF m 305 #[iv p0, iv p1, iv p2, iv p3, .val (.long ct), .second, .val (.long ff), .second, rv ord, iv mo, iv pl, rv b261, iv ax, iv va, rv b263, iv kl, iv (kl + pl), iv tg, iv 1] [(.int (1 : Int32)), (.int (1 : Int32))]) st279 ?_
  refine own_iand 306 X279 hx (hb hby at_305) (z := (1 : Int32)) rfl rfl ?_
  refine own_is 308 #[iv p0, iv p1, iv p2, iv p3, .val (.long ct), .second, .val (.long ff), .second, rv ord, iv mo, iv pl, rv b261, iv ax, iv va, rv b263, iv kl, iv (kl + pl), iv tg, iv 1] X279 hx (hb hby at_306) rfl rfl ?_
  refine own_il 310 X279 hx (hb hby at_308) rfl rfl ?_
  refine own_al 312 X279 hx (hb hby at_310) rfl rfl rfl ?_
  refine own_ic 313 2 X279 hx (hb hby at_312) rfl rfl ?_
  refine own_il 315 X279 hx (hb hby at_313) rfl rfl ?_
  refine own_to (T' := T279) (mkF m 317 #[iv p0, iv p1, iv p2, iv p3, .val (.long ct), .second, .val (.long ff), .second, rv ord, iv mo, iv pl, rv b261, iv ax, iv va, rv b263, iv kl, iv (kl + pl), iv tg, iv 1] [(.long ct), (.int tg), (.int (2 : Int32)), (.ref b263), (.int (1 : Int32))]) (fun _ k => XS.lload X279.here hx rfl (hb hby at_315) rfl k) ?_
  refine own_to (T' := T279) (mkF m 319 #[iv p0, iv p1, iv p2, iv p3, .val (.long ct), .second, .val (.long ff), .second, rv ord, iv mo, iv pl, rv b261, iv ax, iv va, rv b263, iv kl, iv (kl + pl), iv tg, iv 1] [(.long ff), (.long ct), (.int tg), (.int (2 : Int32)), (.ref b263), (.int (1 : Int32))]) (fun _ k => XS.lload X279.here hx rfl (hb hby at_317) rfl k) ?_
  clear X278 e278 N278 st279 N279q
  obtain ⟨_, T280, Lc280, X280, hQ280, st280⟩ := own_callS X279 hx (y := (⟨"com/example/gramstead/gramstead/estimation/RecordLayoutPutLongPinLaw", "cell", "([JIIJJ)Z"⟩ : MethodName)) hown (mvT hZ (own_w hw 73 rfl)) (mvT hZ (own_w hw 74 rfl)) (mvT hZ (own_w hw 75 rfl)) (mvT hZ (own_w hw 76 rfl)) (by decide) (backOf (W := 1) (own_rmE2 l Z a0 hw [] b263 k263 tg ct ff T276.heap n0 (Nat.le_trans Z0 KP.1) OL VB) hZ (own_w hw 76 rfl) (own_w hw 75 rfl) (by decide) (by decide)) (g := (mkF m 319 #[iv p0, iv p1, iv p2, iv p3, .val (.long ct), .second, .val (.long ff), .second, rv ord, iv mo, iv pl, rv b261, iv ax, iv va, rv b263, iv kl, iv (kl + pl), iv tg, iv 1] [(.long ff), (.long ct), (.int tg), (.int (2 : Int32)), (.ref b263), (.int (1 : Int32))])) rfl (by rw [hml]; rfl) (argsL := [(.ref b263), (.int (2 : Int32)), (.int tg), (.long ct), (.long ff)]) (rest := [(.int (1 : Int32))]) (lenOf own_pd6 rfl) rfl (by show 2 * 0 + _ ≤ _; exact Nat.le_of_eq rfl) (hb hby at_319) rfl e279 (kc := 4) (ks := 26) rfl rfl (by decide) (by decide)
  obtain ⟨rfl, N280q, e280⟩ := hQ280
  have N280 := Fr.app N279 N280q
  refine own_to (mkF m 322 #[iv p0, iv p1, iv p2, iv p3, .val (.long ct), .second, .val (.long ff), .second, rv ord, iv mo, iv pl, rv b261, iv ax, iv va, rv b263, iv kl, iv (kl + pl), iv tg, iv 1] [(.int (1 : Int32)), (.int (1 : Int32))]) st280 ?_
  refine own_iand 323 X280 hx (hb hby at_322) (z := (1 : Int32)) rfl rfl ?_
  refine own_is 325 #[iv p0, iv p1, iv p2, iv p3, .val (.long ct), .second, .val (.long ff), .second, rv ord, iv mo, iv pl, rv b261, iv ax, iv va, rv b263, iv kl, iv (kl + pl), iv tg, iv 1] X280 hx (hb hby at_323) rfl rfl ?_
  refine own_il 327 X280 hx (hb hby at_325) rfl rfl ?_
  refine own_al 329 X280 hx (hb hby at_327) rfl rfl rfl ?_
  refine own_ic 330 3 X280 hx (hb hby at_329) rfl rfl ?_
  refine own_il 332 X280 hx (hb hby at_330) rfl rfl ?_
  refine own_to (T' := T280) (mkF m 334 #[iv p0, iv p1, iv p2, iv p3, .val (.long ct), .second, .val (.long ff), .second, rv ord, iv mo, iv pl, rv b261, iv ax, iv va, rv b263, iv kl, iv (kl + pl), iv tg, iv 1] [(.long ct), (.int tg), (.int (3 : Int32)), (.ref b263), (.int (1 : Int32))]) (fun _ k => XS.lload X280.here hx rfl (hb hby at_332) rfl k) ?_
  refine own_to (T' := T280) (mkF m 336 #[iv p0, iv p1, iv p2, iv p3, .val (.long ct), .second, .val (.long ff), .second, rv ord, iv mo, iv pl, rv b261, iv ax, iv va, rv b263, iv kl, iv (kl + pl), iv tg, iv 1] [(.long ff), (.long ct), (.int tg), (.int (3 : Int32)), (.ref b263), (.int (1 : Int32))]) (fun _ k => XS.lload X280.here hx rfl (hb hby at_334) rfl k) ?_
  clear X279 e279 N279 st280 N280q
  obtain ⟨_, T281, Lc281, X281, hQ281, st281⟩ := own_callS X280 hx (y := (⟨"com/example/gramstead/gramstead/estimation/RecordLayoutPutLongPinLaw", "cell", "([JIIJJ)Z"⟩ : MethodName)) hown (mvT hZ (own_w hw 73 rfl)) (mvT hZ (own_w hw 74 rfl)) (mvT hZ (own_w hw 75 rfl)) (mvT hZ (own_w hw 76 rfl)) (by decide) (backOf (W := 1) (own_rmE3 l Z a0 hw [] b263 k263 tg ct ff T276.heap n0 (Nat.le_trans Z0 KP.1) OL VB) hZ (own_w hw 76 rfl) (own_w hw 75 rfl) (by decide) (by decide)) (g := (mkF m 336 #[iv p0, iv p1, iv p2, iv p3, .val (.long ct), .second, .val (.long ff), .second, rv ord, iv mo, iv pl, rv b261, iv ax, iv va, rv b263, iv kl, iv (kl + pl), iv tg, iv 1] [(.long ff), (.long ct), (.int tg), (.int (3 : Int32)), (.ref b263), (.int (1 : Int32))])) rfl (by rw [hml]; rfl) (argsL := [(.ref b263), (.int (3 : Int32)), (.int tg), (.long ct), (.long ff)]) (rest := [(.int (1 : Int32))]) (lenOf own_pd6 rfl) rfl (by show 2 * 0 + _ ≤ _; exact Nat.le_of_eq rfl) (hb hby at_336) rfl e280 (kc := 4) (ks := 26) rfl rfl (by decide) (by decide)
  obtain ⟨rfl, N281q, e281⟩ := hQ281
  have N281 := Fr.app N280 N281q
  refine own_to (mkF m 339 #[iv p0, iv p1, iv p2, iv p3, .val (.long ct), .second, .val (.long ff), .second, rv ord, iv mo, iv pl, rv b261, iv ax, iv va, rv b263, iv kl, iv (kl + pl), iv tg, iv 1] [(.int (1 : Int32)), (.int (1 : Int32))]) st281 ?_
  refine own_iand 340 X281 hx (hb hby at_339) (z := (1 : Int32)) rfl rfl ?_
  refine own_is 342 #[iv p0, iv p1, iv p2, iv p3, .val (.long ct), .second, .val (.long ff), .second, rv ord, iv mo, iv pl, rv b261, iv ax, iv va, rv b263, iv kl, iv (kl + pl), iv tg, iv 1] X281 hx (hb hby at_340) rfl rfl ?_
  refine own_il 344 X281 hx (hb hby at_342) rfl rfl ?_
  refine own_al 346 X281 hx (hb hby at_344) rfl rfl rfl ?_
  refine own_ic 347 4 X281 hx (hb hby at_346) rfl rfl ?_
  refine own_il 349 X281 hx (hb hby at_347) rfl rfl ?_
  refine own_to (T' := T281) (mkF m 351 #[iv p0, iv p1, iv p2, iv p3, .val (.long ct), .second, .val (.long ff), .second, rv ord, iv mo, iv pl, rv b261, iv ax, iv va, rv b263, iv kl, iv (kl + pl), iv tg, iv 1] [(.long ct), (.int tg), (.int (4 : Int32)), (.ref b263), (.int (1 : Int32))]) (fun _ k => XS.lload X281.here hx rfl (hb hby at_349) rfl k) ?_
  refine own_to (T' := T281) (mkF m 353 #[iv p0, iv p1, iv p2, iv p3, .val (.long ct), .second, .val (.long ff), .second, rv ord, iv mo, iv pl, rv b261, iv ax, iv va, rv b263, iv kl, iv (kl + pl), iv tg, iv 1] [(.long ff), (.long ct), (.int tg), (.int (4 : Int32)), (.ref b263), (.int (1 : Int32))]) (fun _ k => XS.lload X281.here hx rfl (hb hby at_351) rfl k) ?_
  clear X280 e280 N280 st281 N281q
  obtain ⟨_, T282, Lc282, X282, hQ282, st282⟩ := own_callS X281 hx (y := (⟨"com/example/gramstead/gramstead/estimation/RecordLayoutPutLongPinLaw", "cell", "([JIIJJ)Z"⟩ : MethodName)) hown (mvT hZ (own_w hw 73 rfl)) (mvT hZ (own_w hw 74 rfl)) (mvT hZ (own_w hw 75 rfl)) (mvT hZ (own_w hw 76 rfl)) (by decide) (backOf (W := 1) (own_rmE4 l Z a0 hw [] b263 k263 tg ct ff T276.heap n0 (Nat.le_trans Z0 KP.1) OL VB) hZ (own_w hw 76 rfl) (own_w hw 75 rfl) (by decide) (by decide)) (g := (mkF m 353 #[iv p0, iv p1, iv p2, iv p3, .val (.long ct), .second, .val (.long ff), .second, rv ord, iv mo, iv pl, rv b261, iv ax, iv va, rv b263, iv kl, iv (kl + pl), iv tg, iv 1] [(.long ff), (.long ct), (.int tg), (.int (4 : Int32)), (.ref b263), (.int (1 : Int32))])) rfl (by rw [hml]; rfl) (argsL := [(.ref b263), (.int (4 : Int32)), (.int tg), (.long ct), (.long ff)]) (rest := [(.int (1 : Int32))]) (lenOf own_pd6 rfl) rfl (by show 2 * 0 + _ ≤ _; exact Nat.le_of_eq rfl) (hb hby at_353) rfl e281 (kc := 4) (ks := 26) rfl rfl (by decide) (by decide)
  obtain ⟨rfl, N282q, e282⟩ := hQ282
  have N282 := Fr.app N281 N282q
  refine own_to (mkF m 356 #[iv p0, iv p1, iv p2, iv p3, .val (.long ct), .second, .val (.long ff), .second, rv ord, iv mo, iv pl, rv b261, iv ax, iv va, rv b263, iv kl, iv (kl + pl), iv tg, iv 1] [(.int (1 : Int32)), (.int (1 : Int32))]) st282 ?_
  refine own_iand 357 X282 hx (hb hby at_356) (z := (1 : Int32)) rfl rfl ?_
  refine own_is 359 #[iv p0, iv p1, iv p2, iv p3, .val (.long ct), .second, .val (.long ff), .second, rv ord, iv mo, iv pl, rv b261, iv ax, iv va, rv b263, iv kl, iv (kl + pl), iv tg, iv 1] X282 hx (hb hby at_357) rfl rfl ?_
  refine own_il 361 X282 hx (hb hby at_359) rfl rfl ?_
  refine own_al 363 X282 hx (hb hby at_361) rfl rfl rfl ?_
  refine own_ic 364 5 X282 hx (hb hby at_363) rfl rfl ?_
  refine own_il 366 X282 hx (hb hby at_364) rfl rfl ?_
  refine own_to (T' := T282) (mkF m 368 #[iv p0, iv p1, iv p2, iv p3, .val (.long ct), .second, .val (.long ff), .second, rv ord, iv mo, iv pl, rv b261, iv ax, iv va, rv b263, iv kl, iv (kl + pl), iv tg, iv 1] [(.long ct), (.int tg), (.int (5 : Int32)), (.ref b263), (.int (1 : Int32))]) (fun _ k => XS.lload X282.here hx rfl (hb hby at_366) rfl k) ?_
  refine own_to (T' := T282) (mkF m 370 #[iv p0, iv p1, iv p2, iv p3, .val (.long ct), .second, .val (.long ff), .second, rv ord, iv mo, iv pl, rv b261, iv ax, iv va, rv b263, iv kl, iv (kl + pl), iv tg, iv 1] [(.long ff), (.long ct), (.int tg), (.int (5 : Int32)), (.ref b263), (.int (1 : Int32))]) (fun _ k => XS.lload X282.here hx rfl (hb hby at_368) rfl k) ?_
  clear X281 e281 N281 st282 N282q
  obtain ⟨_, T283, Lc283, X283, hQ283, st283⟩ := own_callS X282 hx (y := (⟨"com/example/gramstead/gramstead/estimation/RecordLayoutPutLongPinLaw", "cell", "([JIIJJ)Z"⟩ : MethodName)) hown (mvT hZ (own_w hw 73 rfl)) (mvT hZ (own_w hw 74 rfl)) (mvT hZ (own_w hw 75 rfl)) (mvT hZ (own_w hw 76 rfl)) (by decide) (backOf (W := 1) (own_rmE5 l Z a0 hw [] b263 k263 tg ct ff T276.heap n0 (Nat.le_trans Z0 KP.1) OL VB) hZ (own_w hw 76 rfl) (own_w hw 75 rfl) (by decide) (by decide)) (g := (mkF m 370 #[iv p0, iv p1, iv p2, iv p3, .val (.long ct), .second, .val (.long ff), .second, rv ord, iv mo, iv pl, rv b261, iv ax, iv va, rv b263, iv kl, iv (kl + pl), iv tg, iv 1] [(.long ff), (.long ct), (.int tg), (.int (5 : Int32)), (.ref b263), (.int (1 : Int32))])) rfl (by rw [hml]; rfl) (argsL := [(.ref b263), (.int (5 : Int32)), (.int tg), (.long ct), (.long ff)]) (rest := [(.int (1 : Int32))]) (lenOf own_pd6 rfl) rfl (by show 2 * 0 + _ ≤ _; exact Nat.le_of_eq rfl) (hb hby at_370) rfl e282 (kc := 4) (ks := 26) rfl rfl (by decide) (by decide)
  obtain ⟨rfl, N283q, e283⟩ := hQ283
  have N283 := Fr.app N282 N283q
  refine own_to (mkF m 373 #[iv p0, iv p1, iv p2, iv p3, .val (.long ct), .second, .val (.long ff), .second, rv ord, iv mo, iv pl, rv b261, iv ax, iv va, rv b263, iv kl, iv (kl + pl), iv tg, iv 1] [(.int (1 : Int32)), (.int (1 : Int32))]) st283 ?_
  refine own_iand 374 X283 hx (hb hby at_373) (z := (1 : Int32)) rfl rfl ?_
  refine own_is 376 #[iv p0, iv p1, iv p2, iv p3, .val (.long ct), .second, .val (.long ff), .second, rv ord, iv mo, iv pl, rv b261, iv ax, iv va, rv b263, iv kl, iv (kl + pl), iv tg, iv 1] X283 hx (hb hby at_374) rfl rfl ?_
  refine own_il 378 X283 hx (hb hby at_376) rfl rfl ?_
  refine own_al 380 X283 hx (hb hby at_378) rfl rfl rfl ?_
  refine own_bi 382 6 X283 hx (hb hby at_380) rfl rfl ?_
  refine own_il 384 X283 hx (hb hby at_382) rfl rfl ?_
  refine own_to (T' := T283) (mkF m 386 #[iv p0, iv p1, iv p2, iv p3, .val (.long ct), .second, .val (.long ff), .second, rv ord, iv mo, iv pl, rv b261, iv ax, iv va, rv b263, iv kl, iv (kl + pl), iv tg, iv 1] [(.long ct), (.int tg), (.int (6 : Int32)), (.ref b263), (.int (1 : Int32))]) (fun _ k => XS.lload X283.here hx rfl (hb hby at_384) rfl k) ?_
  refine own_to (T' := T283) (mkF m 388 #[iv p0, iv p1, iv p2, iv p3, .val (.long ct), .second, .val (.long ff), .second, rv ord, iv mo, iv pl, rv b261, iv ax, iv va, rv b263, iv kl, iv (kl + pl), iv tg, iv 1] [(.long ff), (.long ct), (.int tg), (.int (6 : Int32)), (.ref b263), (.int (1 : Int32))]) (fun _ k => XS.lload X283.here hx rfl (hb hby at_386) rfl k) ?_
  clear X282 e282 N282 st283 N283q
  obtain ⟨_, T284, Lc284, X284, hQ284, st284⟩ := own_callS X283 hx (y := (⟨"com/example/gramstead/gramstead/estimation/RecordLayoutPutLongPinLaw", "cell", "([JIIJJ)Z"⟩ : MethodName)) hown (mvT hZ (own_w hw 73 rfl)) (mvT hZ (own_w hw 74 rfl)) (mvT hZ (own_w hw 75 rfl)) (mvT hZ (own_w hw 76 rfl)) (by decide) (backOf (W := 1) (own_rmE6 l Z a0 hw [] b263 k263 tg ct ff T276.heap n0 (Nat.le_trans Z0 KP.1) OL VB) hZ (own_w hw 76 rfl) (own_w hw 75 rfl) (by decide) (by decide)) (g := (mkF m 388 #[iv p0, iv p1, iv p2, iv p3, .val (.long ct), .second, .val (.long ff), .second, rv ord, iv mo, iv pl, rv b261, iv ax, iv va, rv b263, iv kl, iv (kl + pl), iv tg, iv 1] [(.long ff), (.long ct), (.int tg), (.int (6 : Int32)), (.ref b263), (.int (1 : Int32))])) rfl (by rw [hml]; rfl) (argsL := [(.ref b263), (.int (6 : Int32)), (.int tg), (.long ct), (.long ff)]) (rest := [(.int (1 : Int32))]) (lenOf own_pd6 rfl) rfl (by show 2 * 0 + _ ≤ _; exact Nat.le_of_eq rfl) (hb hby at_388) rfl e283 (kc := 4) (ks := 26) rfl rfl (by decide) (by decide)
  obtain ⟨rfl, N284q, e284⟩ := hQ284
  have N284 := Fr.app N283 N284q
  refine own_to (mkF m 391 #[iv p0, iv p1, iv p2, iv p3, .val (.long ct), .second, .val (.long ff), .second, rv ord, iv mo, iv pl, rv b261, iv ax, iv va, rv b263, iv kl, iv (kl + pl), iv tg, iv 1] [(.int (1 : Int32)), (.int (1 : Int32))]) st284 ?_
  refine own_iand 392 X284 hx (hb hby at_391) (z := (1 : Int32)) rfl rfl ?_
  refine own_is 394 #[iv p0, iv p1, iv p2, iv p3, .val (.long ct), .second, .val (.long ff), .second, rv ord, iv mo, iv pl, rv b261, iv ax, iv va, rv b263, iv kl, iv (kl + pl), iv tg, iv 1] X284 hx (hb hby at_392) rfl rfl ?_
  refine own_il 396 X284 hx (hb hby at_394) rfl rfl ?_
  refine own_al 398 X284 hx (hb hby at_396) rfl rfl rfl ?_
  refine own_bi 400 7 X284 hx (hb hby at_398) rfl rfl ?_
  refine own_il 402 X284 hx (hb hby at_400) rfl rfl ?_
  refine own_to (T' := T284) (mkF m 404 #[iv p0, iv p1, iv p2, iv p3, .val (.long ct), .second, .val (.long ff), .second, rv ord, iv mo, iv pl, rv b261, iv ax, iv va, rv b263, iv kl, iv (kl + pl), iv tg, iv 1] [(.long ct), (.int tg), (.int (7 : Int32)), (.ref b263), (.int (1 : Int32))]) (fun _ k => XS.lload X284.here hx rfl (hb hby at_402) rfl k) ?_
  refine own_to (T' := T284) (mkF m 406 #[iv p0, iv p1, iv p2, iv p3, .val (.long ct), .second, .val (.long ff), .second, rv ord, iv mo, iv pl, rv b261, iv ax, iv va, rv b263, iv kl, iv (kl + pl), iv tg, iv 1] [(.long ff), (.long ct), (.int tg), (.int (7 : Int32)), (.ref b263), (.int (1 : Int32))]) (fun _ k => XS.lload X284.here hx rfl (hb hby at_404) rfl k) ?_
  clear X283 e283 N283 st284 N284q
  obtain ⟨_, T285, Lc285, X285, hQ285, st285⟩ := own_callS X284 hx (y := (⟨"com/example/gramstead/gramstead/estimation/RecordLayoutPutLongPinLaw", "cell", "([JIIJJ)Z"⟩ : MethodName)) hown (mvT hZ (own_w hw 73 rfl)) (mvT hZ (own_w hw 74 rfl)) (mvT hZ (own_w hw 75 rfl)) (mvT hZ (own_w hw 76 rfl)) (by decide) (backOf (W := 1) (own_rmE7 l Z a0 hw [] b263 k263 tg ct ff T276.heap n0 (Nat.le_trans Z0 KP.1) OL VB) hZ (own_w hw 76 rfl) (own_w hw 75 rfl) (by decide) (by decide)) (g := (mkF m 406 #[iv p0, iv p1, iv p2, iv p3, .val (.long ct), .second, .val (.long ff), .second, rv ord, iv mo, iv pl, rv b261, iv ax, iv va, rv b263, iv kl, iv (kl + pl), iv tg, iv 1] [(.long ff), (.long ct), (.int tg), (.int (7 : Int32)), (.ref b263), (.int (1 : Int32))])) rfl (by rw [hml]; rfl) (argsL := [(.ref b263), (.int (7 : Int32)), (.int tg), (.long ct), (.long ff)]) (rest := [(.int (1 : Int32))]) (lenOf own_pd6 rfl) rfl (by show 2 * 0 + _ ≤ _; exact Nat.le_of_eq rfl) (hb hby at_406) rfl e284 (kc := 4) (ks := 26) rfl rfl (by decide) (by decide)
  obtain ⟨rfl, N285q, e285⟩ := hQ285
  have N285 := Fr.app N284 N285q
  refine own_to (mkF m 409 #[iv p0, iv p1, iv p2, iv p3, .val (.long ct), .second, .val (.long ff), .second, rv ord, iv mo, iv pl, rv b261, iv ax, iv va, rv b263, iv kl, iv (kl + pl), iv tg, iv 1] [(.int (1 : Int32)), (.int (1 : Int32))]) st285 ?_
  refine own_iand 410 X285 hx (hb hby at_409) (z := (1 : Int32)) rfl rfl ?_
  refine own_is 412 #[iv p0, iv p1, iv p2, iv p3, .val (.long ct), .second, .val (.long ff), .second, rv ord, iv mo, iv pl, rv b261, iv ax, iv va, rv b263, iv kl, iv (kl + pl), iv tg, iv 1] X285 hx (hb hby at_410) rfl rfl ?_
  refine own_il 414 X285 hx (hb hby at_412) rfl rfl ?_
  refine own_al 416 X285 hx (hb hby at_414) rfl rfl rfl ?_
  refine own_bi 418 8 X285 hx (hb hby at_416) rfl rfl ?_
  refine own_il 420 X285 hx (hb hby at_418) rfl rfl ?_
  refine own_to (T' := T285) (mkF m 422 #[iv p0, iv p1, iv p2, iv p3, .val (.long ct), .second, .val (.long ff), .second, rv ord, iv mo, iv pl, rv b261, iv ax, iv va, rv b263, iv kl, iv (kl + pl), iv tg, iv 1] [(.long ct), (.int tg), (.int (8 : Int32)), (.ref b263), (.int (1 : Int32))]) (fun _ k => XS.lload X285.here hx rfl (hb hby at_420) rfl k) ?_
  refine own_to (T' := T285) (mkF m 424 #[iv p0, iv p1, iv p2, iv p3, .val (.long ct), .second, .val (.long ff), .second, rv ord, iv mo, iv pl, rv b261, iv ax, iv va, rv b263, iv kl, iv (kl + pl), iv tg, iv 1] [(.long ff), (.long ct), (.int tg), (.int (8 : Int32)), (.ref b263), (.int (1 : Int32))]) (fun _ k => XS.lload X285.here hx rfl (hb hby at_422) rfl k) ?_
  clear X284 e284 N284 st285 N285q
  obtain ⟨_, T286, Lc286, X286, hQ286, st286⟩ := own_callS X285 hx (y := (⟨"com/example/gramstead/gramstead/estimation/RecordLayoutPutLongPinLaw", "cell", "([JIIJJ)Z"⟩ : MethodName)) hown (mvT hZ (own_w hw 73 rfl)) (mvT hZ (own_w hw 74 rfl)) (mvT hZ (own_w hw 75 rfl)) (mvT hZ (own_w hw 76 rfl)) (by decide) (backOf (W := 1) (own_rmE8 l Z a0 hw [] b263 k263 tg ct ff T276.heap n0 (Nat.le_trans Z0 KP.1) OL VB) hZ (own_w hw 76 rfl) (own_w hw 75 rfl) (by decide) (by decide)) (g := (mkF m 424 #[iv p0, iv p1, iv p2, iv p3, .val (.long ct), .second, .val (.long ff), .second, rv ord, iv mo, iv pl, rv b261, iv ax, iv va, rv b263, iv kl, iv (kl + pl), iv tg, iv 1] [(.long ff), (.long ct), (.int tg), (.int (8 : Int32)), (.ref b263), (.int (1 : Int32))])) rfl (by rw [hml]; rfl) (argsL := [(.ref b263), (.int (8 : Int32)), (.int tg), (.long ct), (.long ff)]) (rest := [(.int (1 : Int32))]) (lenOf own_pd6 rfl) rfl (by show 2 * 0 + _ ≤ _; exact Nat.le_of_eq rfl) (hb hby at_424) rfl e285 (kc := 4) (ks := 26) rfl rfl (by decide) (by decide)
  obtain ⟨rfl, N286q, e286⟩ := hQ286
  have N286 := Fr.app N285 N286q
  refine own_to (mkF m 427 #[iv p0, iv p1, iv p2, iv p3, .val (.long ct), .second, .val (.long ff), .second, rv ord, iv mo, iv pl, rv b261, iv ax, iv va, rv b263, iv kl, iv (kl + pl), iv tg, iv 1] [(.int (1 : Int32)), (.int (1 : Int32))]) st286 ?_
  refine own_iand 428 X286 hx (hb hby at_427) (z := (1 : Int32)) rfl rfl ?_
  refine own_is 430 #[iv p0, iv p1, iv p2, iv p3, .val (.long ct), .second, .val (.long ff), .second, rv ord, iv mo, iv pl, rv b261, iv ax, iv va, rv b263, iv kl, iv (kl + pl), iv tg, iv 1] X286 hx (hb hby at_428) rfl rfl ?_
  refine own_il 432 X286 hx (hb hby at_430) rfl rfl ?_
  refine own_al 434 X286 hx (hb hby at_432) rfl rfl rfl ?_
  refine own_bi 436 9 X286 hx (hb hby at_434) rfl rfl ?_
  refine own_il 438 X286 hx (hb hby at_436) rfl rfl ?_
  refine own_to (T' := T286) (mkF m 440 #[iv p0, iv p1, iv p2, iv p3, .val (.long ct), .second, .val (.long ff), .second, rv ord, iv mo, iv pl, rv b261, iv ax, iv va, rv b263, iv kl, iv (kl + pl), iv tg, iv 1] [(.long ct), (.int tg), (.int (9 : Int32)), (.ref b263), (.int (1 : Int32))]) (fun _ k => XS.lload X286.here hx rfl (hb hby at_438) rfl k) ?_
  refine own_to (T' := T286) (mkF m 442 #[iv p0, iv p1, iv p2, iv p3, .val (.long ct), .second, .val (.long ff), .second, rv ord, iv mo, iv pl, rv b261, iv ax, iv va, rv b263, iv kl, iv (kl + pl), iv tg, iv 1] [(.long ff), (.long ct), (.int tg), (.int (9 : Int32)), (.ref b263), (.int (1 : Int32))]) (fun _ k => XS.lload X286.here hx rfl (hb hby at_440) rfl k) ?_
  clear X285 e285 N285 st286 N286q
  obtain ⟨_, T287, Lc287, X287, hQ287, st287⟩ := own_callS X286 hx (y := (⟨"com/example/gramstead/gramstead/estimation/RecordLayoutPutLongPinLaw", "cell", "([JIIJJ)Z"⟩ : MethodName)) hown (mvT hZ (own_w hw 73 rfl)) (mvT hZ (own_w hw 74 rfl)) (mvT hZ (own_w hw 75 rfl)) (mvT hZ (own_w hw 76 rfl)) (by decide) (backOf (W := 1) (own_rmE9 l Z a0 hw [] b263 k263 tg ct ff T276.heap n0 (Nat.le_trans Z0 KP.1) OL VB) hZ (own_w hw 76 rfl) (own_w hw 75 rfl) (by decide) (by decide)) (g := (mkF m 442 #[iv p0, iv p1, iv p2, iv p3, .val (.long ct), .second, .val (.long ff), .second, rv ord, iv mo, iv pl, rv b261, iv ax, iv va, rv b263, iv kl, iv (kl + pl), iv tg, iv 1] [(.long ff), (.long ct), (.int tg), (.int (9 : Int32)), (.ref b263), (.int (1 : Int32))])) rfl (by rw [hml]; rfl) (argsL := [(.ref b263), (.int (9 : Int32)), (.int tg), (.long ct), (.long ff)]) (rest := [(.int (1 : Int32))]) (lenOf own_pd6 rfl) rfl (by show 2 * 0 + _ ≤ _; exact Nat.le_of_eq rfl) (hb hby at_442) rfl e286 (kc := 4) (ks := 26) rfl rfl (by decide) (by decide)
  obtain ⟨rfl, N287q, e287⟩ := hQ287
  have N287 := Fr.app N286 N287q
  refine own_to (mkF m 445 #[iv p0, iv p1, iv p2, iv p3, .val (.long ct), .second, .val (.long ff), .second, rv ord, iv mo, iv pl, rv b261, iv ax, iv va, rv b263, iv kl, iv (kl + pl), iv tg, iv 1] [(.int (1 : Int32)), (.int (1 : Int32))]) st287 ?_
  refine own_iand 446 X287 hx (hb hby at_445) (z := (1 : Int32)) rfl rfl ?_
  refine own_is 448 #[iv p0, iv p1, iv p2, iv p3, .val (.long ct), .second, .val (.long ff), .second, rv ord, iv mo, iv pl, rv b261, iv ax, iv va, rv b263, iv kl, iv (kl + pl), iv tg, iv 1] X287 hx (hb hby at_446) rfl rfl ?_
  refine own_il 450 X287 hx (hb hby at_448) rfl rfl ?_
  exact own_retN X287 hx (t := .boolean) Bd.returns (by simp) hlk (hb hby at_450) (by decide) (by decide) (by rw [e287]; exact ⟨rfl, N287⟩)
set_option maxRecDepth 65536 in
set_option maxHeartbeats 40000000 in
theorem own_comes {Post : Tables → Env → Array Value → State → Outcome → State → Prop} (hpost : ∀ tb e args s v u, (limb_1_1.after args s (.returned v) u = true ∧ limb_1_2.after args s (.returned v) u = true ∧ True) → FrameEnd s (.returned v) u (Jvm.fieldLocs frame_1_writes args s ++ Jvm.arrayLocs frame_1_arrays args s ++ Jvm.staticLocs frame_1_statics s) 16 128 → Post tb e args s (.returned v) u) :
    ArmFor flags0 classFile x code maxLocals ret World_1 tables_1 room_1 Calls_1 rest_1 Pre_1 Post := by
  intro l hfl _ _ p e ha hc hk s m args below hf hA hF happ hP
  obtain ⟨hcalls, hrest, hpre⟩ := hP
  obtain ⟨-, -, -, hnamed, -, -, -, hat⟩ := (Spec.applies_iff hf).mp happ
  obtain ⟨hg, hn⟩ := and_e (Cond.before_iff.mp (show (Jvm.Cond.and given_1 narrow_1).before args s = true from hpre))
  obtain ⟨hg0, hgr0⟩ := and_e hg
  obtain ⟨hg1, hgr1⟩ := and_e hgr0
  obtain ⟨hg2, hgr2⟩ := and_e hgr1
  obtain ⟨hg3, hgr3⟩ := and_e hgr2
  obtain ⟨hg4, hgr4⟩ := and_e hgr3
  obtain ⟨hg5, hgr5⟩ := and_e hgr4
  obtain ⟨w0, w1, w2, w3, w4, w5, rfl⟩ : ∃ w0 w1 w2 w3 w4 w5 : Value, args = #[w0, w1, w2, w3, w4, w5] := by
    have hs : args.size = 6 := by simpa [Cond.value, given_1] using hg0
    obtain ⟨L⟩ := args
    match L, hs with
    | [w0, w1, w2, w3, w4, w5], _ => exact ⟨w0, w1, w2, w3, w4, w5, rfl⟩
  have hw := fun d (hd : d ∈ tables_1) => atoms_spec (ws := Jvm.Cond.code x code maxLocals ret :: tables_1) hat d (List.mem_cons_of_mem _ hd)
  have hfit : Fit s := fun {y c} hc i hi => by
    obtain ⟨ha, rfl⟩ := Array.getElem?_eq_some_iff.mp hc
    have q := List.all_eq_true.mp ((Array.all_eq_true_iff_forall_mem.mp hF) _ (Array.getElem_mem ha)) i (List.mem_range.mpr hi)
    simpa [Array.getElem?_eq_getElem hi] using q
  obtain ⟨i0, ei0⟩ := is_v hg1
  obtain rfl : w0 = (.int i0) := Option.some.inj ei0
  obtain ⟨i1, ei1⟩ := is_v hg2
  obtain rfl : w1 = (.int i1) := Option.some.inj ei1
  obtain ⟨i2, ei2⟩ := is_v hg3
  obtain rfl : w2 = (.int i2) := Option.some.inj ei2
  obtain ⟨i3, ei3⟩ := is_v hg4
  obtain rfl : w3 = (.int i3) := Option.some.inj ei3
  obtain ⟨i4, ei4⟩ := isL_v hg5
  obtain rfl : w4 = (.long i4) := Option.some.inj ei4
  obtain ⟨i5, ei5⟩ := isL_v hgr5
  obtain rfl : w5 = (.long i5) := Option.some.inj ei5
  obtain ⟨hxS, hr0⟩ := and_e hn
  obtain ⟨hxC, hr1⟩ := and_e hr0
  obtain ⟨hoS, hoC⟩ := and_e hr1
  obtain ⟨aS, eS⟩ := exa_v hxS
  have SS : Sta s s.heap "com/example/gramstead/gramstead/estimation/RecordOrder" "SUFFIX" "Lcom/example/gramstead/gramstead/estimation/RecordOrder;" (.ref aS) := Sta.start eS (Or.inr ⟨(own_w hw 1 rfl), (own_w hw 2 rfl)⟩)
  have OS := own_fldI eS hoS
  obtain ⟨aC, eC⟩ := exa_v hxC
  have SC : Sta s s.heap "com/example/gramstead/gramstead/estimation/RecordOrder" "CONTEXT" "Lcom/example/gramstead/gramstead/estimation/RecordOrder;" (.ref aC) := Sta.start eC (Or.inr ⟨(own_w hw 1 rfl), (own_w hw 35 rfl)⟩)
  have OC := own_fldI eC hoC
  have ne_aS_aC : aS ≠ aC := Fld.ne OS OC (by decide)
  obtain ⟨n, o, h1, h2, h3, _, L, rfl, ⟨rfl, N⟩, hq⟩ := own_rm0 l s _ hw tables_1 i0 i1 i2 i3 i4 i5 aC aS s.heap s.heap.size (Nat.le_refl _) (Old.start s) SC SS ne_aS_aC p e ha hc hk s m _ below hf ((Spec.applies_iff_loose hf).mp happ).1 ⟨rfl, State.Warmed39.refl s, rfl⟩ trivial
  refine ⟨n, _, h1, h2, h3, hpost _ _ _ _ _ _ ⟨Cond.after_iff.mpr rfl, Cond.after_iff.mpr (eq_i res_at (Term.int_eval (1)) rfl), trivial⟩ ⟨hq.1, hq.2.1, (hq.2.2.sift fun y hy => Or.inr (N y hy)).mono (by decide) (by decide)⟩⟩
theorem main_1_1 : Claimed_1_1 := own_comes fun _ _ _ _ _ _ h hF => ⟨h.1, hF⟩
theorem main_1_2 : Claimed_1_2 := own_comes fun _ _ _ _ _ _ h hF => ⟨h.2.1, hF⟩
end Jvm.Pilot.@@N@@
namespace Jvm.Pilot.@@N@@
open Jvm Jvm.ClassFile Sem Op Lib Jvm.Free Jvm.Stand Jvm.Pilot.@@N@@.Jvm.D
/-! MADE BY PROGRAM (witnessworld.py) out of the Statement's table words and the real class files: 19 classes; the members and pool entries that the words name. The judged class is class 1, her method 2. -/
namespace start1
open Jvm.ClassFile
def u (s : String) : CpInfo := .utf8 (stringToUtf16 s)
/-- a pool by its gaps: so many unusable entries, then the entry; so many at the end -/
def gap : Nat → List CpInfo → List CpInfo
  | 0, r => r
  | n + 1, r => .unusable :: gap n r
def poolList (es : List (Nat × CpInfo)) (last : Nat) : List CpInfo := es.foldr (fun e r => gap e.1 (e.2 :: r)) (gap last [])
def pool (es : List (Nat × CpInfo)) (last : Nat) : Array CpInfo := ⟨poolList es last⟩
def fileOf (pool : Array CpInfo) (this : Nat) (attrs : Array Attribute := #[]) (ms : Array MethodInfo := #[]) (fl : Nat := 33) (sup : Nat := 0) (ifs : Array Nat := #[]) (fds : Array FieldInfo := #[]) : ClassFile where
  minorVersion := 0
  majorVersion := 65
  constantPool := pool
  accessFlags := fl
  thisClass := this
  superClass := sup
  interfaces := ifs
  fields := fds
  methods := ms
  attributes := attrs
def plain (name : String) (sup : Option ClassId) : Class where
  name := name
  kind := .ordinary
  loader := none
  accessFlags := 33
  super := sup
  interfaces := #[]
  cf := none
  fields := #[]
  methods := #[]
  instanceTypes := #[]
  staticTypes := #[]
  resolved := #[]
  callSites := []
  init := .initialized
  statics := none
  mirror := none

def pool0 : Array CpInfo := pool [(5, u "<init>"), (0, u "()V"), (1, .class_ 10), (1, u "java/lang/Object")] 113

def k0c0 : Code := { maxStack := 0, maxLocals := 1, code := object_method_1_code, exceptionTable := #[], attributes := #[] }
def k0m0 : Method := { name := "<init>", desc := "()V", sig := { parameters := [], returnType := none }, accessFlags := 1, code := some k0c0 }
/-- java/lang/Object -/
def k0 : Class := { plain "java/lang/Object" none with
  accessFlags := 33
  interfaces := #[]
  cf := some (fileOf pool0 8 #[] #[{ accessFlags := 1, nameIndex := 5, descriptorIndex := 6, attributes := #[] }] 33 0 #[] #[])
  fields := #[]
  methods := #[k0m0]
  instanceTypes := #[]
  staticTypes := #[]
  resolved := Array.replicate 124 none
  statics := none }

def pool1 : Array CpInfo := pool [(2, .class_ 4), (1, u "java/lang/Object"), (0, u "<init>"), (0, u "()V"), (0, .fieldref 8 9), (0, .class_ 10), (0, .nameAndType 11 12), (0, u "com/example/gramstead/gramstead/estimation/RecordOrder"), (0, u "CONTEXT"), (0, u "Lcom/example/gramstead/gramstead/estimation/RecordOrder;"), (0, .fieldref 8 14), (0, .nameAndType 15 12), (0, u "SUFFIX"), (0, .class_ 17), (0, u "com/example/gramstead/gramstead/estimation/RecordLayout"), (0, .integer 2147483647), (0, .methodref 16 20), (0, .nameAndType 5 21), (0, u "(Lcom/example/gramstead/gramstead/estimation/RecordOrder;III)V"), (0, .long 2), (1, .long 3), (1, .long 4), (1, .long 5), (1, .long 6), (1, .long 7), (1, .long 8), (1, .long 9), (1, .methodref 16 39), (0, .nameAndType 40 41), (0, u "keyLongs"), (0, u "()I"), (0, .methodref 16 43), (0, .nameAndType 44 41), (0, u "width"), (0, .methodref 16 46), (0, .nameAndType 47 48), (0, u "putLong"), (0, u "([JIIJ)V"), (0, .methodref 16 50), (0, .nameAndType 51 52), (0, u "getLong"), (0, u "([JII)J"), (0, .methodref 54 55), (0, .class_ 56), (0, .nameAndType 57 58), (0, u "com/example/gramstead/gramstead/estimation/RecordLayoutPutLongPinLaw"), (0, u "cell"), (0, u "([JIIJJ)Z"), (5, u "law"), (0, u "(IIIIJJ)Z")] 2

def k1m0 : Method := { name := "<init>", desc := "()V", sig := { parameters := [], returnType := none }, accessFlags := 1, code := none }
def k1c1 : Code := { maxStack := 6, maxLocals := 7, code := method_2_code, exceptionTable := #[], attributes := #[] }
def k1m1 : Method := { name := "cell", desc := "([JIIJJ)Z", sig := { parameters := [(.array .long), .int, .int, .long, .long], returnType := some .boolean }, accessFlags := 10, code := some k1c1 }
def k1c2 : Code := { maxStack := 8, maxLocals := 19, code := code, exceptionTable := #[], attributes := #[] }
def k1m2 : Method := { name := "law", desc := "(IIIIJJ)Z", sig := { parameters := [.int, .int, .int, .int, .long, .long], returnType := some .boolean }, accessFlags := 9, code := some k1c2 }
/-- com/example/gramstead/gramstead/estimation/RecordLayoutPutLongPinLaw -/
def k1 : Class := { plain "com/example/gramstead/gramstead/estimation/RecordLayoutPutLongPinLaw" (some 0) with
  accessFlags := 49
  interfaces := #[]
  cf := some (fileOf pool1 54 #[] #[{ accessFlags := 1, nameIndex := 5, descriptorIndex := 6, attributes := #[] }, { accessFlags := 10, nameIndex := 57, descriptorIndex := 58, attributes := #[] }, { accessFlags := 9, nameIndex := 64, descriptorIndex := 65, attributes := #[] }] 49 2 #[] #[])
  fields := #[]
  methods := #[k1m0, k1m1, k1m2]
  instanceTypes := #[]
  staticTypes := #[]
  resolved := Array.replicate 68 none
  statics := none }

def pool2 : Array CpInfo := pool [(1, .class_ 2), (0, u "java/lang/constant/Constable"), (0, .class_ 4), (0, u "java/lang/Object")] 6

/-- java/lang/constant/Constable -/
def k2 : Class := { plain "java/lang/constant/Constable" (some 0) with
  accessFlags := 1537
  interfaces := #[]
  cf := some (fileOf pool2 1 #[] #[] 1537 3 #[] #[])
  fields := #[]
  methods := #[]
  instanceTypes := #[]
  staticTypes := #[]
  resolved := Array.replicate 11 none
  statics := none }

def pool3 : Array CpInfo := pool [(1, .class_ 2), (0, u "java/lang/Comparable"), (0, .class_ 4), (0, u "java/lang/Object")] 7

/-- java/lang/Comparable -/
def k3 : Class := { plain "java/lang/Comparable" (some 0) with
  accessFlags := 1537
  interfaces := #[]
  cf := some (fileOf pool3 1 #[] #[] 1537 3 #[] #[])
  fields := #[]
  methods := #[]
  instanceTypes := #[]
  staticTypes := #[]
  resolved := Array.replicate 12 none
  statics := none }

def pool4 : Array CpInfo := pool [(1, .class_ 2), (0, u "java/io/Serializable"), (0, .class_ 4), (0, u "java/lang/Object")] 2

/-- java/io/Serializable -/
def k4 : Class := { plain "java/io/Serializable" (some 0) with
  accessFlags := 1537
  interfaces := #[]
  cf := some (fileOf pool4 1 #[] #[] 1537 3 #[] #[])
  fields := #[]
  methods := #[]
  instanceTypes := #[]
  staticTypes := #[]
  resolved := Array.replicate 7 none
  statics := none }

def pool5 : Array CpInfo := pool [(2, .class_ 4), (1, u "java/lang/Enum"), (0, u "name"), (0, u "Ljava/lang/String;"), (2, u "ordinal"), (0, u "I"), (1, .class_ 14), (1, u "java/lang/Object"), (4, u "hash"), (86, .class_ 108), (1, u "java/lang/Enum$EnumDesc"), (2, .class_ 112), (0, u "java/lang/constant/Constable"), (0, .class_ 114), (0, u "java/lang/Comparable"), (0, .class_ 116), (0, u "java/io/Serializable")] 87

/-- java/lang/Enum -/
def k5 : Class := { plain "java/lang/Enum" (some 0) with
  accessFlags := 1057
  interfaces := #[2, 3, 4]
  cf := some (fileOf pool5 2 #[.nestMembers #[106]] #[] 1057 12 #[111, 113, 115] #[{ accessFlags := 18, nameIndex := 5, descriptorIndex := 6, attributes := #[] }, { accessFlags := 18, nameIndex := 9, descriptorIndex := 10, attributes := #[] }, { accessFlags := 2, nameIndex := 19, descriptorIndex := 10, attributes := #[] }])
  fields := #[{ name := "name", type := (.object "java/lang/String"), accessFlags := 18, slot := 0, constantValue := 0 }, { name := "ordinal", type := .int, accessFlags := 18, slot := 1, constantValue := 0 }, { name := "hash", type := .int, accessFlags := 2, slot := 2, constantValue := 0 }]
  methods := #[]
  instanceTypes := #[(.object "java/lang/String"), .int, .int]
  staticTypes := #[]
  resolved := Array.replicate 204 none
  statics := none }

def pool6 : Array CpInfo := pool [(1, .class_ 2), (0, u "com/example/gramstead/gramstead/estimation/RecordOrder"), (2, u "CONTEXT"), (0, u "Lcom/example/gramstead/gramstead/estimation/RecordOrder;"), (2, u "SUFFIX"), (2, u "$VALUES"), (0, u "[Lcom/example/gramstead/gramstead/estimation/RecordOrder;"), (6, .class_ 22), (1, u "java/lang/Enum")] 24

/-- com/example/gramstead/gramstead/estimation/RecordOrder -/
def k6 : Class := { plain "com/example/gramstead/gramstead/estimation/RecordOrder" (some 5) with
  accessFlags := 16432
  interfaces := #[]
  cf := some (fileOf pool6 1 #[] #[] 16432 20 #[] #[{ accessFlags := 16409, nameIndex := 5, descriptorIndex := 6, attributes := #[] }, { accessFlags := 16409, nameIndex := 9, descriptorIndex := 6, attributes := #[] }, { accessFlags := 4122, nameIndex := 12, descriptorIndex := 13, attributes := #[] }])
  fields := #[{ name := "CONTEXT", type := (.object "com/example/gramstead/gramstead/estimation/RecordOrder"), accessFlags := 16409, slot := 0, constantValue := 0 }, { name := "SUFFIX", type := (.object "com/example/gramstead/gramstead/estimation/RecordOrder"), accessFlags := 16409, slot := 1, constantValue := 0 }, { name := "$VALUES", type := (.array (.object "com/example/gramstead/gramstead/estimation/RecordOrder")), accessFlags := 4122, slot := 2, constantValue := 0 }]
  methods := #[]
  instanceTypes := #[(.object "java/lang/String"), .int, .int]
  staticTypes := #[(.object "com/example/gramstead/gramstead/estimation/RecordOrder"), (.object "com/example/gramstead/gramstead/estimation/RecordOrder"), (.array (.object "com/example/gramstead/gramstead/estimation/RecordOrder"))]
  resolved := Array.replicate 47 none
  statics := some 0 }

def pool7 : Array CpInfo := pool [(3, .methodref 4 5), (0, .class_ 6), (0, .nameAndType 7 8), (0, u "java/lang/Object"), (0, u "<init>"), (0, u "()V"), (0, .fieldref 10 11), (0, .class_ 12), (0, .nameAndType 13 14), (0, u "com/example/gramstead/gramstead/estimation/RecordLayout"), (0, u "order"), (0, u "Lcom/example/gramstead/gramstead/estimation/RecordOrder;"), (0, .methodref 10 16), (0, .nameAndType 17 18), (0, u "bitsFor"), (0, u "(I)I"), (0, .fieldref 10 20), (0, .nameAndType 21 22), (0, u "wordMask"), (0, u "J"), (0, .fieldref 10 24), (0, .nameAndType 25 26), (0, u "slotLongs"), (0, u "[I"), (0, .fieldref 10 28), (0, .nameAndType 29 26), (0, u "slotShifts"), (0, .fieldref 31 32), (0, .class_ 33), (0, .nameAndType 34 14), (0, u "com/example/gramstead/gramstead/estimation/RecordOrder"), (0, u "CONTEXT"), (0, .fieldref 10 36), (0, .nameAndType 37 22), (0, u "orderMask"), (0, .fieldref 10 39), (0, .nameAndType 40 41), (0, u "orderShift"), (0, u "I"), (0, .fieldref 10 43), (0, .nameAndType 44 41), (0, u "keyLongs"), (0, .fieldref 10 46), (0, .nameAndType 47 41), (0, u "width"), (6, u "getLong"), (0, u "([JII)J"), (12, u "putLong"), (0, u "([JIIJ)V"), (0, .class_ 71), (0, u "java/lang/Integer"), (0, .methodref 70 73), (0, .nameAndType 74 18), (0, u "numberOfLeadingZeros"), (0, .methodref 76 77), (0, .class_ 78), (0, .nameAndType 79 80), (0, u "java/lang/Math"), (0, u "max"), (0, u "(II)I"), (0, u "FIELD_BITS"), (2, u "(Lcom/example/gramstead/gramstead/estimation/RecordOrder;III)V"), (4, u "()I")] 11

def k7c0 : Code := { maxStack := 5, maxLocals := 9, code := prog_19_method_1_code, exceptionTable := #[], attributes := #[] }
def k7m0 : Method := { name := "<init>", desc := "(Lcom/example/gramstead/gramstead/estimation/RecordOrder;III)V", sig := { parameters := [(.object "com/example/gramstead/gramstead/estimation/RecordOrder"), .int, .int, .int], returnType := none }, accessFlags := 0, code := some k7c0 }
def k7c1 : Code := { maxStack := 1, maxLocals := 1, code := prog_19_method_3_code, exceptionTable := #[], attributes := #[] }
def k7m1 : Method := { name := "keyLongs", desc := "()I", sig := { parameters := [], returnType := some .int }, accessFlags := 0, code := some k7c1 }
def k7c2 : Code := { maxStack := 1, maxLocals := 1, code := prog_19_method_4_code, exceptionTable := #[], attributes := #[] }
def k7m2 : Method := { name := "width", desc := "()I", sig := { parameters := [], returnType := some .int }, accessFlags := 0, code := some k7c2 }
def k7c3 : Code := { maxStack := 3, maxLocals := 4, code := prog_19_method_8_code, exceptionTable := #[], attributes := #[] }
def k7m3 : Method := { name := "getLong", desc := "([JII)J", sig := { parameters := [(.array .long), .int, .int], returnType := some .long }, accessFlags := 0, code := some k7c3 }
def k7c4 : Code := { maxStack := 4, maxLocals := 6, code := prog_19_method_9_code, exceptionTable := #[], attributes := #[] }
def k7m4 : Method := { name := "putLong", desc := "([JIIJ)V", sig := { parameters := [(.array .long), .int, .int, .long], returnType := none }, accessFlags := 0, code := some k7c4 }
def k7c5 : Code := { maxStack := 3, maxLocals := 1, code := prog_19_method_12_code, exceptionTable := #[], attributes := #[] }
def k7m5 : Method := { name := "bitsFor", desc := "(I)I", sig := { parameters := [.int], returnType := some .int }, accessFlags := 10, code := some k7c5 }
/-- com/example/gramstead/gramstead/estimation/RecordLayout -/
def k7 : Class := { plain "com/example/gramstead/gramstead/estimation/RecordLayout" (some 0) with
  accessFlags := 48
  interfaces := #[]
  cf := some (fileOf pool7 10 #[] #[{ accessFlags := 0, nameIndex := 7, descriptorIndex := 84, attributes := #[] }, { accessFlags := 0, nameIndex := 44, descriptorIndex := 89, attributes := #[] }, { accessFlags := 0, nameIndex := 47, descriptorIndex := 89, attributes := #[] }, { accessFlags := 0, nameIndex := 54, descriptorIndex := 55, attributes := #[] }, { accessFlags := 0, nameIndex := 68, descriptorIndex := 69, attributes := #[] }, { accessFlags := 10, nameIndex := 17, descriptorIndex := 18, attributes := #[] }] 48 4 #[] #[{ accessFlags := 26, nameIndex := 81, descriptorIndex := 41, attributes := #[] }, { accessFlags := 18, nameIndex := 13, descriptorIndex := 14, attributes := #[] }, { accessFlags := 18, nameIndex := 44, descriptorIndex := 41, attributes := #[] }, { accessFlags := 18, nameIndex := 47, descriptorIndex := 41, attributes := #[] }, { accessFlags := 18, nameIndex := 21, descriptorIndex := 22, attributes := #[] }, { accessFlags := 18, nameIndex := 25, descriptorIndex := 26, attributes := #[] }, { accessFlags := 18, nameIndex := 29, descriptorIndex := 26, attributes := #[] }, { accessFlags := 18, nameIndex := 37, descriptorIndex := 22, attributes := #[] }, { accessFlags := 18, nameIndex := 40, descriptorIndex := 41, attributes := #[] }])
  fields := #[{ name := "FIELD_BITS", type := .int, accessFlags := 26, slot := 0, constantValue := 0 }, { name := "order", type := (.object "com/example/gramstead/gramstead/estimation/RecordOrder"), accessFlags := 18, slot := 0, constantValue := 0 }, { name := "keyLongs", type := .int, accessFlags := 18, slot := 1, constantValue := 0 }, { name := "width", type := .int, accessFlags := 18, slot := 2, constantValue := 0 }, { name := "wordMask", type := .long, accessFlags := 18, slot := 3, constantValue := 0 }, { name := "slotLongs", type := (.array .int), accessFlags := 18, slot := 4, constantValue := 0 }, { name := "slotShifts", type := (.array .int), accessFlags := 18, slot := 5, constantValue := 0 }, { name := "orderMask", type := .long, accessFlags := 18, slot := 6, constantValue := 0 }, { name := "orderShift", type := .int, accessFlags := 18, slot := 7, constantValue := 0 }]
  methods := #[k7m0, k7m1, k7m2, k7m3, k7m4, k7m5]
  instanceTypes := #[(.object "com/example/gramstead/gramstead/estimation/RecordOrder"), .int, .int, .long, (.array .int), (.array .int), .long, .int]
  staticTypes := #[.int]
  resolved := Array.replicate 101 none
  statics := none }

def pool8 : Array CpInfo := pool [(2, .class_ 4), (1, u "java/lang/Object"), (0, u "<init>"), (0, u "()V"), (1, .class_ 10), (1, u "java/lang/Number"), (2, .class_ 14), (0, u "java/io/Serializable"), (0, u "serialVersionUID"), (0, u "J")] 20

def k8m0 : Method := { name := "<init>", desc := "()V", sig := { parameters := [], returnType := none }, accessFlags := 1, code := none }
/-- java/lang/Number -/
def k8 : Class := { plain "java/lang/Number" (some 0) with
  accessFlags := 1057
  interfaces := #[4]
  cf := some (fileOf pool8 8 #[] #[{ accessFlags := 1, nameIndex := 5, descriptorIndex := 6, attributes := #[] }] 1057 2 #[13] #[{ accessFlags := 26, nameIndex := 15, descriptorIndex := 16, attributes := #[] }])
  fields := #[{ name := "serialVersionUID", type := .long, accessFlags := 26, slot := 0, constantValue := 0 }]
  methods := #[k8m0]
  instanceTypes := #[]
  staticTypes := #[.long]
  resolved := Array.replicate 37 none
  statics := none }

def pool9 : Array CpInfo := pool [(1, .class_ 2), (0, u "java/lang/constant/ConstantDesc"), (0, .class_ 4), (0, u "java/lang/Object")] 32

/-- java/lang/constant/ConstantDesc -/
def k9 : Class := { plain "java/lang/constant/ConstantDesc" (some 0) with
  accessFlags := 1537
  interfaces := #[]
  cf := some (fileOf pool9 1 #[] #[] 1537 3 #[] #[])
  fields := #[]
  methods := #[]
  instanceTypes := #[]
  staticTypes := #[]
  resolved := Array.replicate 37 none
  statics := none }

def pool10 : Array CpInfo := pool [(1, .class_ 2), (0, u "java/lang/Integer"), (16, u "digits"), (0, u "[C"), (32, u "numberOfLeadingZeros"), (0, u "(I)I"), (30, u "DigitOnes"), (0, u "[B"), (2, u "DigitTens"), (99, .class_ 190), (0, u "java/lang/Integer$IntegerCache"), (3, u "I"), (8, .class_ 204), (0, u "java/lang/Number"), (2, u "value"), (56, .integer 65536), (37, u "TYPE"), (0, u "Ljava/lang/Class;"), (0, .class_ 305), (0, u "java/lang/Comparable"), (0, .class_ 307), (0, u "java/lang/constant/Constable"), (0, .class_ 309), (0, u "java/lang/constant/ConstantDesc"), (0, u "MIN_VALUE"), (1, u "MAX_VALUE"), (3, u "SIZE"), (1, u "BYTES"), (1, u "serialVersionUID"), (0, u "J")] 131

def k10c0 : Code := { maxStack := 3, maxLocals := 2, code := jdk_33_method_47_code, exceptionTable := #[], attributes := #[] }
def k10m0 : Method := { name := "numberOfLeadingZeros", desc := "(I)I", sig := { parameters := [.int], returnType := some .int }, accessFlags := 9, code := some k10c0 }
/-- java/lang/Integer -/
def k10 : Class := { plain "java/lang/Integer" (some 8) with
  accessFlags := 49
  interfaces := #[3, 2, 9]
  cf := some (fileOf pool10 1 #[.nestMembers #[189]] #[{ accessFlags := 9, nameIndex := 53, descriptorIndex := 54, attributes := #[] }] 49 203 #[304, 306, 308] #[{ accessFlags := 25, nameIndex := 310, descriptorIndex := 194, attributes := #[] }, { accessFlags := 25, nameIndex := 312, descriptorIndex := 194, attributes := #[] }, { accessFlags := 25, nameIndex := 302, descriptorIndex := 303, attributes := #[] }, { accessFlags := 24, nameIndex := 19, descriptorIndex := 20, attributes := #[] }, { accessFlags := 24, nameIndex := 89, descriptorIndex := 86, attributes := #[] }, { accessFlags := 24, nameIndex := 85, descriptorIndex := 86, attributes := #[] }, { accessFlags := 18, nameIndex := 207, descriptorIndex := 194, attributes := #[] }, { accessFlags := 25, nameIndex := 316, descriptorIndex := 194, attributes := #[] }, { accessFlags := 25, nameIndex := 318, descriptorIndex := 194, attributes := #[] }, { accessFlags := 26, nameIndex := 320, descriptorIndex := 321, attributes := #[] }])
  fields := #[{ name := "MIN_VALUE", type := .int, accessFlags := 25, slot := 0, constantValue := 0 }, { name := "MAX_VALUE", type := .int, accessFlags := 25, slot := 1, constantValue := 0 }, { name := "TYPE", type := (.object "java/lang/Class"), accessFlags := 25, slot := 2, constantValue := 0 }, { name := "digits", type := (.array .char), accessFlags := 24, slot := 3, constantValue := 0 }, { name := "DigitTens", type := (.array .byte), accessFlags := 24, slot := 4, constantValue := 0 }, { name := "DigitOnes", type := (.array .byte), accessFlags := 24, slot := 5, constantValue := 0 }, { name := "value", type := .int, accessFlags := 18, slot := 0, constantValue := 0 }, { name := "SIZE", type := .int, accessFlags := 25, slot := 6, constantValue := 0 }, { name := "BYTES", type := .int, accessFlags := 25, slot := 7, constantValue := 0 }, { name := "serialVersionUID", type := .long, accessFlags := 26, slot := 8, constantValue := 0 }]
  methods := #[k10m0]
  instanceTypes := #[.int]
  staticTypes := #[.int, .int, (.object "java/lang/Class"), (.array .char), (.array .byte), (.array .byte), .int, .int, .long]
  resolved := Array.replicate 453 none
  statics := none }

def pool11 : Array CpInfo := pool [(1, .class_ 2), (0, u "java/lang/Math"), (1, .class_ 6), (1, u "java/lang/Object"), (0, u "<init>"), (0, u "()V"), (89, .class_ 100), (1, u "java/lang/Math$RandomNumberGeneratorHolder"), (71, u "negativeZeroFloatBits"), (0, u "J"), (2, u "negativeZeroDoubleBits"), (21, u "max"), (46, u "$assertionsDisabled"), (0, u "Z"), (88, u "(II)I"), (2, u "twoToTheDoubleScaleDown"), (0, u "D"), (4, u "twoToTheDoubleScaleUp"), (9, u "E"), (3, u "PI"), (2, u "TAU"), (2, u "DEGREES_TO_RADIANS"), (0, u "RADIANS_TO_DEGREES")] 94

def k11m0 : Method := { name := "<init>", desc := "()V", sig := { parameters := [], returnType := none }, accessFlags := 2, code := none }
def k11c1 : Code := { maxStack := 2, maxLocals := 2, code := jdk_29_method_65_code, exceptionTable := #[], attributes := #[] }
def k11m1 : Method := { name := "max", desc := "(II)I", sig := { parameters := [.int, .int], returnType := some .int }, accessFlags := 9, code := some k11c1 }
/-- java/lang/Math -/
def k11 : Class := { plain "java/lang/Math" (some 0) with
  accessFlags := 49
  interfaces := #[]
  cf := some (fileOf pool11 1 #[.nestMembers #[98]] #[{ accessFlags := 2, nameIndex := 7, descriptorIndex := 8, attributes := #[] }, { accessFlags := 9, nameIndex := 198, descriptorIndex := 335, attributes := #[] }] 49 4 #[] #[{ accessFlags := 25, nameIndex := 354, descriptorIndex := 339, attributes := #[] }, { accessFlags := 25, nameIndex := 358, descriptorIndex := 339, attributes := #[] }, { accessFlags := 25, nameIndex := 361, descriptorIndex := 339, attributes := #[] }, { accessFlags := 26, nameIndex := 364, descriptorIndex := 339, attributes := #[] }, { accessFlags := 26, nameIndex := 365, descriptorIndex := 339, attributes := #[] }, { accessFlags := 26, nameIndex := 172, descriptorIndex := 173, attributes := #[] }, { accessFlags := 26, nameIndex := 176, descriptorIndex := 173, attributes := #[] }, { accessFlags := 8, nameIndex := 344, descriptorIndex := 339, attributes := #[] }, { accessFlags := 8, nameIndex := 338, descriptorIndex := 339, attributes := #[] }, { accessFlags := 4120, nameIndex := 245, descriptorIndex := 246, attributes := #[] }])
  fields := #[{ name := "E", type := .double, accessFlags := 25, slot := 0, constantValue := 0 }, { name := "PI", type := .double, accessFlags := 25, slot := 1, constantValue := 0 }, { name := "TAU", type := .double, accessFlags := 25, slot := 2, constantValue := 0 }, { name := "DEGREES_TO_RADIANS", type := .double, accessFlags := 26, slot := 3, constantValue := 0 }, { name := "RADIANS_TO_DEGREES", type := .double, accessFlags := 26, slot := 4, constantValue := 0 }, { name := "negativeZeroFloatBits", type := .long, accessFlags := 26, slot := 5, constantValue := 0 }, { name := "negativeZeroDoubleBits", type := .long, accessFlags := 26, slot := 6, constantValue := 0 }, { name := "twoToTheDoubleScaleUp", type := .double, accessFlags := 8, slot := 7, constantValue := 0 }, { name := "twoToTheDoubleScaleDown", type := .double, accessFlags := 8, slot := 8, constantValue := 0 }, { name := "$assertionsDisabled", type := .boolean, accessFlags := 4120, slot := 9, constantValue := 0 }]
  methods := #[k11m0, k11m1]
  instanceTypes := #[]
  staticTypes := #[.double, .double, .double, .double, .double, .long, .long, .double, .double, .boolean]
  resolved := Array.replicate 460 none
  statics := none }

def pool12 : Array CpInfo := pool [(1, u "java/lang/Cloneable"), (0, .class_ 1), (0, u "java/lang/Object"), (0, .class_ 3)] 3

/-- java/lang/Cloneable -/
def k12 : Class := { plain "java/lang/Cloneable" (some 0) with
  accessFlags := 1537
  interfaces := #[]
  cf := some (fileOf pool12 2 #[] #[] 1537 4 #[] #[])
  fields := #[]
  methods := #[]
  instanceTypes := #[]
  staticTypes := #[]
  resolved := Array.replicate 8 none
  statics := none }

/-- the primitive byte -/
def k13 : Class := { plain "byte" none with kind := .primitive 'B', accessFlags := 0x411 }
/-- [B -/
def k14 : Class := { plain "[B" (some 0) with kind := .array 13 .byte, interfaces := #[12, 4], accessFlags := 1041 }

/-- the primitive int -/
def k15 : Class := { plain "int" none with kind := .primitive 'I', accessFlags := 0x411 }
/-- [I -/
def k16 : Class := { plain "[I" (some 0) with kind := .array 15 .int, interfaces := #[12, 4], accessFlags := 1041 }

/-- the primitive long -/
def k17 : Class := { plain "long" none with kind := .primitive 'J', accessFlags := 0x411 }
/-- [J -/
def k18 : Class := { plain "[J" (some 0) with kind := .array 17 .long, interfaces := #[12, 4], accessFlags := 1041 }

def heap : Heap := #[{ cls := 6, slots := #[.ref 1, .ref 2, .null], vm := .statics 6 },
  { cls := 6, slots := #[.null, .int 0, .int 0], vm := .none },
  { cls := 6, slots := #[.null, .int 1, .int 0], vm := .none }]
def classes : Array Class := #[k0, k1, k2, k3, k4, k5, k6, k7, k8, k9, k10, k11, k12, k13, k14, k15, k16, k17, k18]
def interned : List (Array UInt16 × Addr) := []
def slotsUsed : Nat := 9
def theMethod : MethodId := ⟨1, 2⟩
def args0 : Array Value := #[.int 5, .int 2, .int 7, .int 8, .long 9, .long 11]
def aboutOver (below : List Frame) : State where
  vm := { classes := classes, interned := interned.toArray }
  heap := heap
  slotsUsed := slotsUsed
  threads := #[{ frames := .invoking theMethod args0 :: below }]
def below0 : List Frame := [.native { method := ⟨0, 0⟩, args := #[] }]
def about1 : State := aboutOver below0
def p0 : Program := .bare "" "" ""
def e0 : Env := launch0.env 0 0 0
theorem w_frames : about1.frames = Frame.invoking theMethod args0 :: below0 := rfl
set_option maxRecDepth 65536 in
theorem w_args : argsFit about1.vm theMethod args0 = true := by decide +kernel
set_option maxRecDepth 65536 in
theorem w_heap : heapFits about1 = true := by decide +kernel
set_option maxRecDepth 65536 in
theorem w_runnable : about1.curStatus? = some .runnable := by decide +kernel
set_option maxRecDepth 65536 in
theorem w_alone : about1.alone = true := by decide +kernel
set_option maxRecDepth 65536 in
theorem w_named : about1.methodNamed? x = some theMethod := by decide +kernel
set_option maxRecDepth 65536 in
theorem w_hears : about1.hears theMethod below0 = true := by decide +kernel
set_option maxRecDepth 65536 in
theorem w_ripe : about1.ripe theMethod args0 below0 = true := by decide +kernel
theorem w_running : about1.status = .running := rfl
set_option maxRecDepth 65536 in
theorem w_room : about1.hasRoom e0.platform room_1 = true :=
  launch0.hasRoom_least _ room_1 (by decide +kernel) (by decide +kernel) (by decide +kernel) (by decide +kernel) (by decide +kernel) (by decide +kernel)
theorem allAtoms_all (ts : List Jvm.Cond) (a : Array Jvm.Value) (st : Jvm.State) : (allAtoms ts).before a st = ts.all (fun c => c.before a st) := by
  induction ts with
  | nil => rfl
  | cons c t ih =>
    show (Jvm.Cond.and c (allAtoms t)).before a st = _
    rw [Jvm.Cond.before_and, ih, List.all_cons]
def words1 : List Jvm.Cond := Jvm.Cond.code x code maxLocals ret :: tables_1
/-- a 'code' word, met by the world's own term for the bytes: nothing is compared byte by byte -/
theorem code_word {y : MethodName} {bytes : ByteArray} {mx : Nat} {rt : Option FieldType} {a : Array Value} {s : State} {m : MethodId} {meth : Method} {c : Code} (h1 : s.methodNamed? y = some m) (h2 : s.vm.method? m = some meth) (h3 : meth.code = some c) (h4 : c.code = bytes)
    (h5 : (c.maxLocals == mx && c.exceptionTable.isEmpty && decide (c.maxStack ≤ mostOperands) && decide (meth.sig.returnType = rt) && !meth.locks && decide (parseMethodDescriptor y.desc = some meth.sig)) = true) : (Jvm.Cond.code y bytes mx rt).before a s = true := by
  simp only [Bool.and_eq_true, beq_iff_eq, Bool.not_eq_true', decide_eq_true_eq] at h5
  obtain ⟨⟨⟨⟨⟨g1, g2⟩, g3⟩, g4⟩, g5⟩, g6⟩ := h5
  simp [Cond.before, Cond.holds, Cond.value, h1, h2, h3, h4, g1, g2, g3, g4, g5, g6]
def isCode : Jvm.Cond → Bool
  | .code _ _ _ _ => true
  | _ => false
theorem all_split {L : List Jvm.Cond} {P : Jvm.Cond → Bool} (h1 : L.all (fun c => isCode c || P c) = true) (h2 : ∀ c ∈ L.filter isCode, P c = true) : L.all P = true := by
  refine List.all_eq_true.mpr fun c hc => ?_
  have h := List.all_eq_true.mp h1 c hc
  rcases Bool.eq_false_or_eq_true (isCode c) with hi | hi
  · exact h2 c (List.mem_filter.mpr ⟨hc, hi⟩)
  · simpa [hi] using h
set_option maxRecDepth 65536 in
theorem w_c0 : (Jvm.Cond.code x code maxLocals ret).before args0 about1 = true := code_word (m := ⟨1, 2⟩) (meth := k1m2) (c := k1c2) (by decide +kernel) rfl rfl rfl (by decide +kernel)
set_option maxRecDepth 65536 in
theorem w_c1 : (Jvm.Cond.code ({ cls := "com/example/gramstead/gramstead/estimation/RecordLayout", name := "<init>", desc := "(Lcom/example/gramstead/gramstead/estimation/RecordOrder;III)V" } : Jvm.MethodName) prog_19_method_1_code (9 : Nat) (Option.none : Option Jvm.ClassFile.FieldType)).before args0 about1 = true := code_word (m := ⟨7, 0⟩) (meth := k7m0) (c := k7c0) (by decide +kernel) rfl rfl rfl (by decide +kernel)
set_option maxRecDepth 65536 in
theorem w_c2 : (Jvm.Cond.code ({ cls := "java/lang/Object", name := "<init>", desc := "()V" } : Jvm.MethodName) object_method_1_code (1 : Nat) (Option.none : Option Jvm.ClassFile.FieldType)).before args0 about1 = true := code_word (m := ⟨0, 0⟩) (meth := k0m0) (c := k0c0) (by decide +kernel) rfl rfl rfl (by decide +kernel)
set_option maxRecDepth 65536 in
theorem w_c3 : (Jvm.Cond.code ({ cls := "com/example/gramstead/gramstead/estimation/RecordLayout", name := "bitsFor", desc := "(I)I" } : Jvm.MethodName) prog_19_method_12_code (1 : Nat) (Option.some Jvm.ClassFile.FieldType.int)).before args0 about1 = true := code_word (m := ⟨7, 5⟩) (meth := k7m5) (c := k7c5) (by decide +kernel) rfl rfl rfl (by decide +kernel)
set_option maxRecDepth 65536 in
theorem w_c4 : (Jvm.Cond.code ({ cls := "java/lang/Integer", name := "numberOfLeadingZeros", desc := "(I)I" } : Jvm.MethodName) jdk_33_method_47_code (2 : Nat) (Option.some Jvm.ClassFile.FieldType.int)).before args0 about1 = true := code_word (m := ⟨10, 0⟩) (meth := k10m0) (c := k10c0) (by decide +kernel) rfl rfl rfl (by decide +kernel)
set_option maxRecDepth 65536 in
theorem w_c5 : (Jvm.Cond.code ({ cls := "java/lang/Math", name := "max", desc := "(II)I" } : Jvm.MethodName) jdk_29_method_65_code (2 : Nat) (Option.some Jvm.ClassFile.FieldType.int)).before args0 about1 = true := code_word (m := ⟨11, 1⟩) (meth := k11m1) (c := k11c1) (by decide +kernel) rfl rfl rfl (by decide +kernel)
set_option maxRecDepth 65536 in
theorem w_c6 : (Jvm.Cond.code ({ cls := "com/example/gramstead/gramstead/estimation/RecordLayout", name := "keyLongs", desc := "()I" } : Jvm.MethodName) prog_19_method_3_code (1 : Nat) (Option.some Jvm.ClassFile.FieldType.int)).before args0 about1 = true := code_word (m := ⟨7, 1⟩) (meth := k7m1) (c := k7c1) (by decide +kernel) rfl rfl rfl (by decide +kernel)
set_option maxRecDepth 65536 in
theorem w_c7 : (Jvm.Cond.code ({ cls := "com/example/gramstead/gramstead/estimation/RecordLayout", name := "width", desc := "()I" } : Jvm.MethodName) prog_19_method_4_code (1 : Nat) (Option.some Jvm.ClassFile.FieldType.int)).before args0 about1 = true := code_word (m := ⟨7, 2⟩) (meth := k7m2) (c := k7c2) (by decide +kernel) rfl rfl rfl (by decide +kernel)
set_option maxRecDepth 65536 in
theorem w_c8 : (Jvm.Cond.code ({ cls := "com/example/gramstead/gramstead/estimation/RecordLayout", name := "putLong", desc := "([JIIJ)V" } : Jvm.MethodName) prog_19_method_9_code (6 : Nat) (Option.none : Option Jvm.ClassFile.FieldType)).before args0 about1 = true := code_word (m := ⟨7, 4⟩) (meth := k7m4) (c := k7c4) (by decide +kernel) rfl rfl rfl (by decide +kernel)
set_option maxRecDepth 65536 in
theorem w_c9 : (Jvm.Cond.code ({ cls := "com/example/gramstead/gramstead/estimation/RecordLayout", name := "getLong", desc := "([JII)J" } : Jvm.MethodName) prog_19_method_8_code (4 : Nat) (Option.some Jvm.ClassFile.FieldType.long)).before args0 about1 = true := code_word (m := ⟨7, 3⟩) (meth := k7m3) (c := k7c3) (by decide +kernel) rfl rfl rfl (by decide +kernel)
set_option maxRecDepth 65536 in
theorem w_c10 : (Jvm.Cond.code ({ cls := "com/example/gramstead/gramstead/estimation/RecordLayoutPutLongPinLaw", name := "cell", desc := "([JIIJJ)Z" } : Jvm.MethodName) method_2_code (7 : Nat) (Option.some Jvm.ClassFile.FieldType.boolean)).before args0 about1 = true := code_word (m := ⟨1, 1⟩) (meth := k1m1) (c := k1c1) (by decide +kernel) rfl rfl rfl (by decide +kernel)
def codes1 : List Jvm.Cond := [Jvm.Cond.code x code maxLocals ret, Jvm.Cond.code ({ cls := "com/example/gramstead/gramstead/estimation/RecordLayout", name := "<init>", desc := "(Lcom/example/gramstead/gramstead/estimation/RecordOrder;III)V" } : Jvm.MethodName) prog_19_method_1_code (9 : Nat) (Option.none : Option Jvm.ClassFile.FieldType), Jvm.Cond.code ({ cls := "java/lang/Object", name := "<init>", desc := "()V" } : Jvm.MethodName) object_method_1_code (1 : Nat) (Option.none : Option Jvm.ClassFile.FieldType), Jvm.Cond.code ({ cls := "com/example/gramstead/gramstead/estimation/RecordLayout", name := "bitsFor", desc := "(I)I" } : Jvm.MethodName) prog_19_method_12_code (1 : Nat) (Option.some Jvm.ClassFile.FieldType.int), Jvm.Cond.code ({ cls := "java/lang/Integer", name := "numberOfLeadingZeros", desc := "(I)I" } : Jvm.MethodName) jdk_33_method_47_code (2 : Nat) (Option.some Jvm.ClassFile.FieldType.int), Jvm.Cond.code ({ cls := "java/lang/Math", name := "max", desc := "(II)I" } : Jvm.MethodName) jdk_29_method_65_code (2 : Nat) (Option.some Jvm.ClassFile.FieldType.int), Jvm.Cond.code ({ cls := "com/example/gramstead/gramstead/estimation/RecordLayout", name := "keyLongs", desc := "()I" } : Jvm.MethodName) prog_19_method_3_code (1 : Nat) (Option.some Jvm.ClassFile.FieldType.int), Jvm.Cond.code ({ cls := "com/example/gramstead/gramstead/estimation/RecordLayout", name := "width", desc := "()I" } : Jvm.MethodName) prog_19_method_4_code (1 : Nat) (Option.some Jvm.ClassFile.FieldType.int), Jvm.Cond.code ({ cls := "com/example/gramstead/gramstead/estimation/RecordLayout", name := "putLong", desc := "([JIIJ)V" } : Jvm.MethodName) prog_19_method_9_code (6 : Nat) (Option.none : Option Jvm.ClassFile.FieldType), Jvm.Cond.code ({ cls := "com/example/gramstead/gramstead/estimation/RecordLayout", name := "getLong", desc := "([JII)J" } : Jvm.MethodName) prog_19_method_8_code (4 : Nat) (Option.some Jvm.ClassFile.FieldType.long), Jvm.Cond.code ({ cls := "com/example/gramstead/gramstead/estimation/RecordLayoutPutLongPinLaw", name := "cell", desc := "([JIIJJ)Z" } : Jvm.MethodName) method_2_code (7 : Nat) (Option.some Jvm.ClassFile.FieldType.boolean)]
set_option maxRecDepth 65536 in
theorem codes_eq : words1.filter isCode = codes1 := rfl
theorem w_codes : ∀ c ∈ words1.filter isCode, c.before args0 about1 = true := by
  rw [codes_eq]
  intro c hc
  simp only [codes1, List.mem_cons, List.not_mem_nil, or_false] at hc
  rcases hc with rfl | rfl | rfl | rfl | rfl | rfl | rfl | rfl | rfl | rfl | rfl
  · exact w_c0
  · exact w_c1
  · exact w_c2
  · exact w_c3
  · exact w_c4
  · exact w_c5
  · exact w_c6
  · exact w_c7
  · exact w_c8
  · exact w_c9
  · exact w_c10
set_option maxRecDepth 65536 in
theorem w_t1 : (words1.take 24).all (fun c => isCode c || c.before args0 about1) = true := by decide +kernel
set_option maxRecDepth 65536 in
theorem w_t2 : ((words1.drop 24).take 24).all (fun c => isCode c || c.before args0 about1) = true := by decide +kernel
set_option maxRecDepth 65536 in
theorem w_t3 : (((words1.drop 24).drop 24).take 24).all (fun c => isCode c || c.before args0 about1) = true := by decide +kernel
set_option maxRecDepth 65536 in
theorem w_t4 : (((words1.drop 24).drop 24).drop 24).all (fun c => isCode c || c.before args0 about1) = true := by decide +kernel
theorem w_tables : (allAtoms (Jvm.Cond.code x code maxLocals ret :: tables_1)).before args0 about1 = true := by
  rw [allAtoms_all]
  show words1.all (fun c => c.before args0 about1) = true
  refine all_split ?_ w_codes
  rw [← List.take_append_drop 24 words1, List.all_append, w_t1, ← List.take_append_drop 24 (words1.drop 24), List.all_append, w_t2, ← List.take_append_drop 24 ((words1.drop 24).drop 24), List.all_append, w_t3, w_t4]
  rfl
set_option maxRecDepth 65536 in
theorem w_case : (Jvm.Cond.and given_1 narrow_1).before args0 about1 = true := by decide +kernel
theorem w_applies : (headSpec (Jvm.Cond.code x code maxLocals ret :: tables_1) room_1).applies x e0.platform about1 = true :=
  (Spec.applies_iff w_frames).mpr ⟨w_running, w_runnable, w_alone, w_named, w_hears, w_ripe, w_room, w_tables⟩
theorem atStart : AtStart classFile x code maxLocals ret World_1 tables_1 room_1 Calls_1 rest_1 Pre_1 launch0 p0 e0 about1 theMethod args0 below0 :=
  ⟨lists_1, trivial, launch0.admits_env _ _ _, launch0.least_env, fairChoices_fair.cas, fairChoices_fair.clock, w_frames, w_args, w_heap, w_applies, trivial, trivial, w_case⟩
end start1
theorem witness_1 : WitnessClaimed_1 := ⟨start1.p0, start1.e0, start1.about1, start1.theMethod, start1.args0, start1.below0, start1.atStart⟩
end Jvm.Pilot.@@N@@
